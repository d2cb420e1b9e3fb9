import JvmDerived
import JvmDerived.Pilot.@@N@@Statement
import JvmDerived.Pilot.@@N@@Code
set_option linter.unusedVariables false
set_option linter.unusedSimpArgs false
namespace Jvm.RoadKit
open Sem ClassFile Op Lib Jvm.Stand Jvm.Free Jvm.LawKit
section New
variable {p : Program} {l : Launch} {e : Env} {R : Room} {s : State} {m : MethodId} {args : Array Value} {below : List Frame} {meth : Method} {c : Code} {T : State} {locs : List Loc} {cells slots : Nat}
theorem retI (X : Stand p l e R s m args below meth c T locs cells slots) (hx : p.tables.exec = Jvm.exec) {pc : Nat} {Ls : Array Slot} {z : Int32} {rest : List Value} (hret : meth.sig.returnType = some .int) (hd : decode c.code pc = .ok (.ireturn, 1)) {fs : List Frame}
    (hl : ∀ (f : JFrame) (acts : List Action), f.method = m → f.locked = none → f.entered = [] → (doReturn e (T.setTop f) acts (some (.int z))).1 = T.setFrames fs) : Steps p.tables e below (T.setTop (mkF m pc Ls (.int z :: rest))) (T.setFrames fs) := by
  have hm' : T.vm.method? m = some meth := X.method'
  have hn : narrow .int (.int z) = .int z := rfl
  show Steps p.tables e below (T.setTop { method := m, pc := pc, locals := Ls, stack := _ :: rest, locked := none }) _
  jvm_step X.here [X.here.top, hx, hd, hm', hret, hn]
  first | (intro acts; rw [hl _ acts rfl rfl rfl]) | rw [hl _ _ rfl rfl rfl]
  exact Steps.refl _
end New
end Jvm.RoadKit
namespace Jvm.Pilot.@@N@@
open Jvm Jvm.ClassFile Sem Op Lib Jvm.Free Jvm.Stand Jvm.LawKit Jvm.RoadKit Bundle Jvm.Pilot.@@N@@.Jvm.D
theorem own_lmod (x y : Int64) (hx : 0 ≤ x.toInt) : (x % y).toInt = x.toInt % y.toInt := by
  rw [Int64.toInt_mod]; exact Int.tmod_eq_emod_of_nonneg hx
theorem own_imod (x y : Int32) (hx : 0 ≤ x.toInt) : (x % y).toInt = x.toInt % y.toInt := by
  rw [Int32.toInt_mod]; exact Int.tmod_eq_emod_of_nonneg hx
theorem own_lmod_rng (x y : Int64) (hx : 0 ≤ x.toInt) (hy : 0 < y.toInt) : 0 ≤ (x % y).toInt ∧ (x % y).toInt < y.toInt := by
  rw [own_lmod x y hx]; exact ⟨Int.emod_nonneg _ (by omega), Int.emod_lt_of_pos _ hy⟩
theorem own_imod_rng (x y : Int32) (hx : 0 ≤ x.toInt) (hy : 0 < y.toInt) : 0 ≤ (x % y).toInt ∧ (x % y).toInt < y.toInt := by
  rw [own_imod x y hx]; exact ⟨Int.emod_nonneg _ (by omega), Int.emod_lt_of_pos _ hy⟩
theorem own_mI (x : Int32) : 0 ≤ (x &&& (2147483647 : Int32)).toInt ∧ (x &&& (2147483647 : Int32)).toInt ≤ 2147483647 := by
  have h := c_and x 2147483647 (by decide)
  have e : (2147483647 : Int32).toInt = 2147483647 := by decide
  omega
theorem own_mL (x : Int64) : 0 ≤ (x &&& (9223372036854775807 : Int64)).toInt ∧ (x &&& (9223372036854775807 : Int64)).toInt ≤ 9223372036854775807 := by
  have h := (c_andSL x 9223372036854775807).2.2 (by decide)
  have := rng64 (x &&& (9223372036854775807 : Int64))
  omega
theorem own_nz32 {x : Int32} (h : 0 < x.toInt) : ¬ (x = (0 : Int32)) := fun e => by subst e; revert h; decide
theorem own_nz64 {x : Int64} (h : 0 < x.toInt) : ¬ (x = (0 : Int64)) := fun e => by subst e; revert h; decide
theorem own_lt32 {x y : Int32} : x < y ↔ x.toInt < y.toInt := Int32.lt_iff_toInt_lt
theorem own_lt64 {x y : Int64} : x < y ↔ x.toInt < y.toInt := Int64.lt_iff_toInt_lt
theorem own_eq32 {x y : Int32} (h : x.toInt = y.toInt) : x = y := Int32.toInt_inj.mp h
theorem own_eq64 {x y : Int64} (h : x.toInt = y.toInt) : x = y := Int64.toInt_inj.mp h
theorem own_sel {Z s : State} {a0 args : Array Value} {y : MethodName} {n : Nat} (hZ : Z.Warmed39 s.vm) (hp : (Jvm.Cond.privateMethod y).before a0 Z = true) (hi : (Jvm.Cond.instanceMethod y).before a0 Z = true) (hn : (Jvm.Cond.instantiable y.cls n).before a0 Z = true)
    (hy : y.cls ≠ "java/lang/invoke/MethodHandle" ∧ y.cls ≠ "java/lang/invoke/VarHandle") : (Jvm.Cond.selects y.cls y y).before args s = true := by
  obtain ⟨c, k, hc, hk, -, hniab, -, -⟩ := Cond.instantiable_spec (mvT hZ hn (args := args))
  exact selects_self_of_private hc hk (Bool.or_eq_false_iff.mp hniab).1 (Cond.privateMethod_at (mvP hZ hp (args := #[]))) (mvT hZ hi) hy
def own_at (vs : List Value) (i : Nat) (d : Value) : Int32 := match vs.getD i d with | .int x => x | _ => 0
theorem own_at_eq {vs : List Value} {i : Nat} {d : Value} {ty : FieldType} (h : fits ty (vs.getD i d) = true) (ht : ty = .int ∨ ty = .boolean ∨ ty = .byte ∨ ty = .char ∨ ty = .short) : vs.getD i d = .int (own_at vs i d) := by
  obtain ⟨x, hx⟩ := fit_I h ht
  simp only [own_at, hx]
def own_cp (vd vs : List Value) (dv : Value) (dp sp nn : Nat) : List Value := vd.take dp ++ ((List.range nn).map fun i => vs.getD (sp + i) dv) ++ vd.drop (dp + nn)
theorem own_conv {Z : State} {h : Heap} {a : Addr} {k : ClassId} {ty : FieldType} {n : Int32} {vs vs' : List Value} {d : Value} (F : Arv Z h a k ty n vs d) (q : ∀ i, i < n.toNatClampNeg → vs'.getD i d = vs.getD i d) : Arv Z h a k ty n vs' d := by
  obtain ⟨c, A, q1, S, q3, H, G⟩ := F
  exact ⟨c, A, q1, S, q3, fun i hi => by rw [q i (S ▸ hi)]; exact H i hi, fun i hi => by rw [q i (S ▸ hi)]; exact G i hi⟩
theorem own_mono {l : Launch} {y : MethodName} {S : Spec} {P : Array Value → State → Prop} {K : Program → Env → List Frame → State → Array Value → Prop} {Q Q' : Array Value → State → Outcome → State → Prop} (h : MetFree l y S P K Q) (hi : ∀ a U o U', Q a U o U' → Q' a U o U') : MetFree l y S P K Q' :=
  fun p e ha hc hk s m args below hf happ hP hK => by
    obtain ⟨n, o, h1, h2, h3, hq⟩ := h p e ha hc hk s m args below hf happ hP hK
    exact ⟨n, o, h1, h2, h3, hi _ _ _ _ hq⟩
theorem own_cp_len (vd vs : List Value) (dv : Value) (dp sp nn : Nat) (h : dp + nn ≤ vd.length) : (own_cp vd vs dv dp sp nn).length = vd.length := by
  simp [own_cp]; omega
theorem own_cp_getD (vd vs : List Value) (dv : Value) (nn i : Nat) (h : nn ≤ vd.length) : (own_cp vd vs dv 0 0 nn).getD i dv = if i < nn then vs.getD i dv else vd.getD i dv := by
  simp only [own_cp, List.take_zero, List.nil_append, Nat.zero_add, List.getD_eq_getElem?_getD]
  by_cases c : i < nn
  · rw [if_pos c, List.getElem?_append_left (by simpa using c)]
    simp [c]
  · rw [if_neg c, List.getElem?_append_right (by simpa using c), List.getElem?_drop]
    congr 2
    simp; omega
theorem own_rep_getD (n i : Nat) (d : Value) : (List.replicate n d).getD i d = d := by
  simp only [List.getD_eq_getElem?_getD]
  by_cases c : i < n
  · simp [c]
  · simp [c]
def own_Z (vs : List Value) (n : Int32) : Prop := ∀ i, n.toNatClampNeg ≤ i → vs.getD i (.int (0 : Int32)) = .int (0 : Int32)
theorem own_grow {vs : List Value} {n : Int32} {K : Nat} (hz : own_Z vs n) (h : n.toNatClampNeg ≤ K) (i : Nat) : vs.getD i (.int (0 : Int32)) = (own_cp (List.replicate K (.int (0 : Int32))) vs (.int (0 : Int32)) (0 : Int32).toNatClampNeg (0 : Int32).toNatClampNeg n.toNatClampNeg).getD i (.int (0 : Int32)) := by
  have e := own_cp_getD (List.replicate K (.int (0 : Int32))) vs (.int (0 : Int32)) n.toNatClampNeg i (by simpa using h)
  refine Eq.trans ?_ e.symm
  by_cases c : i < n.toNatClampNeg
  · rw [if_pos c]
  · rw [if_neg c, own_rep_getD]; exact hz i (by omega)
theorem own_set_getD (vs : List Value) (j i : Nat) (v d : Value) (h : i ≠ j) : (vs.set j v).getD i d = vs.getD i d := by
  simp only [List.getD_eq_getElem?_getD, List.getElem?_set_ne (Ne.symm h)]
theorem own_Z_set {vs : List Value} {n n' j : Int32} {v : Value} (hz : own_Z vs n) (h1 : n.toNatClampNeg ≤ n'.toNatClampNeg) (h2 : j.toNatClampNeg < n'.toNatClampNeg) : own_Z (vs.set j.toNatClampNeg v) n' := fun i hi => by
  rw [own_set_getD _ _ _ _ _ (by omega)]; exact hz i (by omega)
theorem own_keep {h0 h : Heap} {a b : Addr} (K : Keep h0 h [a]) : Keep h0 h [a, b] := ⟨K.1, fun x c q r => K.2.1 x c q (fun z => r (by simp at z; simp [z])), K.2.2⟩
theorem own_shrink {vs : List Value} {p : Int32} {K : Nat} (h : p.toNatClampNeg ≤ K) (i : Nat) (hi : i < p.toNatClampNeg) : vs.getD i (.int (0 : Int32)) = (own_cp (List.replicate K (.int (0 : Int32))) vs (.int (0 : Int32)) (0 : Int32).toNatClampNeg (0 : Int32).toNatClampNeg p.toNatClampNeg).getD i (.int (0 : Int32)) := by
  have e := own_cp_getD (List.replicate K (.int (0 : Int32))) vs (.int (0 : Int32)) p.toNatClampNeg i (by simpa using h)
  refine Eq.trans ?_ e.symm
  rw [if_pos hi]
theorem own_keep2 {h0 h : Heap} {a b : Addr} (K : Keep h0 h [b, a]) : Keep h0 h [a, b] := ⟨K.1, fun x c q r => K.2.1 x c q (fun z => r (by simp at z ⊢; exact z.symm)), K.2.2⟩
theorem d5_0 : decode jdk_29_method_65_code 0 = .ok (.iload_n 0, 1) := by decide +kernel
theorem d5_1 : decode jdk_29_method_65_code 1 = .ok (.iload_n 1, 1) := by decide +kernel
theorem d5_2 : decode jdk_29_method_65_code 2 = .ok (.if_icmp .lt 7, 3) := by decide +kernel
theorem d5_5 : decode jdk_29_method_65_code 5 = .ok (.iload_n 0, 1) := by decide +kernel
theorem d5_6 : decode jdk_29_method_65_code 6 = .ok (.goto 4, 3) := by decide +kernel
theorem d5_10 : decode jdk_29_method_65_code 10 = .ok (.ireturn, 1) := by decide +kernel
theorem ef_5_II (m : MethodId) (x0 : Int32) (x1 : Int32) : entryFrame m #[(.int x0), (.int x1)] 2 = mkF m 0 #[.val (.int x0), .val (.int x1)] [] := by first | (simp [entryFrame, mkF, argsToLocals, Value.category]; done) | rfl
def Q_maxL (Z : State) (p1 : Int32) (p2 : Int32) (h0 : Heap) (n0 : Nat) (v : Option Value) (h : Heap) (L : List Loc) : Prop := v = some (.int p1) ∧ Fr n0 L ∧ h = h0
set_option maxRecDepth 65536 in
set_option maxHeartbeats 40000000 in
theorem rm_maxL (l : Launch) (Z : State) (a0 : Array Value) (hw : ∀ d ∈ tables_1, d.before a0 Z = true) (ws : List Jvm.Cond) (p1 : Int32) (p2 : Int32) (h0 : Heap) (n0 : Nat) (Z0 : n0 ≤ h0.size) (hc0 : ¬ (p1 < p2)) :
    MetFree l (⟨"java/lang/Math", "max", "(II)I"⟩ : MethodName) (head1 (Jvm.Cond.code (⟨"java/lang/Math", "max", "(II)I"⟩ : MethodName) jdk_29_method_65_code 2 (some .int) :: ws) ({ frames := 0, cells := 0, slots := 0, locals := 0 } : Room)) (fun a U => a = #[(.int p1), (.int p2)] ∧ Z.Warmed39 U.vm ∧ U.heap = h0) (fun _ _ _ _ _ => True) (fun _ U o U' => ∃ v L, o = .returned v ∧ Q_maxL Z p1 p2 h0 n0 v U'.heap L ∧ FrameEnd U o U' L ({ frames := 0, cells := 0, slots := 0, locals := 0 } : Room).cells ({ frames := 0, cells := 0, slots := 0, locals := 0 } : Room).slots) := by
  refine MetFree.of_bodySF (Jvm.Free.JP.mathPlain rfl (by decide +kernel)) hisR ?_
  intro p e s m args below meth c s₁ Bd hml0 hP hK
  obtain ⟨rfl, hZ, hh⟩ := hP
  have hx := Bd.exec
  have hby := Bd.bytes
  have hml : c.maxLocals = 2 := hml0
  have hown : s.vm.findClass "java/lang/Math" = some m.cls := findClass_of_methodNamed Bd.named
  have hnm := (name_of_methodNamed Bd.named Bd.method).1
  have X0 : Stand p l e ({ frames := 0, cells := 0, slots := 0, locals := 0 } : Room) s m #[(.int p1), (.int p2)] below meth c s₁ [] 0 0 := Stand.of_body Bd
  have e0 : s₁.heap = h0 := by rw [← hh, Bd.state]; rfl
  have N0 := Fr.nil n0
  have pre0 : ∀ t, Steps p.tables e below (s₁.setTop (mkF m 0 #[.val (.int p1), .val (.int p2)] [])) t → Steps p.tables e below (s₁.setTop (entryFrame m #[(.int p1), (.int p2)] 2)) t := fun t k => castTop (ef_5_II m p1 p2) k
  obtain ⟨fs, hr, hrun, hended, hW, hsame⟩ := X0.leave (v := some (.int p1)) (fun h => by rw [Bd.returns] at h; cases h) Bd.notSynchronized
  refine ⟨_, _, pre0 _ ?_, hrun, hended, _, _, rfl, ?_, ⟨_, rfl⟩, hW, hsame.mono (by decide) (by decide)⟩
  · show Steps p.tables e below (s₁.setTop (mkF m 0 #[.val (.int p1), .val (.int p2)] [])) _
    refine XS.iloadN X0.here hx rfl (hb hby d5_0) rfl ?_
    show Steps p.tables e below (s₁.setTop (mkF m 1 #[.val (.int p1), .val (.int p2)] [(.int p1)])) _
    refine XS.iloadN X0.here hx rfl (hb hby d5_1) rfl ?_
    show Steps p.tables e below (s₁.setTop (mkF m 2 #[.val (.int p1), .val (.int p2)] [(.int p2), (.int p1)])) _
    refine XS.icmpNo X0.here hx rfl (hb hby d5_2) rfl (flt hc0).1 ?_
    show Steps p.tables e below (s₁.setTop (mkF m 5 #[.val (.int p1), .val (.int p2)] [])) _
    refine XS.iloadN X0.here hx rfl (hb hby d5_5) rfl ?_
    show Steps p.tables e below (s₁.setTop (mkF m 6 #[.val (.int p1), .val (.int p2)] [(.int p1)])) _
    refine XS.goto X0.here hx rfl (pc0 := 6) (pc' := 10) rfl (hb hby d5_6) (by decide) (by decide) ?_
    show Steps p.tables e below (s₁.setTop (mkF m 10 #[.val (.int p1), .val (.int p2)] [(.int p1)])) _
    exact retI X0 hx Bd.returns (hb hby d5_10) hr
  · show Q_maxL Z p1 p2 h0 n0 _ s₁.heap _
    rw [e0]
    exact ⟨rfl, N0, rfl⟩
theorem d5_9 : decode jdk_29_method_65_code 9 = .ok (.iload_n 1, 1) := by decide +kernel
def Q_maxR (Z : State) (p1 : Int32) (p2 : Int32) (h0 : Heap) (n0 : Nat) (v : Option Value) (h : Heap) (L : List Loc) : Prop := v = some (.int p2) ∧ Fr n0 L ∧ h = h0
set_option maxRecDepth 65536 in
set_option maxHeartbeats 40000000 in
theorem rm_maxR (l : Launch) (Z : State) (a0 : Array Value) (hw : ∀ d ∈ tables_1, d.before a0 Z = true) (ws : List Jvm.Cond) (p1 : Int32) (p2 : Int32) (h0 : Heap) (n0 : Nat) (Z0 : n0 ≤ h0.size) (hc0 : p1 < p2) :
    MetFree l (⟨"java/lang/Math", "max", "(II)I"⟩ : MethodName) (head1 (Jvm.Cond.code (⟨"java/lang/Math", "max", "(II)I"⟩ : MethodName) jdk_29_method_65_code 2 (some .int) :: ws) ({ frames := 0, cells := 0, slots := 0, locals := 0 } : Room)) (fun a U => a = #[(.int p1), (.int p2)] ∧ Z.Warmed39 U.vm ∧ U.heap = h0) (fun _ _ _ _ _ => True) (fun _ U o U' => ∃ v L, o = .returned v ∧ Q_maxR Z p1 p2 h0 n0 v U'.heap L ∧ FrameEnd U o U' L ({ frames := 0, cells := 0, slots := 0, locals := 0 } : Room).cells ({ frames := 0, cells := 0, slots := 0, locals := 0 } : Room).slots) := by
  refine MetFree.of_bodySF (Jvm.Free.JP.mathPlain rfl (by decide +kernel)) hisR ?_
  intro p e s m args below meth c s₁ Bd hml0 hP hK
  obtain ⟨rfl, hZ, hh⟩ := hP
  have hx := Bd.exec
  have hby := Bd.bytes
  have hml : c.maxLocals = 2 := hml0
  have hown : s.vm.findClass "java/lang/Math" = some m.cls := findClass_of_methodNamed Bd.named
  have hnm := (name_of_methodNamed Bd.named Bd.method).1
  have X0 : Stand p l e ({ frames := 0, cells := 0, slots := 0, locals := 0 } : Room) s m #[(.int p1), (.int p2)] below meth c s₁ [] 0 0 := Stand.of_body Bd
  have e0 : s₁.heap = h0 := by rw [← hh, Bd.state]; rfl
  have N0 := Fr.nil n0
  have pre0 : ∀ t, Steps p.tables e below (s₁.setTop (mkF m 0 #[.val (.int p1), .val (.int p2)] [])) t → Steps p.tables e below (s₁.setTop (entryFrame m #[(.int p1), (.int p2)] 2)) t := fun t k => castTop (ef_5_II m p1 p2) k
  obtain ⟨fs, hr, hrun, hended, hW, hsame⟩ := X0.leave (v := some (.int p2)) (fun h => by rw [Bd.returns] at h; cases h) Bd.notSynchronized
  refine ⟨_, _, pre0 _ ?_, hrun, hended, _, _, rfl, ?_, ⟨_, rfl⟩, hW, hsame.mono (by decide) (by decide)⟩
  · show Steps p.tables e below (s₁.setTop (mkF m 0 #[.val (.int p1), .val (.int p2)] [])) _
    refine XS.iloadN X0.here hx rfl (hb hby d5_0) rfl ?_
    show Steps p.tables e below (s₁.setTop (mkF m 1 #[.val (.int p1), .val (.int p2)] [(.int p1)])) _
    refine XS.iloadN X0.here hx rfl (hb hby d5_1) rfl ?_
    show Steps p.tables e below (s₁.setTop (mkF m 2 #[.val (.int p1), .val (.int p2)] [(.int p2), (.int p1)])) _
    refine XS.icmpYes X0.here hx rfl (pc0 := 2) (pc' := 9) rfl (hb hby d5_2) rfl (tlt hc0).1 (by decide) (by decide) ?_
    show Steps p.tables e below (s₁.setTop (mkF m 9 #[.val (.int p1), .val (.int p2)] [])) _
    refine XS.iloadN X0.here hx rfl (hb hby d5_9) rfl ?_
    show Steps p.tables e below (s₁.setTop (mkF m 10 #[.val (.int p1), .val (.int p2)] [(.int p2)])) _
    exact retI X0 hx Bd.returns (hb hby d5_10) hr
  · show Q_maxR Z p1 p2 h0 n0 _ s₁.heap _
    rw [e0]
    exact ⟨rfl, N0, rfl⟩
theorem d7_0 : decode jdk_29_method_69_code 0 = .ok (.iload_n 0, 1) := by decide +kernel
theorem d7_1 : decode jdk_29_method_69_code 1 = .ok (.iload_n 1, 1) := by decide +kernel
theorem d7_2 : decode jdk_29_method_69_code 2 = .ok (.if_icmp .gt 7, 3) := by decide +kernel
theorem d7_5 : decode jdk_29_method_69_code 5 = .ok (.iload_n 0, 1) := by decide +kernel
theorem d7_6 : decode jdk_29_method_69_code 6 = .ok (.goto 4, 3) := by decide +kernel
theorem d7_10 : decode jdk_29_method_69_code 10 = .ok (.ireturn, 1) := by decide +kernel
theorem ef_7_II (m : MethodId) (x0 : Int32) (x1 : Int32) : entryFrame m #[(.int x0), (.int x1)] 2 = mkF m 0 #[.val (.int x0), .val (.int x1)] [] := by first | (simp [entryFrame, mkF, argsToLocals, Value.category]; done) | rfl
def Q_minL (Z : State) (p1 : Int32) (p2 : Int32) (h0 : Heap) (n0 : Nat) (v : Option Value) (h : Heap) (L : List Loc) : Prop := v = some (.int p1) ∧ Fr n0 L ∧ h = h0
set_option maxRecDepth 65536 in
set_option maxHeartbeats 40000000 in
theorem rm_minL (l : Launch) (Z : State) (a0 : Array Value) (hw : ∀ d ∈ tables_1, d.before a0 Z = true) (ws : List Jvm.Cond) (p1 : Int32) (p2 : Int32) (h0 : Heap) (n0 : Nat) (Z0 : n0 ≤ h0.size) (hc0 : ¬ (p2 < p1)) :
    MetFree l (⟨"java/lang/Math", "min", "(II)I"⟩ : MethodName) (head1 (Jvm.Cond.code (⟨"java/lang/Math", "min", "(II)I"⟩ : MethodName) jdk_29_method_69_code 2 (some .int) :: ws) ({ frames := 0, cells := 0, slots := 0, locals := 0 } : Room)) (fun a U => a = #[(.int p1), (.int p2)] ∧ Z.Warmed39 U.vm ∧ U.heap = h0) (fun _ _ _ _ _ => True) (fun _ U o U' => ∃ v L, o = .returned v ∧ Q_minL Z p1 p2 h0 n0 v U'.heap L ∧ FrameEnd U o U' L ({ frames := 0, cells := 0, slots := 0, locals := 0 } : Room).cells ({ frames := 0, cells := 0, slots := 0, locals := 0 } : Room).slots) := by
  refine MetFree.of_bodySF (Jvm.Free.JP.mathPlain rfl (by decide +kernel)) hisR ?_
  intro p e s m args below meth c s₁ Bd hml0 hP hK
  obtain ⟨rfl, hZ, hh⟩ := hP
  have hx := Bd.exec
  have hby := Bd.bytes
  have hml : c.maxLocals = 2 := hml0
  have hown : s.vm.findClass "java/lang/Math" = some m.cls := findClass_of_methodNamed Bd.named
  have hnm := (name_of_methodNamed Bd.named Bd.method).1
  have X0 : Stand p l e ({ frames := 0, cells := 0, slots := 0, locals := 0 } : Room) s m #[(.int p1), (.int p2)] below meth c s₁ [] 0 0 := Stand.of_body Bd
  have e0 : s₁.heap = h0 := by rw [← hh, Bd.state]; rfl
  have N0 := Fr.nil n0
  have pre0 : ∀ t, Steps p.tables e below (s₁.setTop (mkF m 0 #[.val (.int p1), .val (.int p2)] [])) t → Steps p.tables e below (s₁.setTop (entryFrame m #[(.int p1), (.int p2)] 2)) t := fun t k => castTop (ef_7_II m p1 p2) k
  obtain ⟨fs, hr, hrun, hended, hW, hsame⟩ := X0.leave (v := some (.int p1)) (fun h => by rw [Bd.returns] at h; cases h) Bd.notSynchronized
  refine ⟨_, _, pre0 _ ?_, hrun, hended, _, _, rfl, ?_, ⟨_, rfl⟩, hW, hsame.mono (by decide) (by decide)⟩
  · show Steps p.tables e below (s₁.setTop (mkF m 0 #[.val (.int p1), .val (.int p2)] [])) _
    refine XS.iloadN X0.here hx rfl (hb hby d7_0) rfl ?_
    show Steps p.tables e below (s₁.setTop (mkF m 1 #[.val (.int p1), .val (.int p2)] [(.int p1)])) _
    refine XS.iloadN X0.here hx rfl (hb hby d7_1) rfl ?_
    show Steps p.tables e below (s₁.setTop (mkF m 2 #[.val (.int p1), .val (.int p2)] [(.int p2), (.int p1)])) _
    refine XS.icmpNo X0.here hx rfl (hb hby d7_2) rfl (flt hc0).2.2.1 ?_
    show Steps p.tables e below (s₁.setTop (mkF m 5 #[.val (.int p1), .val (.int p2)] [])) _
    refine XS.iloadN X0.here hx rfl (hb hby d7_5) rfl ?_
    show Steps p.tables e below (s₁.setTop (mkF m 6 #[.val (.int p1), .val (.int p2)] [(.int p1)])) _
    refine XS.goto X0.here hx rfl (pc0 := 6) (pc' := 10) rfl (hb hby d7_6) (by decide) (by decide) ?_
    show Steps p.tables e below (s₁.setTop (mkF m 10 #[.val (.int p1), .val (.int p2)] [(.int p1)])) _
    exact retI X0 hx Bd.returns (hb hby d7_10) hr
  · show Q_minL Z p1 p2 h0 n0 _ s₁.heap _
    rw [e0]
    exact ⟨rfl, N0, rfl⟩
theorem pd_0 : parseMethodDescriptor "(II)I" = some ⟨[.int, .int], some .int⟩ := by decide +kernel
theorem d6_0 : decode jdk_65_method_121_code 0 = .ok (.iload_n 1, 1) := by decide +kernel
theorem d6_1 : decode jdk_65_method_121_code 1 = .ok (.aload_n 0, 1) := by decide +kernel
theorem d6_2 : decode jdk_65_method_121_code 2 = .ok (.arraylength, 1) := by decide +kernel
theorem d6_3 : decode jdk_65_method_121_code 3 = .ok (.if_icmp .ne 11, 3) := by decide +kernel
theorem d6_14 : decode jdk_65_method_121_code 14 = .ok (.iload_n 1, 1) := by decide +kernel
theorem d6_15 : decode jdk_65_method_121_code 15 = .ok (.newarray .byte, 2) := by decide +kernel
theorem d6_17 : decode jdk_65_method_121_code 17 = .ok (.astore_n 2, 1) := by decide +kernel
theorem d6_18 : decode jdk_65_method_121_code 18 = .ok (.aload_n 0, 1) := by decide +kernel
theorem d6_19 : decode jdk_65_method_121_code 19 = .ok (.iconst 0, 1) := by decide +kernel
theorem d6_20 : decode jdk_65_method_121_code 20 = .ok (.aload_n 2, 1) := by decide +kernel
theorem d6_21 : decode jdk_65_method_121_code 21 = .ok (.iconst 0, 1) := by decide +kernel
theorem d6_22 : decode jdk_65_method_121_code 22 = .ok (.aload_n 0, 1) := by decide +kernel
theorem d6_23 : decode jdk_65_method_121_code 23 = .ok (.arraylength, 1) := by decide +kernel
theorem d6_24 : decode jdk_65_method_121_code 24 = .ok (.iload_n 1, 1) := by decide +kernel
theorem d6_25 : decode jdk_65_method_121_code 25 = .ok (.invokestatic 304, 3) := by decide +kernel
theorem d6_28 : decode jdk_65_method_121_code 28 = .ok (.invokestatic 150, 3) := by decide +kernel
theorem d6_31 : decode jdk_65_method_121_code 31 = .ok (.aload_n 2, 1) := by decide +kernel
theorem d6_32 : decode jdk_65_method_121_code 32 = .ok (.areturn, 1) := by decide +kernel
theorem pn_java_util_Arrays : plainName "java/util/Arrays" = true := by first | (simp [plainName, overriddenIn]; done) | decide +kernel
theorem ef_6_RI (m : MethodId) (x0 : Addr) (x1 : Int32) : entryFrame m #[(.ref x0), (.int x1)] 3 = mkF m 0 #[.val (.ref x0), .val (.int x1), .unset] [] := by first | (simp [entryFrame, mkF, argsToLocals, Value.category]; done) | rfl
def Q_copyOf (Z : State) (a1 : Addr) (p2 : Int32) (k_a1 : ClassId) (n_a1 : Int32) (vs_a1 : List Value) (h0 : Heap) (n0 : Nat) (v : Option Value) (h : Heap) (L : List Loc) : Prop := ∃ (o1 : Addr), ∃ (ko1 : ClassId), v = some (.ref o1) ∧ Fr n0 L ∧ n0 ≤ o1 ∧ h0.size ≤ o1 ∧ Keep h0 h [] ∧ Exa Z h o1 "[B" ∧ Arv Z h o1 ko1 .byte p2 vs_a1 (.int (0 : Int32))
set_option maxRecDepth 65536 in
set_option maxHeartbeats 40000000 in
theorem rm_copyOf (l : Launch) (Z : State) (a0 : Array Value) (hw : ∀ d ∈ tables_1, d.before a0 Z = true) (ws : List Jvm.Cond) (a1 : Addr) (p2 : Int32) (k_a1 : ClassId) (n_a1 : Int32) (vs_a1 : List Value) (h0 : Heap) (n0 : Nat) (Z0 : n0 ≤ h0.size) (V_a1 : Arv Z h0 a1 k_a1 .byte n_a1 vs_a1 (.int (0 : Int32))) (hp0 : ¬ (p2 < (0 : Int32))) (hp1 : p2.toNatClampNeg ≤ 14) (hp2 : ¬ (p2 < n_a1)) (hp3 : ¬ (n_a1 < (0 : Int32))) (hp4 : (0 : Int32).toNatClampNeg + n_a1.toNatClampNeg ≤ n_a1.toNatClampNeg) (hp5 : (0 : Int32).toNatClampNeg + n_a1.toNatClampNeg ≤ p2.toNatClampNeg) (hp6 : (0 : Int32).toNatClampNeg + n_a1.toNatClampNeg ≤ (List.replicate 16 (Value.int (0 : Int32))).length) (hp7 : own_Z vs_a1 n_a1) (hp8 : n_a1.toNatClampNeg ≤ 16) (hc0 : ¬ (p2 = n_a1)) :
    MetFree l (⟨"java/util/Arrays", "copyOf", "([BI)[B"⟩ : MethodName) (head1 (Jvm.Cond.code (⟨"java/util/Arrays", "copyOf", "([BI)[B"⟩ : MethodName) jdk_65_method_121_code 3 (some (.array .byte)) :: ws) ({ frames := 1, cells := 1, slots := 14, locals := 18 } : Room)) (fun a U => a = #[(.ref a1), (.int p2)] ∧ Z.Warmed39 U.vm ∧ U.heap = h0) (fun _ _ _ _ _ => True) (fun _ U o U' => ∃ v L, o = .returned v ∧ Q_copyOf Z a1 p2 k_a1 n_a1 vs_a1 h0 n0 v U'.heap L ∧ FrameEnd U o U' L ({ frames := 1, cells := 1, slots := 14, locals := 18 } : Room).cells ({ frames := 1, cells := 1, slots := 14, locals := 18 } : Room).slots) := by
  refine MetFree.of_bodySF (plainFor_of_name pn_java_util_Arrays) hisR ?_
  intro p e s m args below meth c s₁ Bd hml0 hP hK
  obtain ⟨rfl, hZ, hh⟩ := hP
  have hx := Bd.exec
  have hby := Bd.bytes
  have hml : c.maxLocals = 3 := hml0
  have hown : s.vm.findClass "java/util/Arrays" = some m.cls := findClass_of_methodNamed Bd.named
  have hnm := (name_of_methodNamed Bd.named Bd.method).1
  have X0 : Stand p l e ({ frames := 1, cells := 1, slots := 14, locals := 18 } : Room) s m #[(.ref a1), (.int p2)] below meth c s₁ [] 0 0 := Stand.of_body Bd
  have e0 : s₁.heap = h0 := by rw [← hh, Bd.state]; rfl
  have N0 := Fr.nil n0
  have pre0 : ∀ t, Steps p.tables e below (s₁.setTop (mkF m 0 #[.val (.ref a1), .val (.int p2), .unset] [])) t → Steps p.tables e below (s₁.setTop (entryFrame m #[(.ref a1), (.int p2)] 3)) t := fun t k => castTop (ef_6_RI m a1 p2) k
  obtain ⟨clo1, Aro1, -, So1, No1, -, -⟩ := id V_a1
  obtain ⟨T2, h2, k2, X2, e2, E2, A2, Ex2, st2⟩ := newPE X0 hx hZ (hw _ (List.mem_of_getElem? (i := 9) rfl)) e0 (g := (mkF m 15 #[.val (.ref a1), .val (.int p2), .unset] [(.int p2)])) rfl (hb hby d6_15) rfl hp0 (cap := 14) hp1 (by decide) (by decide) (by decide) (ad := "[B") (by decide)
  obtain ⟨b2, g2⟩ : ∃ z, z = h0.size := ⟨_, rfl⟩
  rw [← g2] at A2 Ex2 st2
  have g_b2 : n0 ≤ b2 := Nat.le_trans Z0 (Nat.le_of_eq g2.symm)
  have sz_b2 : h0.size ≤ b2 := Nat.le_trans (Keep.refl h0 []).1 (Nat.le_of_eq g2.symm)
  have ne_a1_b2 : a1 ≠ b2 := Nat.ne_of_lt (Nat.lt_of_lt_of_le V_a1.lt (Nat.le_of_eq g2.symm))
  have f3 : Arv Z h2 a1 k_a1 .byte n_a1 vs_a1 (.int (0 : Int32)) := V_a1.ext E2
  have K4 : Keep h0 h2 [] := (Keep.refl h0 []).ext E2
  have Zs5 : n0 ≤ h2.size := Nat.le_trans Z0 E2.1
  have f6 : Arv Z h2 b2 k2 .byte p2 (List.replicate 16 (Value.int (0 : Int32))) (.int (0 : Int32)) := (Arv.new A2 hp0).pad (pad_rep [] (.int (0 : Int32)) 16)
  obtain ⟨clo7, Aro7, -, So7, No7, -, -⟩ := id f3
  obtain ⟨_, _, ⟨T8, L8, k8, n8⟩, -, X8, ⟨Lc8, hQ8, l8, y8, z8⟩, st8⟩ := Jvm.LawKit.callS X2 hx (y := (⟨"java/lang/Math", "min", "(II)I"⟩ : MethodName)) hown (mvT hZ (hw _ (List.mem_of_getElem? (i := 31) rfl))) (mvT hZ (hw _ (List.mem_of_getElem? (i := 32) rfl))) (mvT hZ (hw _ (List.mem_of_getElem? (i := 25) rfl))) (mvT hZ (hw _ (List.mem_of_getElem? (i := 33) rfl))) (by decide) (backOf (W := 4) (rm_minL l Z a0 hw [] n_a1 p2 h2 n0 Zs5 hp2) hZ (hw _ (List.mem_of_getElem? (i := 33) rfl)) (hw _ (List.mem_of_getElem? (i := 25) rfl)) (by decide) (by decide)) (g := (mkF m 25 #[.val (.ref a1), .val (.int p2), .val (.ref b2)] [(.int p2), (.int n_a1), (.int (0 : Int32)), (.ref b2), (.int (0 : Int32)), (.ref a1)])) rfl (by rw [hml]; rfl) (argsL := [(.int n_a1), (.int p2)]) (rest := [(.int (0 : Int32)), (.ref b2), (.int (0 : Int32)), (.ref a1)]) (lenOf pd_0 rfl) rfl (by show 2 * 0 + _ ≤ _; exact Nat.le_of_eq rfl) (hb hby d6_25) (fun _ _ => ⟨rfl, e2, (by decide : 1 + 0 ≤ _), (by decide : 14 + 0 ≤ _)⟩)
  dsimp only [Pt.U, Pt.locs, Pt.cells, Pt.slots] at X8 l8 y8 z8 st8 hQ8
  subst l8 y8 z8
  obtain ⟨rfl, Nq8, e8⟩ := hQ8
  have N9 := Fr.app N0 Nq8
  obtain ⟨T10, h10, L10, X10, e10, N10, Kc10, V10, st10⟩ := cpA X8 hx hZ hown (hw _ (List.mem_of_getElem? (i := 34) rfl)) (hw _ (List.mem_of_getElem? (i := 37) rfl)) (hw _ (List.mem_of_getElem? (i := 35) rfl)) (hw _ (List.mem_of_getElem? (i := 36) rfl)) e8 f3 f6 (Or.inl ⟨rfl, rfl⟩) (by decide) (by decide) hp3 hp4 hp5 rfl hp6 N9 g_b2 (g := (mkF m 28 #[.val (.ref a1), .val (.int p2), .val (.ref b2)] [(.int n_a1), (.int (0 : Int32)), (.ref b2), (.int (0 : Int32)), (.ref a1)])) rfl (by rw [hml]; rfl) rfl (hb hby d6_28) (by decide) (W := 0) (by show 2 * 0 + _ ≤ _; exact Nat.le_of_eq rfl) (by decide)
  have f11 : Arv Z h10 b2 k2 .byte p2 (own_cp (List.replicate 16 (Value.int (0 : Int32))) vs_a1 (.int (0 : Int32)) (0 : Int32).toNatClampNeg (0 : Int32).toNatClampNeg n_a1.toNatClampNeg) (.int (0 : Int32)) := V10
  have f12 : Arv Z h10 a1 k_a1 .byte n_a1 vs_a1 (.int (0 : Int32)) := f3.keep Kc10 (ninS ne_a1_b2 nin0)
  have f13 : Exa Z h10 b2 "[B" := Ex2.keep Kc10
  have K14 : Keep h0 h10 [] := K4.trans Kc10 (allS (Or.inr sz_b2) all0)
  have Zs15 : n0 ≤ h10.size := Nat.le_trans Zs5 Kc10.1
  have f16 : Arv Z h10 b2 k2 .byte p2 vs_a1 (.int (0 : Int32)) := own_conv f11 (fun i _ => own_grow hp7 hp8 i)
  obtain ⟨fs, hr, hrun, hended, hW, hsame⟩ := X10.leave (v := some (.ref b2)) (fun h => by rw [Bd.returns] at h; cases h) Bd.notSynchronized
  refine ⟨_, _, pre0 _ ?_, hrun, hended, _, _, rfl, ?_, ⟨_, rfl⟩, hW, hsame.mono (by decide) (by decide)⟩
  · show Steps p.tables e below (s₁.setTop (mkF m 0 #[.val (.ref a1), .val (.int p2), .unset] [])) _
    refine XS.iloadN X0.here hx rfl (hb hby d6_0) rfl ?_
    show Steps p.tables e below (s₁.setTop (mkF m 1 #[.val (.ref a1), .val (.int p2), .unset] [(.int p2)])) _
    refine XS.aloadN X0.here hx rfl (hb hby d6_1) rfl rfl ?_
    show Steps p.tables e below (s₁.setTop (mkF m 2 #[.val (.ref a1), .val (.int p2), .unset] [(.ref a1), (.int p2)])) _
    refine X0.arraylength hx (by rw [e0]; exact Aro1.1) (State.isArrayOf_alike hZ.alike Aro1.2.1) (g := (mkF m 2 #[.val (.ref a1), .val (.int p2), .unset] [(.ref a1), (.int p2)])) rfl rfl (hb hby d6_2) _ ?_
    rw [len_of So1 No1]
    show Steps p.tables e below (s₁.setTop (mkF m 3 #[.val (.ref a1), .val (.int p2), .unset] [(.int n_a1), (.int p2)])) _
    refine XS.icmpYes X0.here hx rfl (pc0 := 3) (pc' := 14) rfl (hb hby d6_3) rfl (feq hc0).2 (by decide) (by decide) ?_
    show Steps p.tables e below (s₁.setTop (mkF m 14 #[.val (.ref a1), .val (.int p2), .unset] [])) _
    refine XS.iloadN X0.here hx rfl (hb hby d6_14) rfl ?_
    show Steps p.tables e below (s₁.setTop (mkF m 15 #[.val (.ref a1), .val (.int p2), .unset] [(.int p2)])) _
    refine st2 _ ?_
    show Steps p.tables e below (T2.setTop (mkF m 17 #[.val (.ref a1), .val (.int p2), .unset] [(.ref b2)])) _
    refine XS.astoreN X2.here hx rfl (hb hby d6_17) rfl rfl (l' := #[.val (.ref a1), .val (.int p2), .val (.ref b2)]) rfl ?_
    show Steps p.tables e below (T2.setTop (mkF m 18 #[.val (.ref a1), .val (.int p2), .val (.ref b2)] [])) _
    refine XS.aloadN X2.here hx rfl (hb hby d6_18) rfl rfl ?_
    show Steps p.tables e below (T2.setTop (mkF m 19 #[.val (.ref a1), .val (.int p2), .val (.ref b2)] [(.ref a1)])) _
    refine XS.iconst X2.here hx rfl (hb hby d6_19) ?_
    show Steps p.tables e below (T2.setTop (mkF m 20 #[.val (.ref a1), .val (.int p2), .val (.ref b2)] [(.int (0 : Int32)), (.ref a1)])) _
    refine XS.aloadN X2.here hx rfl (hb hby d6_20) rfl rfl ?_
    show Steps p.tables e below (T2.setTop (mkF m 21 #[.val (.ref a1), .val (.int p2), .val (.ref b2)] [(.ref b2), (.int (0 : Int32)), (.ref a1)])) _
    refine XS.iconst X2.here hx rfl (hb hby d6_21) ?_
    show Steps p.tables e below (T2.setTop (mkF m 22 #[.val (.ref a1), .val (.int p2), .val (.ref b2)] [(.int (0 : Int32)), (.ref b2), (.int (0 : Int32)), (.ref a1)])) _
    refine XS.aloadN X2.here hx rfl (hb hby d6_22) rfl rfl ?_
    show Steps p.tables e below (T2.setTop (mkF m 23 #[.val (.ref a1), .val (.int p2), .val (.ref b2)] [(.ref a1), (.int (0 : Int32)), (.ref b2), (.int (0 : Int32)), (.ref a1)])) _
    refine X2.arraylength hx (by rw [e2]; exact Aro7.1) (State.isArrayOf_alike hZ.alike Aro7.2.1) (g := (mkF m 23 #[.val (.ref a1), .val (.int p2), .val (.ref b2)] [(.ref a1), (.int (0 : Int32)), (.ref b2), (.int (0 : Int32)), (.ref a1)])) rfl rfl (hb hby d6_23) _ ?_
    rw [len_of So7 No7]
    show Steps p.tables e below (T2.setTop (mkF m 24 #[.val (.ref a1), .val (.int p2), .val (.ref b2)] [(.int n_a1), (.int (0 : Int32)), (.ref b2), (.int (0 : Int32)), (.ref a1)])) _
    refine XS.iloadN X2.here hx rfl (hb hby d6_24) rfl ?_
    show Steps p.tables e below (T2.setTop (mkF m 25 #[.val (.ref a1), .val (.int p2), .val (.ref b2)] [(.int p2), (.int n_a1), (.int (0 : Int32)), (.ref b2), (.int (0 : Int32)), (.ref a1)])) _
    refine st8 _ ?_
    show Steps p.tables e below (T8.setTop (mkF m 28 #[.val (.ref a1), .val (.int p2), .val (.ref b2)] [(.int n_a1), (.int (0 : Int32)), (.ref b2), (.int (0 : Int32)), (.ref a1)])) _
    refine st10 _ ?_
    show Steps p.tables e below (T10.setTop (mkF m 31 #[.val (.ref a1), .val (.int p2), .val (.ref b2)] [])) _
    refine XS.aloadN X10.here hx rfl (hb hby d6_31) rfl rfl ?_
    show Steps p.tables e below (T10.setTop (mkF m 32 #[.val (.ref a1), .val (.int p2), .val (.ref b2)] [(.ref b2)])) _
    exact retOut X10 hx (t := (.array .byte)) (i := .areturn) Bd.returns rfl (Or.inr (Or.inr (Or.inr (Or.inr ⟨rfl, rfl, rfl⟩)))) (hb hby d6_32) hr
  · show Q_copyOf Z a1 p2 k_a1 n_a1 vs_a1 h0 n0 _ T10.heap _
    rw [e10]
    exact ⟨b2, k2, rfl, N10, g_b2, sz_b2, K14, f13, f16⟩
theorem d8_0 : decode prog_18_method_6_code 0 = .ok (.aload_n 0, 1) := by decide +kernel
theorem d8_1 : decode prog_18_method_6_code 1 = .ok (.getfield 17, 3) := by decide +kernel
theorem d8_4 : decode prog_18_method_6_code 4 = .ok (.ireturn, 1) := by decide +kernel
theorem pn_com_example_wellform_wellform_cli_ByteBatch : plainName "com/example/wellform/wellform/cli/ByteBatch" = true := by first | (simp [plainName, overriddenIn]; done) | decide +kernel
theorem ef_8_R (m : MethodId) (x0 : Addr) : entryFrame m #[(.ref x0)] 1 = mkF m 0 #[.val (.ref x0)] [] := by first | (simp [entryFrame, mkF, argsToLocals, Value.category]; done) | rfl
def Q_size (Z : State) (a1 : Addr) (w_size_a1 : Int32) (h0 : Heap) (n0 : Nat) (v : Option Value) (h : Heap) (L : List Loc) : Prop := v = some (.int w_size_a1) ∧ Fr n0 L ∧ h = h0
set_option maxRecDepth 65536 in
set_option maxHeartbeats 40000000 in
theorem rm_size (l : Launch) (Z : State) (a0 : Array Value) (hw : ∀ d ∈ tables_1, d.before a0 Z = true) (ws : List Jvm.Cond) (a1 : Addr) (w_size_a1 : Int32) (h0 : Heap) (n0 : Nat) (Z0 : n0 ≤ h0.size) (F_size_a1 : Fld Z h0 a1 "com/example/wellform/wellform/cli/ByteBatch" "size" "I" (.int w_size_a1)) :
    MetFree l (⟨"com/example/wellform/wellform/cli/ByteBatch", "size", "()I"⟩ : MethodName) (head1 (Jvm.Cond.code (⟨"com/example/wellform/wellform/cli/ByteBatch", "size", "()I"⟩ : MethodName) prog_18_method_6_code 1 (some .int) :: ws) ({ frames := 0, cells := 0, slots := 0, locals := 0 } : Room)) (fun a U => a = #[(.ref a1)] ∧ Z.Warmed39 U.vm ∧ U.heap = h0) (fun _ _ _ _ _ => True) (fun _ U o U' => ∃ v L, o = .returned v ∧ Q_size Z a1 w_size_a1 h0 n0 v U'.heap L ∧ FrameEnd U o U' L ({ frames := 0, cells := 0, slots := 0, locals := 0 } : Room).cells ({ frames := 0, cells := 0, slots := 0, locals := 0 } : Room).slots) := by
  refine MetFree.of_bodySF (plainFor_of_name pn_com_example_wellform_wellform_cli_ByteBatch) hisR ?_
  intro p e s m args below meth c s₁ Bd hml0 hP hK
  obtain ⟨rfl, hZ, hh⟩ := hP
  have hx := Bd.exec
  have hby := Bd.bytes
  have hml : c.maxLocals = 1 := hml0
  have hown : s.vm.findClass "com/example/wellform/wellform/cli/ByteBatch" = some m.cls := findClass_of_methodNamed Bd.named
  have hnm := (name_of_methodNamed Bd.named Bd.method).1
  have X0 : Stand p l e ({ frames := 0, cells := 0, slots := 0, locals := 0 } : Room) s m #[(.ref a1)] below meth c s₁ [] 0 0 := Stand.of_body Bd
  have e0 : s₁.heap = h0 := by rw [← hh, Bd.state]; rfl
  have N0 := Fr.nil n0
  have pre0 : ∀ t, Steps p.tables e below (s₁.setTop (mkF m 0 #[.val (.ref a1)] [])) t → Steps p.tables e below (s₁.setTop (entryFrame m #[(.ref a1)] 1)) t := fun t k => castTop (ef_8_R m a1) k
  obtain ⟨T1, X1, e1, st1⟩ := getF X0 hx hZ hown (host := "") (Or.inl (hw _ (List.mem_of_getElem? (i := 21) rfl))) Via.refl e0 F_size_a1 (g := (mkF m 1 #[.val (.ref a1)] [(.ref a1)])) rfl rfl (hb hby d8_1)
  obtain ⟨fs, hr, hrun, hended, hW, hsame⟩ := X1.leave (v := some (.int w_size_a1)) (fun h => by rw [Bd.returns] at h; cases h) Bd.notSynchronized
  refine ⟨_, _, pre0 _ ?_, hrun, hended, _, _, rfl, ?_, ⟨_, rfl⟩, hW, hsame.mono (by decide) (by decide)⟩
  · show Steps p.tables e below (s₁.setTop (mkF m 0 #[.val (.ref a1)] [])) _
    refine XS.aloadN X0.here hx rfl (hb hby d8_0) rfl rfl ?_
    show Steps p.tables e below (s₁.setTop (mkF m 1 #[.val (.ref a1)] [(.ref a1)])) _
    refine st1 _ ?_
    show Steps p.tables e below (T1.setTop (mkF m 4 #[.val (.ref a1)] [(.int w_size_a1)])) _
    exact retI X1 hx Bd.returns (hb hby d8_4) hr
  · show Q_size Z a1 w_size_a1 h0 n0 _ T1.heap _
    rw [e1]
    exact ⟨rfl, N0, rfl⟩
theorem d4_0 : decode prog_18_method_11_code 0 = .ok (.iload_n 1, 1) := by decide +kernel
theorem d4_1 : decode prog_18_method_11_code 1 = .ok (.aload_n 0, 1) := by decide +kernel
theorem d4_2 : decode prog_18_method_11_code 2 = .ok (.getfield 7, 3) := by decide +kernel
theorem d4_5 : decode prog_18_method_11_code 5 = .ok (.arraylength, 1) := by decide +kernel
theorem d4_6 : decode prog_18_method_11_code 6 = .ok (.aload_n 0, 1) := by decide +kernel
theorem d4_7 : decode prog_18_method_11_code 7 = .ok (.getfield 17, 3) := by decide +kernel
theorem d4_10 : decode prog_18_method_11_code 10 = .ok (.isub, 1) := by decide +kernel
theorem d4_11 : decode prog_18_method_11_code 11 = .ok (.if_icmp .le 30, 3) := by decide +kernel
theorem d4_41 : decode prog_18_method_11_code 41 = .ok (.return_, 1) := by decide +kernel
theorem ef_4_RI (m : MethodId) (x0 : Addr) (x1 : Int32) : entryFrame m #[(.ref x0), (.int x1)] 2 = mkF m 0 #[.val (.ref x0), .val (.int x1)] [] := by first | (simp [entryFrame, mkF, argsToLocals, Value.category]; done) | rfl
def Q_roomF (Z : State) (a1 : Addr) (p2 : Int32) (w_bytes_a1 : Addr) (k_w_bytes_a1 : ClassId) (n_w_bytes_a1 : Int32) (vs_w_bytes_a1 : List Value) (w_size_a1 : Int32) (h0 : Heap) (n0 : Nat) (v : Option Value) (h : Heap) (L : List Loc) : Prop := v = none ∧ Fr n0 L ∧ h = h0
set_option maxRecDepth 65536 in
set_option maxHeartbeats 40000000 in
theorem rm_roomF (l : Launch) (Z : State) (a0 : Array Value) (hw : ∀ d ∈ tables_1, d.before a0 Z = true) (ws : List Jvm.Cond) (a1 : Addr) (p2 : Int32) (w_bytes_a1 : Addr) (k_w_bytes_a1 : ClassId) (n_w_bytes_a1 : Int32) (vs_w_bytes_a1 : List Value) (w_size_a1 : Int32) (h0 : Heap) (n0 : Nat) (Z0 : n0 ≤ h0.size) (F_bytes_a1 : Fld Z h0 a1 "com/example/wellform/wellform/cli/ByteBatch" "bytes" "[B" (.ref w_bytes_a1)) (V_w_bytes_a1 : Arv Z h0 w_bytes_a1 k_w_bytes_a1 .byte n_w_bytes_a1 vs_w_bytes_a1 (.int (0 : Int32))) (F_size_a1 : Fld Z h0 a1 "com/example/wellform/wellform/cli/ByteBatch" "size" "I" (.int w_size_a1)) (hc0 : ¬ ((n_w_bytes_a1 - w_size_a1) < p2)) :
    MetFree l (⟨"com/example/wellform/wellform/cli/ByteBatch", "room", "(I)V"⟩ : MethodName) (head1 (Jvm.Cond.code (⟨"com/example/wellform/wellform/cli/ByteBatch", "room", "(I)V"⟩ : MethodName) prog_18_method_11_code 2 none :: ws) ({ frames := 0, cells := 0, slots := 0, locals := 0 } : Room)) (fun a U => a = #[(.ref a1), (.int p2)] ∧ Z.Warmed39 U.vm ∧ U.heap = h0) (fun _ _ _ _ _ => True) (fun _ U o U' => ∃ v L, o = .returned v ∧ Q_roomF Z a1 p2 w_bytes_a1 k_w_bytes_a1 n_w_bytes_a1 vs_w_bytes_a1 w_size_a1 h0 n0 v U'.heap L ∧ FrameEnd U o U' L ({ frames := 0, cells := 0, slots := 0, locals := 0 } : Room).cells ({ frames := 0, cells := 0, slots := 0, locals := 0 } : Room).slots) := by
  refine MetFree.of_bodySF (plainFor_of_name pn_com_example_wellform_wellform_cli_ByteBatch) hisR ?_
  intro p e s m args below meth c s₁ Bd hml0 hP hK
  obtain ⟨rfl, hZ, hh⟩ := hP
  have hx := Bd.exec
  have hby := Bd.bytes
  have hml : c.maxLocals = 2 := hml0
  have hown : s.vm.findClass "com/example/wellform/wellform/cli/ByteBatch" = some m.cls := findClass_of_methodNamed Bd.named
  have hnm := (name_of_methodNamed Bd.named Bd.method).1
  have X0 : Stand p l e ({ frames := 0, cells := 0, slots := 0, locals := 0 } : Room) s m #[(.ref a1), (.int p2)] below meth c s₁ [] 0 0 := Stand.of_body Bd
  have e0 : s₁.heap = h0 := by rw [← hh, Bd.state]; rfl
  have N0 := Fr.nil n0
  have pre0 : ∀ t, Steps p.tables e below (s₁.setTop (mkF m 0 #[.val (.ref a1), .val (.int p2)] [])) t → Steps p.tables e below (s₁.setTop (entryFrame m #[(.ref a1), (.int p2)] 2)) t := fun t k => castTop (ef_4_RI m a1 p2) k
  obtain ⟨T1, X1, e1, st1⟩ := getF X0 hx hZ hown (host := "") (Or.inl (hw _ (List.mem_of_getElem? (i := 10) rfl))) Via.refl e0 F_bytes_a1 (g := (mkF m 2 #[.val (.ref a1), .val (.int p2)] [(.ref a1), (.int p2)])) rfl rfl (hb hby d4_2)
  obtain ⟨clo2, Aro2, -, So2, No2, -, -⟩ := id V_w_bytes_a1
  obtain ⟨T3, X3, e3, st3⟩ := getF X1 hx hZ hown (host := "") (Or.inl (hw _ (List.mem_of_getElem? (i := 21) rfl))) Via.refl e1 F_size_a1 (g := (mkF m 7 #[.val (.ref a1), .val (.int p2)] [(.ref a1), (.int n_w_bytes_a1), (.int p2)])) rfl rfl (hb hby d4_7)
  obtain ⟨fs, hr, hrun, hended, hW, hsame⟩ := X3.leave (v := none) (fun _ => rfl) Bd.notSynchronized
  refine ⟨_, _, pre0 _ ?_, hrun, hended, _, _, rfl, ?_, ⟨_, rfl⟩, hW, hsame.mono (by decide) (by decide)⟩
  · show Steps p.tables e below (s₁.setTop (mkF m 0 #[.val (.ref a1), .val (.int p2)] [])) _
    refine XS.iloadN X0.here hx rfl (hb hby d4_0) rfl ?_
    show Steps p.tables e below (s₁.setTop (mkF m 1 #[.val (.ref a1), .val (.int p2)] [(.int p2)])) _
    refine XS.aloadN X0.here hx rfl (hb hby d4_1) rfl rfl ?_
    show Steps p.tables e below (s₁.setTop (mkF m 2 #[.val (.ref a1), .val (.int p2)] [(.ref a1), (.int p2)])) _
    refine st1 _ ?_
    show Steps p.tables e below (T1.setTop (mkF m 5 #[.val (.ref a1), .val (.int p2)] [(.ref w_bytes_a1), (.int p2)])) _
    refine X1.arraylength hx (by rw [e1]; exact Aro2.1) (State.isArrayOf_alike hZ.alike Aro2.2.1) (g := (mkF m 5 #[.val (.ref a1), .val (.int p2)] [(.ref w_bytes_a1), (.int p2)])) rfl rfl (hb hby d4_5) _ ?_
    rw [len_of So2 No2]
    show Steps p.tables e below (T1.setTop (mkF m 6 #[.val (.ref a1), .val (.int p2)] [(.int n_w_bytes_a1), (.int p2)])) _
    refine XS.aloadN X1.here hx rfl (hb hby d4_6) rfl rfl ?_
    show Steps p.tables e below (T1.setTop (mkF m 7 #[.val (.ref a1), .val (.int p2)] [(.ref a1), (.int n_w_bytes_a1), (.int p2)])) _
    refine st3 _ ?_
    show Steps p.tables e below (T3.setTop (mkF m 10 #[.val (.ref a1), .val (.int p2)] [(.int w_size_a1), (.int n_w_bytes_a1), (.int p2)])) _
    refine XS.isub X3.here hx rfl (hb hby d4_10) rfl ?_
    show Steps p.tables e below (T3.setTop (mkF m 11 #[.val (.ref a1), .val (.int p2)] [(.int (n_w_bytes_a1 - w_size_a1)), (.int p2)])) _
    refine XS.icmpYes X3.here hx rfl (pc0 := 11) (pc' := 41) rfl (hb hby d4_11) rfl (flt hc0).2.2.2 (by decide) (by decide) ?_
    show Steps p.tables e below (T3.setTop (mkF m 41 #[.val (.ref a1), .val (.int p2)] [])) _
    exact X3.returnOut hx Bd.returns (hb hby d4_41) hr
  · show Q_roomF Z a1 p2 w_bytes_a1 k_w_bytes_a1 n_w_bytes_a1 vs_w_bytes_a1 w_size_a1 h0 n0 _ T3.heap _
    rw [e3]
    exact ⟨rfl, N0, rfl⟩
theorem pd_1 : parseMethodDescriptor "([BI)[B" = some ⟨[(.array .byte), .int], some (.array .byte)⟩ := by decide +kernel
theorem d4_14 : decode prog_18_method_11_code 14 = .ok (.aload_n 0, 1) := by decide +kernel
theorem d4_15 : decode prog_18_method_11_code 15 = .ok (.aload_n 0, 1) := by decide +kernel
theorem d4_16 : decode prog_18_method_11_code 16 = .ok (.getfield 7, 3) := by decide +kernel
theorem d4_19 : decode prog_18_method_11_code 19 = .ok (.iconst 2, 1) := by decide +kernel
theorem d4_20 : decode prog_18_method_11_code 20 = .ok (.aload_n 0, 1) := by decide +kernel
theorem d4_21 : decode prog_18_method_11_code 21 = .ok (.getfield 7, 3) := by decide +kernel
theorem d4_24 : decode prog_18_method_11_code 24 = .ok (.arraylength, 1) := by decide +kernel
theorem d4_25 : decode prog_18_method_11_code 25 = .ok (.imul, 1) := by decide +kernel
theorem d4_26 : decode prog_18_method_11_code 26 = .ok (.aload_n 0, 1) := by decide +kernel
theorem d4_27 : decode prog_18_method_11_code 27 = .ok (.getfield 17, 3) := by decide +kernel
theorem d4_30 : decode prog_18_method_11_code 30 = .ok (.iload_n 1, 1) := by decide +kernel
theorem d4_31 : decode prog_18_method_11_code 31 = .ok (.iadd, 1) := by decide +kernel
theorem d4_32 : decode prog_18_method_11_code 32 = .ok (.invokestatic 78, 3) := by decide +kernel
theorem d4_35 : decode prog_18_method_11_code 35 = .ok (.invokestatic 84, 3) := by decide +kernel
theorem d4_38 : decode prog_18_method_11_code 38 = .ok (.putfield 7, 3) := by decide +kernel
def Q_roomL (Z : State) (a1 : Addr) (p2 : Int32) (w_bytes_a1 : Addr) (k_w_bytes_a1 : ClassId) (n_w_bytes_a1 : Int32) (vs_w_bytes_a1 : List Value) (w_size_a1 : Int32) (h0 : Heap) (n0 : Nat) (v : Option Value) (h : Heap) (L : List Loc) : Prop := ∃ (o1 : Addr), ∃ (ko1 : ClassId), v = none ∧ Fr n0 L ∧ n0 ≤ o1 ∧ h0.size ≤ o1 ∧ Keep h0 h [a1] ∧ Fld Z h a1 "com/example/wellform/wellform/cli/ByteBatch" "bytes" "[B" (.ref o1) ∧ Fld Z h a1 "com/example/wellform/wellform/cli/ByteBatch" "size" "I" (.int w_size_a1) ∧ Exa Z h a1 "com/example/wellform/wellform/cli/ByteBatch" ∧ Exa Z h o1 "[B" ∧ Arv Z h o1 ko1 .byte ((2 : Int32) * n_w_bytes_a1) vs_w_bytes_a1 (.int (0 : Int32))
set_option maxRecDepth 65536 in
set_option maxHeartbeats 40000000 in
theorem rm_roomL (l : Launch) (Z : State) (a0 : Array Value) (hw : ∀ d ∈ tables_1, d.before a0 Z = true) (ws : List Jvm.Cond) (a1 : Addr) (p2 : Int32) (w_bytes_a1 : Addr) (k_w_bytes_a1 : ClassId) (n_w_bytes_a1 : Int32) (vs_w_bytes_a1 : List Value) (w_size_a1 : Int32) (h0 : Heap) (n0 : Nat) (Z0 : n0 ≤ h0.size) (F_bytes_a1 : Fld Z h0 a1 "com/example/wellform/wellform/cli/ByteBatch" "bytes" "[B" (.ref w_bytes_a1)) (V_w_bytes_a1 : Arv Z h0 w_bytes_a1 k_w_bytes_a1 .byte n_w_bytes_a1 vs_w_bytes_a1 (.int (0 : Int32))) (F_size_a1 : Fld Z h0 a1 "com/example/wellform/wellform/cli/ByteBatch" "size" "I" (.int w_size_a1)) (E_a1 : Exa Z h0 a1 "com/example/wellform/wellform/cli/ByteBatch") (g_a1 : n0 ≤ a1) (ne_w_bytes_a1_a1 : w_bytes_a1 ≠ a1) (hp0 : ¬ (((2 : Int32) * n_w_bytes_a1) < (w_size_a1 + p2))) (hp1 : ¬ (((2 : Int32) * n_w_bytes_a1) < (0 : Int32))) (hp2 : ((2 : Int32) * n_w_bytes_a1).toNatClampNeg ≤ 14) (hp3 : ¬ (((2 : Int32) * n_w_bytes_a1) < n_w_bytes_a1)) (hp4 : ¬ (n_w_bytes_a1 < (0 : Int32))) (hp5 : (0 : Int32).toNatClampNeg + n_w_bytes_a1.toNatClampNeg ≤ n_w_bytes_a1.toNatClampNeg) (hp6 : (0 : Int32).toNatClampNeg + n_w_bytes_a1.toNatClampNeg ≤ ((2 : Int32) * n_w_bytes_a1).toNatClampNeg) (hp7 : (0 : Int32).toNatClampNeg + n_w_bytes_a1.toNatClampNeg ≤ (List.replicate 16 (Value.int (0 : Int32))).length) (hp8 : own_Z vs_w_bytes_a1 n_w_bytes_a1) (hp9 : n_w_bytes_a1.toNatClampNeg ≤ 16) (hp10 : ¬ (((2 : Int32) * n_w_bytes_a1) = n_w_bytes_a1)) (hc0 : (n_w_bytes_a1 - w_size_a1) < p2) :
    MetFree l (⟨"com/example/wellform/wellform/cli/ByteBatch", "room", "(I)V"⟩ : MethodName) (head1 (Jvm.Cond.code (⟨"com/example/wellform/wellform/cli/ByteBatch", "room", "(I)V"⟩ : MethodName) prog_18_method_11_code 2 none :: ws) ({ frames := 2, cells := 1, slots := 14, locals := 33 } : Room)) (fun a U => a = #[(.ref a1), (.int p2)] ∧ Z.Warmed39 U.vm ∧ U.heap = h0) (fun _ _ _ _ _ => True) (fun _ U o U' => ∃ v L, o = .returned v ∧ Q_roomL Z a1 p2 w_bytes_a1 k_w_bytes_a1 n_w_bytes_a1 vs_w_bytes_a1 w_size_a1 h0 n0 v U'.heap L ∧ FrameEnd U o U' L ({ frames := 2, cells := 1, slots := 14, locals := 33 } : Room).cells ({ frames := 2, cells := 1, slots := 14, locals := 33 } : Room).slots) := by
  refine MetFree.of_bodySF (plainFor_of_name pn_com_example_wellform_wellform_cli_ByteBatch) hisR ?_
  intro p e s m args below meth c s₁ Bd hml0 hP hK
  obtain ⟨rfl, hZ, hh⟩ := hP
  have hx := Bd.exec
  have hby := Bd.bytes
  have hml : c.maxLocals = 2 := hml0
  have hown : s.vm.findClass "com/example/wellform/wellform/cli/ByteBatch" = some m.cls := findClass_of_methodNamed Bd.named
  have hnm := (name_of_methodNamed Bd.named Bd.method).1
  have X0 : Stand p l e ({ frames := 2, cells := 1, slots := 14, locals := 33 } : Room) s m #[(.ref a1), (.int p2)] below meth c s₁ [] 0 0 := Stand.of_body Bd
  have e0 : s₁.heap = h0 := by rw [← hh, Bd.state]; rfl
  have N0 := Fr.nil n0
  have pre0 : ∀ t, Steps p.tables e below (s₁.setTop (mkF m 0 #[.val (.ref a1), .val (.int p2)] [])) t → Steps p.tables e below (s₁.setTop (entryFrame m #[(.ref a1), (.int p2)] 2)) t := fun t k => castTop (ef_4_RI m a1 p2) k
  obtain ⟨T1, X1, e1, st1⟩ := getF X0 hx hZ hown (host := "") (Or.inl (hw _ (List.mem_of_getElem? (i := 10) rfl))) Via.refl e0 F_bytes_a1 (g := (mkF m 2 #[.val (.ref a1), .val (.int p2)] [(.ref a1), (.int p2)])) rfl rfl (hb hby d4_2)
  obtain ⟨clo2, Aro2, -, So2, No2, -, -⟩ := id V_w_bytes_a1
  obtain ⟨T3, X3, e3, st3⟩ := getF X1 hx hZ hown (host := "") (Or.inl (hw _ (List.mem_of_getElem? (i := 21) rfl))) Via.refl e1 F_size_a1 (g := (mkF m 7 #[.val (.ref a1), .val (.int p2)] [(.ref a1), (.int n_w_bytes_a1), (.int p2)])) rfl rfl (hb hby d4_7)
  obtain ⟨T4, X4, e4, st4⟩ := getF X3 hx hZ hown (host := "") (Or.inl (hw _ (List.mem_of_getElem? (i := 10) rfl))) Via.refl e3 F_bytes_a1 (g := (mkF m 16 #[.val (.ref a1), .val (.int p2)] [(.ref a1), (.ref a1)])) rfl rfl (hb hby d4_16)
  obtain ⟨T5, X5, e5, st5⟩ := getF X4 hx hZ hown (host := "") (Or.inl (hw _ (List.mem_of_getElem? (i := 10) rfl))) Via.refl e4 F_bytes_a1 (g := (mkF m 21 #[.val (.ref a1), .val (.int p2)] [(.ref a1), (.int (2 : Int32)), (.ref w_bytes_a1), (.ref a1)])) rfl rfl (hb hby d4_21)
  obtain ⟨clo6, Aro6, -, So6, No6, -, -⟩ := id V_w_bytes_a1
  obtain ⟨T7, X7, e7, st7⟩ := getF X5 hx hZ hown (host := "") (Or.inl (hw _ (List.mem_of_getElem? (i := 21) rfl))) Via.refl e5 F_size_a1 (g := (mkF m 27 #[.val (.ref a1), .val (.int p2)] [(.ref a1), (.int ((2 : Int32) * n_w_bytes_a1)), (.ref w_bytes_a1), (.ref a1)])) rfl rfl (hb hby d4_27)
  obtain ⟨_, _, ⟨T8, L8, k8, n8⟩, -, X8, ⟨Lc8, hQ8, l8, y8, z8⟩, st8⟩ := Jvm.LawKit.callS X7 hx (y := (⟨"java/lang/Math", "max", "(II)I"⟩ : MethodName)) hown (mvT hZ (hw _ (List.mem_of_getElem? (i := 23) rfl))) (mvT hZ (hw _ (List.mem_of_getElem? (i := 24) rfl))) (mvT hZ (hw _ (List.mem_of_getElem? (i := 25) rfl))) (mvT hZ (hw _ (List.mem_of_getElem? (i := 26) rfl))) (by decide) (backOf (W := 2) (rm_maxL l Z a0 hw [] ((2 : Int32) * n_w_bytes_a1) (w_size_a1 + p2) h0 n0 Z0 hp0) hZ (hw _ (List.mem_of_getElem? (i := 26) rfl)) (hw _ (List.mem_of_getElem? (i := 25) rfl)) (by decide) (by decide)) (g := (mkF m 32 #[.val (.ref a1), .val (.int p2)] [(.int (w_size_a1 + p2)), (.int ((2 : Int32) * n_w_bytes_a1)), (.ref w_bytes_a1), (.ref a1)])) rfl (by rw [hml]; rfl) (argsL := [(.int ((2 : Int32) * n_w_bytes_a1)), (.int (w_size_a1 + p2))]) (rest := [(.ref w_bytes_a1), (.ref a1)]) (lenOf pd_0 rfl) rfl (by show 2 * 0 + _ ≤ _; exact Nat.le_of_eq rfl) (hb hby d4_32) (fun _ _ => ⟨rfl, e7, (by decide : 0 + 0 ≤ _), (by decide : 0 + 0 ≤ _)⟩)
  dsimp only [Pt.U, Pt.locs, Pt.cells, Pt.slots] at X8 l8 y8 z8 st8 hQ8
  subst l8 y8 z8
  obtain ⟨rfl, Nq8, e8⟩ := hQ8
  have N9 := Fr.app N0 Nq8
  obtain ⟨_, _, ⟨T10, L10, k10, n10⟩, -, X10, ⟨Lc10, hQ10, l10, y10, z10⟩, st10⟩ := Jvm.LawKit.callS X8 hx (y := (⟨"java/util/Arrays", "copyOf", "([BI)[B"⟩ : MethodName)) hown (mvT hZ (hw _ (List.mem_of_getElem? (i := 27) rfl))) (mvT hZ (hw _ (List.mem_of_getElem? (i := 28) rfl))) (mvT hZ (hw _ (List.mem_of_getElem? (i := 29) rfl))) (mvT hZ (hw _ (List.mem_of_getElem? (i := 30) rfl))) (by decide) (backOf (W := 1) (rm_copyOf l Z a0 hw [] w_bytes_a1 ((2 : Int32) * n_w_bytes_a1) k_w_bytes_a1 n_w_bytes_a1 vs_w_bytes_a1 h0 n0 Z0 V_w_bytes_a1 hp1 hp2 hp3 hp4 hp5 hp6 hp7 hp8 hp9 hp10) hZ (hw _ (List.mem_of_getElem? (i := 30) rfl)) (hw _ (List.mem_of_getElem? (i := 29) rfl)) (by decide) (by decide)) (g := (mkF m 35 #[.val (.ref a1), .val (.int p2)] [(.int ((2 : Int32) * n_w_bytes_a1)), (.ref w_bytes_a1), (.ref a1)])) rfl (by rw [hml]; rfl) (argsL := [(.ref w_bytes_a1), (.int ((2 : Int32) * n_w_bytes_a1))]) (rest := [(.ref a1)]) (lenOf pd_1 rfl) rfl (by show 2 * 0 + _ ≤ _; exact Nat.le_of_eq rfl) (hb hby d4_35) (fun _ _ => ⟨rfl, e8, (by decide : 0 + 1 ≤ _), (by decide : 0 + 14 ≤ _)⟩)
  dsimp only [Pt.U, Pt.locs, Pt.cells, Pt.slots] at X10 l10 y10 z10 st10 hQ10
  subst l10 y10 z10
  obtain ⟨b10_1, k10_2, rfl, Nq10, g_b10_1, szq_b10_1, Kc10, fq10_0, fq10_1⟩ := hQ10
  have sz_b10_1 : h0.size ≤ b10_1 := Nat.le_trans (Keep.refl h0 [a1]).1 szq_b10_1
  have ne_a1_b10_1 : a1 ≠ b10_1 := Nat.ne_of_lt (Nat.lt_of_lt_of_le F_bytes_a1.lt szq_b10_1)
  have ne_w_bytes_a1_b10_1 : w_bytes_a1 ≠ b10_1 := Nat.ne_of_lt (Nat.lt_of_lt_of_le V_w_bytes_a1.lt szq_b10_1)
  have f12 : Fld Z T10.heap a1 "com/example/wellform/wellform/cli/ByteBatch" "bytes" "[B" (.ref w_bytes_a1) := F_bytes_a1.keep Kc10 nin0
  have f13 : Arv Z T10.heap w_bytes_a1 k_w_bytes_a1 .byte n_w_bytes_a1 vs_w_bytes_a1 (.int (0 : Int32)) := V_w_bytes_a1.keep Kc10 nin0
  have f14 : Fld Z T10.heap a1 "com/example/wellform/wellform/cli/ByteBatch" "size" "I" (.int w_size_a1) := F_size_a1.keep Kc10 nin0
  have f15 : Exa Z T10.heap a1 "com/example/wellform/wellform/cli/ByteBatch" := E_a1.keep Kc10
  have f16 : Arv Z T10.heap b10_1 k10_2 .byte ((2 : Int32) * n_w_bytes_a1) vs_w_bytes_a1 (.int (0 : Int32)) := fq10_1
  have K17 : Keep h0 T10.heap [a1] := (Keep.refl h0 [a1]).trans Kc10 all0
  have Zs18 : n0 ≤ T10.heap.size := Nat.le_trans Z0 Kc10.1
  have N11 := Fr.app N9 Nq10
  obtain ⟨T19, h19, X19, e19, W19, st19⟩ := putF X10 hx hZ hown (host := "") (Or.inl (hw _ (List.mem_of_getElem? (i := 10) rfl))) Via.refl rfl f12 f15 (Or.inl (hw _ (List.mem_of_getElem? (i := 11) rfl))) (hw _ (List.mem_of_getElem? (i := 1) rfl)) (ty := (.array .byte)) (by decide) rfl rfl (g := (mkF m 38 #[.val (.ref a1), .val (.int p2)] [(.ref b10_1), (.ref a1)])) rfl rfl (hb hby d4_38)
  have f20 : Fld Z h19 a1 "com/example/wellform/wellform/cli/ByteBatch" "bytes" "[B" (.ref b10_1) := f12.same W19
  have f21 : Arv Z h19 w_bytes_a1 k_w_bytes_a1 .byte n_w_bytes_a1 vs_w_bytes_a1 (.int (0 : Int32)) := f13.other W19 ne_w_bytes_a1_a1
  have f22 : Fld Z h19 a1 "com/example/wellform/wellform/cli/ByteBatch" "size" "I" (.int w_size_a1) := f14.other W19 (Or.inr (slot_ne (Or.inl (hw _ (List.mem_of_getElem? (i := 22) rfl))) (Or.inl (hw _ (List.mem_of_getElem? (i := 11) rfl))) (by decide) (t := .int) (t' := (.array .byte)) (by decide) (by decide)))
  have f23 : Exa Z h19 a1 "com/example/wellform/wellform/cli/ByteBatch" := f15.wr W19
  have f24 : Exa Z h19 b10_1 "[B" := fq10_0.wr W19
  have f25 : Arv Z h19 b10_1 k10_2 .byte ((2 : Int32) * n_w_bytes_a1) vs_w_bytes_a1 (.int (0 : Int32)) := f16.other W19 (Ne.symm ne_a1_b10_1)
  have K26 : Keep h0 h19 [a1] := K17.wr W19 (Or.inl (List.mem_of_getElem? (i := 0) rfl))
  have N27 := Fr.snoc X19 N11 g_a1
  have Zs28 : n0 ≤ h19.size := Nat.le_trans Zs18 (Keep.of_wr W19).1
  obtain ⟨fs, hr, hrun, hended, hW, hsame⟩ := X19.leave (v := none) (fun _ => rfl) Bd.notSynchronized
  refine ⟨_, _, pre0 _ ?_, hrun, hended, _, _, rfl, ?_, ⟨_, rfl⟩, hW, hsame.mono (by decide) (by decide)⟩
  · show Steps p.tables e below (s₁.setTop (mkF m 0 #[.val (.ref a1), .val (.int p2)] [])) _
    refine XS.iloadN X0.here hx rfl (hb hby d4_0) rfl ?_
    show Steps p.tables e below (s₁.setTop (mkF m 1 #[.val (.ref a1), .val (.int p2)] [(.int p2)])) _
    refine XS.aloadN X0.here hx rfl (hb hby d4_1) rfl rfl ?_
    show Steps p.tables e below (s₁.setTop (mkF m 2 #[.val (.ref a1), .val (.int p2)] [(.ref a1), (.int p2)])) _
    refine st1 _ ?_
    show Steps p.tables e below (T1.setTop (mkF m 5 #[.val (.ref a1), .val (.int p2)] [(.ref w_bytes_a1), (.int p2)])) _
    refine X1.arraylength hx (by rw [e1]; exact Aro2.1) (State.isArrayOf_alike hZ.alike Aro2.2.1) (g := (mkF m 5 #[.val (.ref a1), .val (.int p2)] [(.ref w_bytes_a1), (.int p2)])) rfl rfl (hb hby d4_5) _ ?_
    rw [len_of So2 No2]
    show Steps p.tables e below (T1.setTop (mkF m 6 #[.val (.ref a1), .val (.int p2)] [(.int n_w_bytes_a1), (.int p2)])) _
    refine XS.aloadN X1.here hx rfl (hb hby d4_6) rfl rfl ?_
    show Steps p.tables e below (T1.setTop (mkF m 7 #[.val (.ref a1), .val (.int p2)] [(.ref a1), (.int n_w_bytes_a1), (.int p2)])) _
    refine st3 _ ?_
    show Steps p.tables e below (T3.setTop (mkF m 10 #[.val (.ref a1), .val (.int p2)] [(.int w_size_a1), (.int n_w_bytes_a1), (.int p2)])) _
    refine XS.isub X3.here hx rfl (hb hby d4_10) rfl ?_
    show Steps p.tables e below (T3.setTop (mkF m 11 #[.val (.ref a1), .val (.int p2)] [(.int (n_w_bytes_a1 - w_size_a1)), (.int p2)])) _
    refine XS.icmpNo X3.here hx rfl (hb hby d4_11) rfl (tlt hc0).2.2.2 ?_
    show Steps p.tables e below (T3.setTop (mkF m 14 #[.val (.ref a1), .val (.int p2)] [])) _
    refine XS.aloadN X3.here hx rfl (hb hby d4_14) rfl rfl ?_
    show Steps p.tables e below (T3.setTop (mkF m 15 #[.val (.ref a1), .val (.int p2)] [(.ref a1)])) _
    refine XS.aloadN X3.here hx rfl (hb hby d4_15) rfl rfl ?_
    show Steps p.tables e below (T3.setTop (mkF m 16 #[.val (.ref a1), .val (.int p2)] [(.ref a1), (.ref a1)])) _
    refine st4 _ ?_
    show Steps p.tables e below (T4.setTop (mkF m 19 #[.val (.ref a1), .val (.int p2)] [(.ref w_bytes_a1), (.ref a1)])) _
    refine XS.iconst X4.here hx rfl (hb hby d4_19) ?_
    show Steps p.tables e below (T4.setTop (mkF m 20 #[.val (.ref a1), .val (.int p2)] [(.int (2 : Int32)), (.ref w_bytes_a1), (.ref a1)])) _
    refine XS.aloadN X4.here hx rfl (hb hby d4_20) rfl rfl ?_
    show Steps p.tables e below (T4.setTop (mkF m 21 #[.val (.ref a1), .val (.int p2)] [(.ref a1), (.int (2 : Int32)), (.ref w_bytes_a1), (.ref a1)])) _
    refine st5 _ ?_
    show Steps p.tables e below (T5.setTop (mkF m 24 #[.val (.ref a1), .val (.int p2)] [(.ref w_bytes_a1), (.int (2 : Int32)), (.ref w_bytes_a1), (.ref a1)])) _
    refine X5.arraylength hx (by rw [e5]; exact Aro6.1) (State.isArrayOf_alike hZ.alike Aro6.2.1) (g := (mkF m 24 #[.val (.ref a1), .val (.int p2)] [(.ref w_bytes_a1), (.int (2 : Int32)), (.ref w_bytes_a1), (.ref a1)])) rfl rfl (hb hby d4_24) _ ?_
    rw [len_of So6 No6]
    show Steps p.tables e below (T5.setTop (mkF m 25 #[.val (.ref a1), .val (.int p2)] [(.int n_w_bytes_a1), (.int (2 : Int32)), (.ref w_bytes_a1), (.ref a1)])) _
    refine XS.imul X5.here hx rfl (hb hby d4_25) rfl ?_
    show Steps p.tables e below (T5.setTop (mkF m 26 #[.val (.ref a1), .val (.int p2)] [(.int ((2 : Int32) * n_w_bytes_a1)), (.ref w_bytes_a1), (.ref a1)])) _
    refine XS.aloadN X5.here hx rfl (hb hby d4_26) rfl rfl ?_
    show Steps p.tables e below (T5.setTop (mkF m 27 #[.val (.ref a1), .val (.int p2)] [(.ref a1), (.int ((2 : Int32) * n_w_bytes_a1)), (.ref w_bytes_a1), (.ref a1)])) _
    refine st7 _ ?_
    show Steps p.tables e below (T7.setTop (mkF m 30 #[.val (.ref a1), .val (.int p2)] [(.int w_size_a1), (.int ((2 : Int32) * n_w_bytes_a1)), (.ref w_bytes_a1), (.ref a1)])) _
    refine XS.iloadN X7.here hx rfl (hb hby d4_30) rfl ?_
    show Steps p.tables e below (T7.setTop (mkF m 31 #[.val (.ref a1), .val (.int p2)] [(.int p2), (.int w_size_a1), (.int ((2 : Int32) * n_w_bytes_a1)), (.ref w_bytes_a1), (.ref a1)])) _
    refine XS.iadd X7.here hx rfl (hb hby d4_31) rfl ?_
    show Steps p.tables e below (T7.setTop (mkF m 32 #[.val (.ref a1), .val (.int p2)] [(.int (w_size_a1 + p2)), (.int ((2 : Int32) * n_w_bytes_a1)), (.ref w_bytes_a1), (.ref a1)])) _
    refine st8 _ ?_
    show Steps p.tables e below (T8.setTop (mkF m 35 #[.val (.ref a1), .val (.int p2)] [(.int ((2 : Int32) * n_w_bytes_a1)), (.ref w_bytes_a1), (.ref a1)])) _
    refine st10 _ ?_
    show Steps p.tables e below (T10.setTop (mkF m 38 #[.val (.ref a1), .val (.int p2)] [(.ref b10_1), (.ref a1)])) _
    refine st19 _ ?_
    show Steps p.tables e below (T19.setTop (mkF m 41 #[.val (.ref a1), .val (.int p2)] [])) _
    exact X19.returnOut hx Bd.returns (hb hby d4_41) hr
  · show Q_roomL Z a1 p2 w_bytes_a1 k_w_bytes_a1 n_w_bytes_a1 vs_w_bytes_a1 w_size_a1 h0 n0 _ T19.heap _
    rw [e19]
    exact ⟨b10_1, k10_2, rfl, N27, g_b10_1, sz_b10_1, K26, f20, f22, f23, f24, f25⟩
def Q_roomR (Z : State) (a1 : Addr) (p2 : Int32) (w_bytes_a1 : Addr) (k_w_bytes_a1 : ClassId) (n_w_bytes_a1 : Int32) (vs_w_bytes_a1 : List Value) (w_size_a1 : Int32) (h0 : Heap) (n0 : Nat) (v : Option Value) (h : Heap) (L : List Loc) : Prop := ∃ (o1 : Addr), ∃ (ko1 : ClassId), v = none ∧ Fr n0 L ∧ n0 ≤ o1 ∧ h0.size ≤ o1 ∧ Keep h0 h [a1] ∧ Fld Z h a1 "com/example/wellform/wellform/cli/ByteBatch" "bytes" "[B" (.ref o1) ∧ Fld Z h a1 "com/example/wellform/wellform/cli/ByteBatch" "size" "I" (.int w_size_a1) ∧ Exa Z h a1 "com/example/wellform/wellform/cli/ByteBatch" ∧ Exa Z h o1 "[B" ∧ Arv Z h o1 ko1 .byte (w_size_a1 + p2) vs_w_bytes_a1 (.int (0 : Int32))
set_option maxRecDepth 65536 in
set_option maxHeartbeats 40000000 in
theorem rm_roomR (l : Launch) (Z : State) (a0 : Array Value) (hw : ∀ d ∈ tables_1, d.before a0 Z = true) (ws : List Jvm.Cond) (a1 : Addr) (p2 : Int32) (w_bytes_a1 : Addr) (k_w_bytes_a1 : ClassId) (n_w_bytes_a1 : Int32) (vs_w_bytes_a1 : List Value) (w_size_a1 : Int32) (h0 : Heap) (n0 : Nat) (Z0 : n0 ≤ h0.size) (F_bytes_a1 : Fld Z h0 a1 "com/example/wellform/wellform/cli/ByteBatch" "bytes" "[B" (.ref w_bytes_a1)) (V_w_bytes_a1 : Arv Z h0 w_bytes_a1 k_w_bytes_a1 .byte n_w_bytes_a1 vs_w_bytes_a1 (.int (0 : Int32))) (F_size_a1 : Fld Z h0 a1 "com/example/wellform/wellform/cli/ByteBatch" "size" "I" (.int w_size_a1)) (E_a1 : Exa Z h0 a1 "com/example/wellform/wellform/cli/ByteBatch") (g_a1 : n0 ≤ a1) (ne_w_bytes_a1_a1 : w_bytes_a1 ≠ a1) (hp0 : ((2 : Int32) * n_w_bytes_a1) < (w_size_a1 + p2)) (hp1 : ¬ ((w_size_a1 + p2) < (0 : Int32))) (hp2 : (w_size_a1 + p2).toNatClampNeg ≤ 14) (hp3 : ¬ ((w_size_a1 + p2) < n_w_bytes_a1)) (hp4 : ¬ (n_w_bytes_a1 < (0 : Int32))) (hp5 : (0 : Int32).toNatClampNeg + n_w_bytes_a1.toNatClampNeg ≤ n_w_bytes_a1.toNatClampNeg) (hp6 : (0 : Int32).toNatClampNeg + n_w_bytes_a1.toNatClampNeg ≤ (w_size_a1 + p2).toNatClampNeg) (hp7 : (0 : Int32).toNatClampNeg + n_w_bytes_a1.toNatClampNeg ≤ (List.replicate 16 (Value.int (0 : Int32))).length) (hp8 : own_Z vs_w_bytes_a1 n_w_bytes_a1) (hp9 : n_w_bytes_a1.toNatClampNeg ≤ 16) (hp10 : ¬ ((w_size_a1 + p2) = n_w_bytes_a1)) (hc0 : (n_w_bytes_a1 - w_size_a1) < p2) :
    MetFree l (⟨"com/example/wellform/wellform/cli/ByteBatch", "room", "(I)V"⟩ : MethodName) (head1 (Jvm.Cond.code (⟨"com/example/wellform/wellform/cli/ByteBatch", "room", "(I)V"⟩ : MethodName) prog_18_method_11_code 2 none :: ws) ({ frames := 2, cells := 1, slots := 14, locals := 33 } : Room)) (fun a U => a = #[(.ref a1), (.int p2)] ∧ Z.Warmed39 U.vm ∧ U.heap = h0) (fun _ _ _ _ _ => True) (fun _ U o U' => ∃ v L, o = .returned v ∧ Q_roomR Z a1 p2 w_bytes_a1 k_w_bytes_a1 n_w_bytes_a1 vs_w_bytes_a1 w_size_a1 h0 n0 v U'.heap L ∧ FrameEnd U o U' L ({ frames := 2, cells := 1, slots := 14, locals := 33 } : Room).cells ({ frames := 2, cells := 1, slots := 14, locals := 33 } : Room).slots) := by
  refine MetFree.of_bodySF (plainFor_of_name pn_com_example_wellform_wellform_cli_ByteBatch) hisR ?_
  intro p e s m args below meth c s₁ Bd hml0 hP hK
  obtain ⟨rfl, hZ, hh⟩ := hP
  have hx := Bd.exec
  have hby := Bd.bytes
  have hml : c.maxLocals = 2 := hml0
  have hown : s.vm.findClass "com/example/wellform/wellform/cli/ByteBatch" = some m.cls := findClass_of_methodNamed Bd.named
  have hnm := (name_of_methodNamed Bd.named Bd.method).1
  have X0 : Stand p l e ({ frames := 2, cells := 1, slots := 14, locals := 33 } : Room) s m #[(.ref a1), (.int p2)] below meth c s₁ [] 0 0 := Stand.of_body Bd
  have e0 : s₁.heap = h0 := by rw [← hh, Bd.state]; rfl
  have N0 := Fr.nil n0
  have pre0 : ∀ t, Steps p.tables e below (s₁.setTop (mkF m 0 #[.val (.ref a1), .val (.int p2)] [])) t → Steps p.tables e below (s₁.setTop (entryFrame m #[(.ref a1), (.int p2)] 2)) t := fun t k => castTop (ef_4_RI m a1 p2) k
  obtain ⟨T1, X1, e1, st1⟩ := getF X0 hx hZ hown (host := "") (Or.inl (hw _ (List.mem_of_getElem? (i := 10) rfl))) Via.refl e0 F_bytes_a1 (g := (mkF m 2 #[.val (.ref a1), .val (.int p2)] [(.ref a1), (.int p2)])) rfl rfl (hb hby d4_2)
  obtain ⟨clo2, Aro2, -, So2, No2, -, -⟩ := id V_w_bytes_a1
  obtain ⟨T3, X3, e3, st3⟩ := getF X1 hx hZ hown (host := "") (Or.inl (hw _ (List.mem_of_getElem? (i := 21) rfl))) Via.refl e1 F_size_a1 (g := (mkF m 7 #[.val (.ref a1), .val (.int p2)] [(.ref a1), (.int n_w_bytes_a1), (.int p2)])) rfl rfl (hb hby d4_7)
  obtain ⟨T4, X4, e4, st4⟩ := getF X3 hx hZ hown (host := "") (Or.inl (hw _ (List.mem_of_getElem? (i := 10) rfl))) Via.refl e3 F_bytes_a1 (g := (mkF m 16 #[.val (.ref a1), .val (.int p2)] [(.ref a1), (.ref a1)])) rfl rfl (hb hby d4_16)
  obtain ⟨T5, X5, e5, st5⟩ := getF X4 hx hZ hown (host := "") (Or.inl (hw _ (List.mem_of_getElem? (i := 10) rfl))) Via.refl e4 F_bytes_a1 (g := (mkF m 21 #[.val (.ref a1), .val (.int p2)] [(.ref a1), (.int (2 : Int32)), (.ref w_bytes_a1), (.ref a1)])) rfl rfl (hb hby d4_21)
  obtain ⟨clo6, Aro6, -, So6, No6, -, -⟩ := id V_w_bytes_a1
  obtain ⟨T7, X7, e7, st7⟩ := getF X5 hx hZ hown (host := "") (Or.inl (hw _ (List.mem_of_getElem? (i := 21) rfl))) Via.refl e5 F_size_a1 (g := (mkF m 27 #[.val (.ref a1), .val (.int p2)] [(.ref a1), (.int ((2 : Int32) * n_w_bytes_a1)), (.ref w_bytes_a1), (.ref a1)])) rfl rfl (hb hby d4_27)
  obtain ⟨_, _, ⟨T8, L8, k8, n8⟩, -, X8, ⟨Lc8, hQ8, l8, y8, z8⟩, st8⟩ := Jvm.LawKit.callS X7 hx (y := (⟨"java/lang/Math", "max", "(II)I"⟩ : MethodName)) hown (mvT hZ (hw _ (List.mem_of_getElem? (i := 23) rfl))) (mvT hZ (hw _ (List.mem_of_getElem? (i := 24) rfl))) (mvT hZ (hw _ (List.mem_of_getElem? (i := 25) rfl))) (mvT hZ (hw _ (List.mem_of_getElem? (i := 26) rfl))) (by decide) (backOf (W := 2) (rm_maxR l Z a0 hw [] ((2 : Int32) * n_w_bytes_a1) (w_size_a1 + p2) h0 n0 Z0 hp0) hZ (hw _ (List.mem_of_getElem? (i := 26) rfl)) (hw _ (List.mem_of_getElem? (i := 25) rfl)) (by decide) (by decide)) (g := (mkF m 32 #[.val (.ref a1), .val (.int p2)] [(.int (w_size_a1 + p2)), (.int ((2 : Int32) * n_w_bytes_a1)), (.ref w_bytes_a1), (.ref a1)])) rfl (by rw [hml]; rfl) (argsL := [(.int ((2 : Int32) * n_w_bytes_a1)), (.int (w_size_a1 + p2))]) (rest := [(.ref w_bytes_a1), (.ref a1)]) (lenOf pd_0 rfl) rfl (by show 2 * 0 + _ ≤ _; exact Nat.le_of_eq rfl) (hb hby d4_32) (fun _ _ => ⟨rfl, e7, (by decide : 0 + 0 ≤ _), (by decide : 0 + 0 ≤ _)⟩)
  dsimp only [Pt.U, Pt.locs, Pt.cells, Pt.slots] at X8 l8 y8 z8 st8 hQ8
  subst l8 y8 z8
  obtain ⟨rfl, Nq8, e8⟩ := hQ8
  have N9 := Fr.app N0 Nq8
  obtain ⟨_, _, ⟨T10, L10, k10, n10⟩, -, X10, ⟨Lc10, hQ10, l10, y10, z10⟩, st10⟩ := Jvm.LawKit.callS X8 hx (y := (⟨"java/util/Arrays", "copyOf", "([BI)[B"⟩ : MethodName)) hown (mvT hZ (hw _ (List.mem_of_getElem? (i := 27) rfl))) (mvT hZ (hw _ (List.mem_of_getElem? (i := 28) rfl))) (mvT hZ (hw _ (List.mem_of_getElem? (i := 29) rfl))) (mvT hZ (hw _ (List.mem_of_getElem? (i := 30) rfl))) (by decide) (backOf (W := 1) (rm_copyOf l Z a0 hw [] w_bytes_a1 (w_size_a1 + p2) k_w_bytes_a1 n_w_bytes_a1 vs_w_bytes_a1 h0 n0 Z0 V_w_bytes_a1 hp1 hp2 hp3 hp4 hp5 hp6 hp7 hp8 hp9 hp10) hZ (hw _ (List.mem_of_getElem? (i := 30) rfl)) (hw _ (List.mem_of_getElem? (i := 29) rfl)) (by decide) (by decide)) (g := (mkF m 35 #[.val (.ref a1), .val (.int p2)] [(.int (w_size_a1 + p2)), (.ref w_bytes_a1), (.ref a1)])) rfl (by rw [hml]; rfl) (argsL := [(.ref w_bytes_a1), (.int (w_size_a1 + p2))]) (rest := [(.ref a1)]) (lenOf pd_1 rfl) rfl (by show 2 * 0 + _ ≤ _; exact Nat.le_of_eq rfl) (hb hby d4_35) (fun _ _ => ⟨rfl, e8, (by decide : 0 + 1 ≤ _), (by decide : 0 + 14 ≤ _)⟩)
  dsimp only [Pt.U, Pt.locs, Pt.cells, Pt.slots] at X10 l10 y10 z10 st10 hQ10
  subst l10 y10 z10
  obtain ⟨b10_1, k10_2, rfl, Nq10, g_b10_1, szq_b10_1, Kc10, fq10_0, fq10_1⟩ := hQ10
  have sz_b10_1 : h0.size ≤ b10_1 := Nat.le_trans (Keep.refl h0 [a1]).1 szq_b10_1
  have ne_a1_b10_1 : a1 ≠ b10_1 := Nat.ne_of_lt (Nat.lt_of_lt_of_le F_bytes_a1.lt szq_b10_1)
  have ne_w_bytes_a1_b10_1 : w_bytes_a1 ≠ b10_1 := Nat.ne_of_lt (Nat.lt_of_lt_of_le V_w_bytes_a1.lt szq_b10_1)
  have f12 : Fld Z T10.heap a1 "com/example/wellform/wellform/cli/ByteBatch" "bytes" "[B" (.ref w_bytes_a1) := F_bytes_a1.keep Kc10 nin0
  have f13 : Arv Z T10.heap w_bytes_a1 k_w_bytes_a1 .byte n_w_bytes_a1 vs_w_bytes_a1 (.int (0 : Int32)) := V_w_bytes_a1.keep Kc10 nin0
  have f14 : Fld Z T10.heap a1 "com/example/wellform/wellform/cli/ByteBatch" "size" "I" (.int w_size_a1) := F_size_a1.keep Kc10 nin0
  have f15 : Exa Z T10.heap a1 "com/example/wellform/wellform/cli/ByteBatch" := E_a1.keep Kc10
  have f16 : Arv Z T10.heap b10_1 k10_2 .byte (w_size_a1 + p2) vs_w_bytes_a1 (.int (0 : Int32)) := fq10_1
  have K17 : Keep h0 T10.heap [a1] := (Keep.refl h0 [a1]).trans Kc10 all0
  have Zs18 : n0 ≤ T10.heap.size := Nat.le_trans Z0 Kc10.1
  have N11 := Fr.app N9 Nq10
  obtain ⟨T19, h19, X19, e19, W19, st19⟩ := putF X10 hx hZ hown (host := "") (Or.inl (hw _ (List.mem_of_getElem? (i := 10) rfl))) Via.refl rfl f12 f15 (Or.inl (hw _ (List.mem_of_getElem? (i := 11) rfl))) (hw _ (List.mem_of_getElem? (i := 1) rfl)) (ty := (.array .byte)) (by decide) rfl rfl (g := (mkF m 38 #[.val (.ref a1), .val (.int p2)] [(.ref b10_1), (.ref a1)])) rfl rfl (hb hby d4_38)
  have f20 : Fld Z h19 a1 "com/example/wellform/wellform/cli/ByteBatch" "bytes" "[B" (.ref b10_1) := f12.same W19
  have f21 : Arv Z h19 w_bytes_a1 k_w_bytes_a1 .byte n_w_bytes_a1 vs_w_bytes_a1 (.int (0 : Int32)) := f13.other W19 ne_w_bytes_a1_a1
  have f22 : Fld Z h19 a1 "com/example/wellform/wellform/cli/ByteBatch" "size" "I" (.int w_size_a1) := f14.other W19 (Or.inr (slot_ne (Or.inl (hw _ (List.mem_of_getElem? (i := 22) rfl))) (Or.inl (hw _ (List.mem_of_getElem? (i := 11) rfl))) (by decide) (t := .int) (t' := (.array .byte)) (by decide) (by decide)))
  have f23 : Exa Z h19 a1 "com/example/wellform/wellform/cli/ByteBatch" := f15.wr W19
  have f24 : Exa Z h19 b10_1 "[B" := fq10_0.wr W19
  have f25 : Arv Z h19 b10_1 k10_2 .byte (w_size_a1 + p2) vs_w_bytes_a1 (.int (0 : Int32)) := f16.other W19 (Ne.symm ne_a1_b10_1)
  have K26 : Keep h0 h19 [a1] := K17.wr W19 (Or.inl (List.mem_of_getElem? (i := 0) rfl))
  have N27 := Fr.snoc X19 N11 g_a1
  have Zs28 : n0 ≤ h19.size := Nat.le_trans Zs18 (Keep.of_wr W19).1
  obtain ⟨fs, hr, hrun, hended, hW, hsame⟩ := X19.leave (v := none) (fun _ => rfl) Bd.notSynchronized
  refine ⟨_, _, pre0 _ ?_, hrun, hended, _, _, rfl, ?_, ⟨_, rfl⟩, hW, hsame.mono (by decide) (by decide)⟩
  · show Steps p.tables e below (s₁.setTop (mkF m 0 #[.val (.ref a1), .val (.int p2)] [])) _
    refine XS.iloadN X0.here hx rfl (hb hby d4_0) rfl ?_
    show Steps p.tables e below (s₁.setTop (mkF m 1 #[.val (.ref a1), .val (.int p2)] [(.int p2)])) _
    refine XS.aloadN X0.here hx rfl (hb hby d4_1) rfl rfl ?_
    show Steps p.tables e below (s₁.setTop (mkF m 2 #[.val (.ref a1), .val (.int p2)] [(.ref a1), (.int p2)])) _
    refine st1 _ ?_
    show Steps p.tables e below (T1.setTop (mkF m 5 #[.val (.ref a1), .val (.int p2)] [(.ref w_bytes_a1), (.int p2)])) _
    refine X1.arraylength hx (by rw [e1]; exact Aro2.1) (State.isArrayOf_alike hZ.alike Aro2.2.1) (g := (mkF m 5 #[.val (.ref a1), .val (.int p2)] [(.ref w_bytes_a1), (.int p2)])) rfl rfl (hb hby d4_5) _ ?_
    rw [len_of So2 No2]
    show Steps p.tables e below (T1.setTop (mkF m 6 #[.val (.ref a1), .val (.int p2)] [(.int n_w_bytes_a1), (.int p2)])) _
    refine XS.aloadN X1.here hx rfl (hb hby d4_6) rfl rfl ?_
    show Steps p.tables e below (T1.setTop (mkF m 7 #[.val (.ref a1), .val (.int p2)] [(.ref a1), (.int n_w_bytes_a1), (.int p2)])) _
    refine st3 _ ?_
    show Steps p.tables e below (T3.setTop (mkF m 10 #[.val (.ref a1), .val (.int p2)] [(.int w_size_a1), (.int n_w_bytes_a1), (.int p2)])) _
    refine XS.isub X3.here hx rfl (hb hby d4_10) rfl ?_
    show Steps p.tables e below (T3.setTop (mkF m 11 #[.val (.ref a1), .val (.int p2)] [(.int (n_w_bytes_a1 - w_size_a1)), (.int p2)])) _
    refine XS.icmpNo X3.here hx rfl (hb hby d4_11) rfl (tlt hc0).2.2.2 ?_
    show Steps p.tables e below (T3.setTop (mkF m 14 #[.val (.ref a1), .val (.int p2)] [])) _
    refine XS.aloadN X3.here hx rfl (hb hby d4_14) rfl rfl ?_
    show Steps p.tables e below (T3.setTop (mkF m 15 #[.val (.ref a1), .val (.int p2)] [(.ref a1)])) _
    refine XS.aloadN X3.here hx rfl (hb hby d4_15) rfl rfl ?_
    show Steps p.tables e below (T3.setTop (mkF m 16 #[.val (.ref a1), .val (.int p2)] [(.ref a1), (.ref a1)])) _
    refine st4 _ ?_
    show Steps p.tables e below (T4.setTop (mkF m 19 #[.val (.ref a1), .val (.int p2)] [(.ref w_bytes_a1), (.ref a1)])) _
    refine XS.iconst X4.here hx rfl (hb hby d4_19) ?_
    show Steps p.tables e below (T4.setTop (mkF m 20 #[.val (.ref a1), .val (.int p2)] [(.int (2 : Int32)), (.ref w_bytes_a1), (.ref a1)])) _
    refine XS.aloadN X4.here hx rfl (hb hby d4_20) rfl rfl ?_
    show Steps p.tables e below (T4.setTop (mkF m 21 #[.val (.ref a1), .val (.int p2)] [(.ref a1), (.int (2 : Int32)), (.ref w_bytes_a1), (.ref a1)])) _
    refine st5 _ ?_
    show Steps p.tables e below (T5.setTop (mkF m 24 #[.val (.ref a1), .val (.int p2)] [(.ref w_bytes_a1), (.int (2 : Int32)), (.ref w_bytes_a1), (.ref a1)])) _
    refine X5.arraylength hx (by rw [e5]; exact Aro6.1) (State.isArrayOf_alike hZ.alike Aro6.2.1) (g := (mkF m 24 #[.val (.ref a1), .val (.int p2)] [(.ref w_bytes_a1), (.int (2 : Int32)), (.ref w_bytes_a1), (.ref a1)])) rfl rfl (hb hby d4_24) _ ?_
    rw [len_of So6 No6]
    show Steps p.tables e below (T5.setTop (mkF m 25 #[.val (.ref a1), .val (.int p2)] [(.int n_w_bytes_a1), (.int (2 : Int32)), (.ref w_bytes_a1), (.ref a1)])) _
    refine XS.imul X5.here hx rfl (hb hby d4_25) rfl ?_
    show Steps p.tables e below (T5.setTop (mkF m 26 #[.val (.ref a1), .val (.int p2)] [(.int ((2 : Int32) * n_w_bytes_a1)), (.ref w_bytes_a1), (.ref a1)])) _
    refine XS.aloadN X5.here hx rfl (hb hby d4_26) rfl rfl ?_
    show Steps p.tables e below (T5.setTop (mkF m 27 #[.val (.ref a1), .val (.int p2)] [(.ref a1), (.int ((2 : Int32) * n_w_bytes_a1)), (.ref w_bytes_a1), (.ref a1)])) _
    refine st7 _ ?_
    show Steps p.tables e below (T7.setTop (mkF m 30 #[.val (.ref a1), .val (.int p2)] [(.int w_size_a1), (.int ((2 : Int32) * n_w_bytes_a1)), (.ref w_bytes_a1), (.ref a1)])) _
    refine XS.iloadN X7.here hx rfl (hb hby d4_30) rfl ?_
    show Steps p.tables e below (T7.setTop (mkF m 31 #[.val (.ref a1), .val (.int p2)] [(.int p2), (.int w_size_a1), (.int ((2 : Int32) * n_w_bytes_a1)), (.ref w_bytes_a1), (.ref a1)])) _
    refine XS.iadd X7.here hx rfl (hb hby d4_31) rfl ?_
    show Steps p.tables e below (T7.setTop (mkF m 32 #[.val (.ref a1), .val (.int p2)] [(.int (w_size_a1 + p2)), (.int ((2 : Int32) * n_w_bytes_a1)), (.ref w_bytes_a1), (.ref a1)])) _
    refine st8 _ ?_
    show Steps p.tables e below (T8.setTop (mkF m 35 #[.val (.ref a1), .val (.int p2)] [(.int (w_size_a1 + p2)), (.ref w_bytes_a1), (.ref a1)])) _
    refine st10 _ ?_
    show Steps p.tables e below (T10.setTop (mkF m 38 #[.val (.ref a1), .val (.int p2)] [(.ref b10_1), (.ref a1)])) _
    refine st19 _ ?_
    show Steps p.tables e below (T19.setTop (mkF m 41 #[.val (.ref a1), .val (.int p2)] [])) _
    exact X19.returnOut hx Bd.returns (hb hby d4_41) hr
  · show Q_roomR Z a1 p2 w_bytes_a1 k_w_bytes_a1 n_w_bytes_a1 vs_w_bytes_a1 w_size_a1 h0 n0 _ T19.heap _
    rw [e19]
    exact ⟨b10_1, k10_2, rfl, N27, g_b10_1, sz_b10_1, K26, f20, f22, f23, f24, f25⟩
theorem pd_2 : parseMethodDescriptor "(I)V" = some ⟨[.int], none⟩ := by decide +kernel
theorem d3_0 : decode prog_18_method_2_code 0 = .ok (.aload_n 0, 1) := by decide +kernel
theorem d3_1 : decode prog_18_method_2_code 1 = .ok (.iconst 1, 1) := by decide +kernel
theorem d3_2 : decode prog_18_method_2_code 2 = .ok (.invokevirtual 13, 3) := by decide +kernel
theorem d3_5 : decode prog_18_method_2_code 5 = .ok (.aload_n 0, 1) := by decide +kernel
theorem d3_6 : decode prog_18_method_2_code 6 = .ok (.getfield 7, 3) := by decide +kernel
theorem d3_9 : decode prog_18_method_2_code 9 = .ok (.aload_n 0, 1) := by decide +kernel
theorem d3_10 : decode prog_18_method_2_code 10 = .ok (.dup, 1) := by decide +kernel
theorem d3_11 : decode prog_18_method_2_code 11 = .ok (.getfield 17, 3) := by decide +kernel
theorem d3_14 : decode prog_18_method_2_code 14 = .ok (.dup_x1, 1) := by decide +kernel
theorem d3_15 : decode prog_18_method_2_code 15 = .ok (.iconst 1, 1) := by decide +kernel
theorem d3_16 : decode prog_18_method_2_code 16 = .ok (.iadd, 1) := by decide +kernel
theorem d3_17 : decode prog_18_method_2_code 17 = .ok (.putfield 17, 3) := by decide +kernel
theorem d3_20 : decode prog_18_method_2_code 20 = .ok (.iload_n 1, 1) := by decide +kernel
theorem d3_21 : decode prog_18_method_2_code 21 = .ok (.bastore, 1) := by decide +kernel
theorem d3_22 : decode prog_18_method_2_code 22 = .ok (.aload_n 0, 1) := by decide +kernel
theorem d3_23 : decode prog_18_method_2_code 23 = .ok (.areturn, 1) := by decide +kernel
theorem ef_3_RI (m : MethodId) (x0 : Addr) (x1 : Int32) : entryFrame m #[(.ref x0), (.int x1)] 2 = mkF m 0 #[.val (.ref x0), .val (.int x1)] [] := by first | (simp [entryFrame, mkF, argsToLocals, Value.category]; done) | rfl
def Q_appendL (Z : State) (a1 : Addr) (p2 : Int32) (w_bytes_a1 : Addr) (k_w_bytes_a1 : ClassId) (n_w_bytes_a1 : Int32) (vs_w_bytes_a1 : List Value) (w_size_a1 : Int32) (h0 : Heap) (n0 : Nat) (v : Option Value) (h : Heap) (L : List Loc) : Prop := ∃ (o1 : Addr), ∃ (ko1 : ClassId), v = some (.ref a1) ∧ Fr n0 L ∧ n0 ≤ o1 ∧ h0.size ≤ o1 ∧ Keep h0 h [a1] ∧ Fld Z h a1 "com/example/wellform/wellform/cli/ByteBatch" "bytes" "[B" (.ref o1) ∧ Fld Z h a1 "com/example/wellform/wellform/cli/ByteBatch" "size" "I" (.int (w_size_a1 + (1 : Int32))) ∧ Exa Z h a1 "com/example/wellform/wellform/cli/ByteBatch" ∧ Exa Z h o1 "[B" ∧ Arv Z h o1 ko1 .byte ((2 : Int32) * n_w_bytes_a1) (vs_w_bytes_a1.set w_size_a1.toNatClampNeg (.int (p2.toInt8.toInt32))) (.int (0 : Int32))
set_option maxRecDepth 65536 in
set_option maxHeartbeats 40000000 in
theorem rm_appendL (l : Launch) (Z : State) (a0 : Array Value) (hw : ∀ d ∈ tables_1, d.before a0 Z = true) (ws : List Jvm.Cond) (a1 : Addr) (p2 : Int32) (w_bytes_a1 : Addr) (k_w_bytes_a1 : ClassId) (n_w_bytes_a1 : Int32) (vs_w_bytes_a1 : List Value) (w_size_a1 : Int32) (h0 : Heap) (n0 : Nat) (Z0 : n0 ≤ h0.size) (F_bytes_a1 : Fld Z h0 a1 "com/example/wellform/wellform/cli/ByteBatch" "bytes" "[B" (.ref w_bytes_a1)) (E_w_bytes_a1 : Exa Z h0 w_bytes_a1 "[B") (V_w_bytes_a1 : Arv Z h0 w_bytes_a1 k_w_bytes_a1 .byte n_w_bytes_a1 vs_w_bytes_a1 (.int (0 : Int32))) (F_size_a1 : Fld Z h0 a1 "com/example/wellform/wellform/cli/ByteBatch" "size" "I" (.int w_size_a1)) (E_a1 : Exa Z h0 a1 "com/example/wellform/wellform/cli/ByteBatch") (g_a1 : n0 ≤ a1) (g_w_bytes_a1 : n0 ≤ w_bytes_a1) (hp0 : ¬ (((2 : Int32) * n_w_bytes_a1) < (w_size_a1 + (1 : Int32)))) (hp1 : ¬ (((2 : Int32) * n_w_bytes_a1) < (0 : Int32))) (hp2 : ((2 : Int32) * n_w_bytes_a1).toNatClampNeg ≤ 14) (hp3 : ¬ (((2 : Int32) * n_w_bytes_a1) < n_w_bytes_a1)) (hp4 : ¬ (n_w_bytes_a1 < (0 : Int32))) (hp5 : (0 : Int32).toNatClampNeg + n_w_bytes_a1.toNatClampNeg ≤ n_w_bytes_a1.toNatClampNeg) (hp6 : (0 : Int32).toNatClampNeg + n_w_bytes_a1.toNatClampNeg ≤ ((2 : Int32) * n_w_bytes_a1).toNatClampNeg) (hp7 : (0 : Int32).toNatClampNeg + n_w_bytes_a1.toNatClampNeg ≤ (List.replicate 16 (Value.int (0 : Int32))).length) (hp8 : own_Z vs_w_bytes_a1 n_w_bytes_a1) (hp9 : n_w_bytes_a1.toNatClampNeg ≤ 16) (hp10 : ¬ (((2 : Int32) * n_w_bytes_a1) = n_w_bytes_a1)) (hp11 : (n_w_bytes_a1 - w_size_a1) < (1 : Int32)) (hp12 : ¬ (w_size_a1 < (0 : Int32))) (hp13 : w_size_a1 < ((2 : Int32) * n_w_bytes_a1)) (hp14 : w_size_a1.toNatClampNeg < vs_w_bytes_a1.length) :
    MetFree l (⟨"com/example/wellform/wellform/cli/ByteBatch", "append", "(B)Lcom/example/wellform/wellform/cli/ByteBatch;"⟩ : MethodName) (head1 (Jvm.Cond.code (⟨"com/example/wellform/wellform/cli/ByteBatch", "append", "(B)Lcom/example/wellform/wellform/cli/ByteBatch;"⟩ : MethodName) prog_18_method_2_code 2 (some (.object "com/example/wellform/wellform/cli/ByteBatch")) :: ws) ({ frames := 3, cells := 1, slots := 14, locals := 46 } : Room)) (fun a U => a = #[(.ref a1), (.int p2)] ∧ Z.Warmed39 U.vm ∧ U.heap = h0) (fun _ _ _ _ _ => True) (fun _ U o U' => ∃ v L, o = .returned v ∧ Q_appendL Z a1 p2 w_bytes_a1 k_w_bytes_a1 n_w_bytes_a1 vs_w_bytes_a1 w_size_a1 h0 n0 v U'.heap L ∧ FrameEnd U o U' L ({ frames := 3, cells := 1, slots := 14, locals := 46 } : Room).cells ({ frames := 3, cells := 1, slots := 14, locals := 46 } : Room).slots) := by
  refine MetFree.of_bodySF (plainFor_of_name pn_com_example_wellform_wellform_cli_ByteBatch) hisR ?_
  intro p e s m args below meth c s₁ Bd hml0 hP hK
  obtain ⟨rfl, hZ, hh⟩ := hP
  have hx := Bd.exec
  have hby := Bd.bytes
  have hml : c.maxLocals = 2 := hml0
  have hown : s.vm.findClass "com/example/wellform/wellform/cli/ByteBatch" = some m.cls := findClass_of_methodNamed Bd.named
  have hnm := (name_of_methodNamed Bd.named Bd.method).1
  have X0 : Stand p l e ({ frames := 3, cells := 1, slots := 14, locals := 46 } : Room) s m #[(.ref a1), (.int p2)] below meth c s₁ [] 0 0 := Stand.of_body Bd
  have e0 : s₁.heap = h0 := by rw [← hh, Bd.state]; rfl
  have N0 := Fr.nil n0
  have pre0 : ∀ t, Steps p.tables e below (s₁.setTop (mkF m 0 #[.val (.ref a1), .val (.int p2)] [])) t → Steps p.tables e below (s₁.setTop (entryFrame m #[(.ref a1), (.int p2)] 2)) t := fun t k => castTop (ef_3_RI m a1 p2) k
  obtain ⟨cq1, q1, q1'⟩ := E_a1.cell
  obtain ⟨_, _, ⟨T1, L1, k1, n1⟩, -, X1, ⟨Lc1, hQ1, l1, y1, z1⟩, st1⟩ := X0.privateBack hx (y := (⟨"com/example/wellform/wellform/cli/ByteBatch", "room", "(I)V"⟩ : MethodName)) hown (mvT hZ (hw _ (List.mem_of_getElem? (i := 17) rfl))) (mvT hZ (hw _ (List.mem_of_getElem? (i := 18) rfl))) (own_sel hZ (hw _ (List.mem_of_getElem? (i := 19) rfl)) (hw _ (List.mem_of_getElem? (i := 18) rfl)) (hw _ (List.mem_of_getElem? (i := 1) rfl)) (by decide)) (Cond.privateMethod_at (mvP hZ (hw _ (List.mem_of_getElem? (i := 19) rfl)) (args := #[]))) (mvT hZ (hw _ (List.mem_of_getElem? (i := 20) rfl))) (by decide) (backOf (W := 0) (rm_roomL l Z a0 hw [] a1 (1 : Int32) w_bytes_a1 k_w_bytes_a1 n_w_bytes_a1 vs_w_bytes_a1 w_size_a1 h0 n0 Z0 F_bytes_a1 V_w_bytes_a1 F_size_a1 E_a1 g_a1 (ne_exa E_w_bytes_a1 E_a1 (by decide)) hp0 hp1 hp2 hp3 hp4 hp5 hp6 hp7 hp8 hp9 hp10 hp11) hZ (hw _ (List.mem_of_getElem? (i := 20) rfl)) (hw _ (List.mem_of_getElem? (i := 2) rfl)) (by decide) (by decide)) (g := (mkF m 2 #[.val (.ref a1), .val (.int p2)] [(.int (1 : Int32)), (.ref a1)])) rfl (by rw [hml]; rfl) (Steps.refl _) (a := a1) (by rw [e0]; exact q1) q1' (argsL := [(.int (1 : Int32))]) (rest := []) (lenOf pd_2 rfl) rfl (by show 2 * 0 + _ ≤ _; exact Nat.le_of_eq rfl) (hb hby d3_2) (fun _ _ => ⟨rfl, e0, (by decide : 0 + 1 ≤ _), (by decide : 0 + 14 ≤ _)⟩)
  dsimp only [Pt.U, Pt.locs, Pt.cells, Pt.slots] at X1 l1 y1 z1 st1 hQ1
  subst l1 y1 z1
  obtain ⟨b1_1, k1_2, rfl, Nq1, g_b1_1, szq_b1_1, Kc1, fq1_0, fq1_1, fq1_2, fq1_3, fq1_4⟩ := hQ1
  have sz_b1_1 : h0.size ≤ b1_1 := Nat.le_trans (Keep.refl h0 [a1]).1 szq_b1_1
  have ne_a1_b1_1 : a1 ≠ b1_1 := Nat.ne_of_lt (Nat.lt_of_lt_of_le F_bytes_a1.lt szq_b1_1)
  have ne_w_bytes_a1_b1_1 : w_bytes_a1 ≠ b1_1 := Nat.ne_of_lt (Nat.lt_of_lt_of_le E_w_bytes_a1.lt szq_b1_1)
  have ne_w_bytes_a1_a1 : w_bytes_a1 ≠ a1 := ne_exa E_w_bytes_a1 E_a1 (by decide)
  have f3 : Exa Z T1.heap w_bytes_a1 "[B" := E_w_bytes_a1.keep Kc1
  have f4 : Arv Z T1.heap w_bytes_a1 k_w_bytes_a1 .byte n_w_bytes_a1 vs_w_bytes_a1 (.int (0 : Int32)) := V_w_bytes_a1.keep Kc1 (ninS ne_w_bytes_a1_a1 nin0)
  have f5 : Fld Z T1.heap a1 "com/example/wellform/wellform/cli/ByteBatch" "bytes" "[B" (.ref b1_1) := fq1_0
  have f6 : Fld Z T1.heap a1 "com/example/wellform/wellform/cli/ByteBatch" "size" "I" (.int w_size_a1) := fq1_1
  have f7 : Arv Z T1.heap b1_1 k1_2 .byte ((2 : Int32) * n_w_bytes_a1) vs_w_bytes_a1 (.int (0 : Int32)) := fq1_4
  have K8 : Keep h0 T1.heap [a1] := (Keep.refl h0 [a1]).trans Kc1 (allS (Or.inl (List.mem_of_getElem? (i := 0) rfl)) all0)
  have Zs9 : n0 ≤ T1.heap.size := Nat.le_trans Z0 Kc1.1
  have N2 := Fr.app N0 Nq1
  obtain ⟨T10, X10, e10, st10⟩ := getF X1 hx hZ hown (host := "") (Or.inl (hw _ (List.mem_of_getElem? (i := 10) rfl))) Via.refl rfl f5 (g := (mkF m 6 #[.val (.ref a1), .val (.int p2)] [(.ref a1)])) rfl rfl (hb hby d3_6)
  obtain ⟨T11, X11, e11, st11⟩ := getF X10 hx hZ hown (host := "") (Or.inl (hw _ (List.mem_of_getElem? (i := 21) rfl))) Via.refl e10 f6 (g := (mkF m 11 #[.val (.ref a1), .val (.int p2)] [(.ref a1), (.ref a1), (.ref b1_1)])) rfl rfl (hb hby d3_11)
  obtain ⟨T12, h12, X12, e12, W12, st12⟩ := putF X11 hx hZ hown (host := "") (Or.inl (hw _ (List.mem_of_getElem? (i := 21) rfl))) Via.refl e11 f6 fq1_2 (Or.inl (hw _ (List.mem_of_getElem? (i := 22) rfl))) (hw _ (List.mem_of_getElem? (i := 1) rfl)) (ty := .int) (by decide) rfl rfl (g := (mkF m 17 #[.val (.ref a1), .val (.int p2)] [(.int (w_size_a1 + (1 : Int32))), (.ref a1), (.int w_size_a1), (.ref b1_1)])) rfl rfl (hb hby d3_17)
  have f13 : Fld Z h12 a1 "com/example/wellform/wellform/cli/ByteBatch" "bytes" "[B" (.ref b1_1) := f5.other W12 (Or.inr (slot_ne (Or.inl (hw _ (List.mem_of_getElem? (i := 11) rfl))) (Or.inl (hw _ (List.mem_of_getElem? (i := 22) rfl))) (by decide) (t := (.array .byte)) (t' := .int) (by decide) (by decide)))
  have f14 : Exa Z h12 w_bytes_a1 "[B" := f3.wr W12
  have f15 : Arv Z h12 w_bytes_a1 k_w_bytes_a1 .byte n_w_bytes_a1 vs_w_bytes_a1 (.int (0 : Int32)) := f4.other W12 ne_w_bytes_a1_a1
  have f16 : Fld Z h12 a1 "com/example/wellform/wellform/cli/ByteBatch" "size" "I" (.int (w_size_a1 + (1 : Int32))) := f6.same W12
  have f17 : Exa Z h12 a1 "com/example/wellform/wellform/cli/ByteBatch" := fq1_2.wr W12
  have f18 : Exa Z h12 b1_1 "[B" := fq1_3.wr W12
  have f19 : Arv Z h12 b1_1 k1_2 .byte ((2 : Int32) * n_w_bytes_a1) vs_w_bytes_a1 (.int (0 : Int32)) := f7.other W12 (Ne.symm ne_a1_b1_1)
  have K20 : Keep h0 h12 [a1] := K8.wr W12 (Or.inl (List.mem_of_getElem? (i := 0) rfl))
  have N21 := Fr.snoc X12 N2 g_a1
  have Zs22 : n0 ≤ h12.size := Nat.le_trans Zs9 (Keep.of_wr W12).1
  obtain ⟨clo23, Aro23, qo23, So23, No23, Ho23, Go23⟩ := id f19
  have hino23 : ¬ (w_size_a1 < 0 ∨ clo23.slots.size ≤ (w_size_a1).toNatClampNeg) := inb_of So23 ⟨hp12, hp13⟩
  obtain ⟨T24, h24, X24, e24, W24, st24⟩ := stB X12 hx hZ e12 Aro23 (j := w_size_a1) hino23 (g := (mkF m 21 #[.val (.ref a1), .val (.int p2)] [(.int p2), (.int w_size_a1), (.ref b1_1)])) rfl rfl (hb hby d3_21)
  have f25 : Arv Z h24 b1_1 k1_2 .byte ((2 : Int32) * n_w_bytes_a1) (vs_w_bytes_a1.set w_size_a1.toNatClampNeg (.int (p2.toInt8.toInt32))) (.int (0 : Int32)) := Arv.set Aro23 qo23 So23 No23 Ho23 Go23 (fits_nar_byte _) W24 _ rfl hp14
  have f26 : Fld Z h24 a1 "com/example/wellform/wellform/cli/ByteBatch" "bytes" "[B" (.ref b1_1) := f13.other W24 (Or.inl ne_a1_b1_1)
  have f27 : Exa Z h24 w_bytes_a1 "[B" := f14.wr W24
  have f28 : Arv Z h24 w_bytes_a1 k_w_bytes_a1 .byte n_w_bytes_a1 vs_w_bytes_a1 (.int (0 : Int32)) := f15.other W24 ne_w_bytes_a1_b1_1
  have f29 : Fld Z h24 a1 "com/example/wellform/wellform/cli/ByteBatch" "size" "I" (.int (w_size_a1 + (1 : Int32))) := f16.other W24 (Or.inl ne_a1_b1_1)
  have f30 : Exa Z h24 a1 "com/example/wellform/wellform/cli/ByteBatch" := f17.wr W24
  have f31 : Exa Z h24 b1_1 "[B" := f18.wr W24
  have K32 : Keep h0 h24 [a1] := K20.wr W24 (Or.inr sz_b1_1)
  have N33 := Fr.snoc X24 N21 g_b1_1
  have Zs34 : n0 ≤ h24.size := Nat.le_trans Zs22 (Keep.of_wr W24).1
  obtain ⟨fs, hr, hrun, hended, hW, hsame⟩ := X24.leave (v := some (.ref a1)) (fun h => by rw [Bd.returns] at h; cases h) Bd.notSynchronized
  refine ⟨_, _, pre0 _ ?_, hrun, hended, _, _, rfl, ?_, ⟨_, rfl⟩, hW, hsame.mono (by decide) (by decide)⟩
  · show Steps p.tables e below (s₁.setTop (mkF m 0 #[.val (.ref a1), .val (.int p2)] [])) _
    refine XS.aloadN X0.here hx rfl (hb hby d3_0) rfl rfl ?_
    show Steps p.tables e below (s₁.setTop (mkF m 1 #[.val (.ref a1), .val (.int p2)] [(.ref a1)])) _
    refine XS.iconst X0.here hx rfl (hb hby d3_1) ?_
    show Steps p.tables e below (s₁.setTop (mkF m 2 #[.val (.ref a1), .val (.int p2)] [(.int (1 : Int32)), (.ref a1)])) _
    refine st1.trans ?_
    show Steps p.tables e below (T1.setTop (mkF m 5 #[.val (.ref a1), .val (.int p2)] [])) _
    refine XS.aloadN X1.here hx rfl (hb hby d3_5) rfl rfl ?_
    show Steps p.tables e below (T1.setTop (mkF m 6 #[.val (.ref a1), .val (.int p2)] [(.ref a1)])) _
    refine st10 _ ?_
    show Steps p.tables e below (T10.setTop (mkF m 9 #[.val (.ref a1), .val (.int p2)] [(.ref b1_1)])) _
    refine XS.aloadN X10.here hx rfl (hb hby d3_9) rfl rfl ?_
    show Steps p.tables e below (T10.setTop (mkF m 10 #[.val (.ref a1), .val (.int p2)] [(.ref a1), (.ref b1_1)])) _
    refine XS.dup X10.here hx rfl (hb hby d3_10) rfl rfl ?_
    show Steps p.tables e below (T10.setTop (mkF m 11 #[.val (.ref a1), .val (.int p2)] [(.ref a1), (.ref a1), (.ref b1_1)])) _
    refine st11 _ ?_
    show Steps p.tables e below (T11.setTop (mkF m 14 #[.val (.ref a1), .val (.int p2)] [(.int w_size_a1), (.ref a1), (.ref b1_1)])) _
    refine XS.dupX1 X11.here hx rfl (hb hby d3_14) rfl rfl rfl ?_
    show Steps p.tables e below (T11.setTop (mkF m 15 #[.val (.ref a1), .val (.int p2)] [(.int w_size_a1), (.ref a1), (.int w_size_a1), (.ref b1_1)])) _
    refine XS.iconst X11.here hx rfl (hb hby d3_15) ?_
    show Steps p.tables e below (T11.setTop (mkF m 16 #[.val (.ref a1), .val (.int p2)] [(.int (1 : Int32)), (.int w_size_a1), (.ref a1), (.int w_size_a1), (.ref b1_1)])) _
    refine XS.iadd X11.here hx rfl (hb hby d3_16) rfl ?_
    show Steps p.tables e below (T11.setTop (mkF m 17 #[.val (.ref a1), .val (.int p2)] [(.int (w_size_a1 + (1 : Int32))), (.ref a1), (.int w_size_a1), (.ref b1_1)])) _
    refine st12 _ ?_
    show Steps p.tables e below (T12.setTop (mkF m 20 #[.val (.ref a1), .val (.int p2)] [(.int w_size_a1), (.ref b1_1)])) _
    refine XS.iloadN X12.here hx rfl (hb hby d3_20) rfl ?_
    show Steps p.tables e below (T12.setTop (mkF m 21 #[.val (.ref a1), .val (.int p2)] [(.int p2), (.int w_size_a1), (.ref b1_1)])) _
    refine st24 _ ?_
    show Steps p.tables e below (T24.setTop (mkF m 22 #[.val (.ref a1), .val (.int p2)] [])) _
    refine XS.aloadN X24.here hx rfl (hb hby d3_22) rfl rfl ?_
    show Steps p.tables e below (T24.setTop (mkF m 23 #[.val (.ref a1), .val (.int p2)] [(.ref a1)])) _
    exact retOut X24 hx (t := (.object "com/example/wellform/wellform/cli/ByteBatch")) (i := .areturn) Bd.returns rfl (Or.inr (Or.inr (Or.inr (Or.inr ⟨rfl, rfl, rfl⟩)))) (hb hby d3_23) hr
  · show Q_appendL Z a1 p2 w_bytes_a1 k_w_bytes_a1 n_w_bytes_a1 vs_w_bytes_a1 w_size_a1 h0 n0 _ T24.heap _
    rw [e24]
    exact ⟨b1_1, k1_2, rfl, N33, g_b1_1, sz_b1_1, K32, f26, f29, f30, f31, f25⟩
def Q_appendR (Z : State) (a1 : Addr) (p2 : Int32) (w_bytes_a1 : Addr) (k_w_bytes_a1 : ClassId) (n_w_bytes_a1 : Int32) (vs_w_bytes_a1 : List Value) (w_size_a1 : Int32) (h0 : Heap) (n0 : Nat) (v : Option Value) (h : Heap) (L : List Loc) : Prop := ∃ (o1 : Addr), ∃ (ko1 : ClassId), v = some (.ref a1) ∧ Fr n0 L ∧ n0 ≤ o1 ∧ h0.size ≤ o1 ∧ Keep h0 h [a1] ∧ Fld Z h a1 "com/example/wellform/wellform/cli/ByteBatch" "bytes" "[B" (.ref o1) ∧ Fld Z h a1 "com/example/wellform/wellform/cli/ByteBatch" "size" "I" (.int (w_size_a1 + (1 : Int32))) ∧ Exa Z h a1 "com/example/wellform/wellform/cli/ByteBatch" ∧ Exa Z h o1 "[B" ∧ Arv Z h o1 ko1 .byte (w_size_a1 + (1 : Int32)) (vs_w_bytes_a1.set w_size_a1.toNatClampNeg (.int (p2.toInt8.toInt32))) (.int (0 : Int32))
set_option maxRecDepth 65536 in
set_option maxHeartbeats 40000000 in
theorem rm_appendR (l : Launch) (Z : State) (a0 : Array Value) (hw : ∀ d ∈ tables_1, d.before a0 Z = true) (ws : List Jvm.Cond) (a1 : Addr) (p2 : Int32) (w_bytes_a1 : Addr) (k_w_bytes_a1 : ClassId) (n_w_bytes_a1 : Int32) (vs_w_bytes_a1 : List Value) (w_size_a1 : Int32) (h0 : Heap) (n0 : Nat) (Z0 : n0 ≤ h0.size) (F_bytes_a1 : Fld Z h0 a1 "com/example/wellform/wellform/cli/ByteBatch" "bytes" "[B" (.ref w_bytes_a1)) (E_w_bytes_a1 : Exa Z h0 w_bytes_a1 "[B") (V_w_bytes_a1 : Arv Z h0 w_bytes_a1 k_w_bytes_a1 .byte n_w_bytes_a1 vs_w_bytes_a1 (.int (0 : Int32))) (F_size_a1 : Fld Z h0 a1 "com/example/wellform/wellform/cli/ByteBatch" "size" "I" (.int w_size_a1)) (E_a1 : Exa Z h0 a1 "com/example/wellform/wellform/cli/ByteBatch") (g_a1 : n0 ≤ a1) (g_w_bytes_a1 : n0 ≤ w_bytes_a1) (hp0 : ((2 : Int32) * n_w_bytes_a1) < (w_size_a1 + (1 : Int32))) (hp1 : ¬ ((w_size_a1 + (1 : Int32)) < (0 : Int32))) (hp2 : (w_size_a1 + (1 : Int32)).toNatClampNeg ≤ 14) (hp3 : ¬ ((w_size_a1 + (1 : Int32)) < n_w_bytes_a1)) (hp4 : ¬ (n_w_bytes_a1 < (0 : Int32))) (hp5 : (0 : Int32).toNatClampNeg + n_w_bytes_a1.toNatClampNeg ≤ n_w_bytes_a1.toNatClampNeg) (hp6 : (0 : Int32).toNatClampNeg + n_w_bytes_a1.toNatClampNeg ≤ (w_size_a1 + (1 : Int32)).toNatClampNeg) (hp7 : (0 : Int32).toNatClampNeg + n_w_bytes_a1.toNatClampNeg ≤ (List.replicate 16 (Value.int (0 : Int32))).length) (hp8 : own_Z vs_w_bytes_a1 n_w_bytes_a1) (hp9 : n_w_bytes_a1.toNatClampNeg ≤ 16) (hp10 : ¬ ((w_size_a1 + (1 : Int32)) = n_w_bytes_a1)) (hp11 : (n_w_bytes_a1 - w_size_a1) < (1 : Int32)) (hp12 : ¬ (w_size_a1 < (0 : Int32))) (hp13 : w_size_a1 < (w_size_a1 + (1 : Int32))) (hp14 : w_size_a1.toNatClampNeg < vs_w_bytes_a1.length) :
    MetFree l (⟨"com/example/wellform/wellform/cli/ByteBatch", "append", "(B)Lcom/example/wellform/wellform/cli/ByteBatch;"⟩ : MethodName) (head1 (Jvm.Cond.code (⟨"com/example/wellform/wellform/cli/ByteBatch", "append", "(B)Lcom/example/wellform/wellform/cli/ByteBatch;"⟩ : MethodName) prog_18_method_2_code 2 (some (.object "com/example/wellform/wellform/cli/ByteBatch")) :: ws) ({ frames := 3, cells := 1, slots := 14, locals := 46 } : Room)) (fun a U => a = #[(.ref a1), (.int p2)] ∧ Z.Warmed39 U.vm ∧ U.heap = h0) (fun _ _ _ _ _ => True) (fun _ U o U' => ∃ v L, o = .returned v ∧ Q_appendR Z a1 p2 w_bytes_a1 k_w_bytes_a1 n_w_bytes_a1 vs_w_bytes_a1 w_size_a1 h0 n0 v U'.heap L ∧ FrameEnd U o U' L ({ frames := 3, cells := 1, slots := 14, locals := 46 } : Room).cells ({ frames := 3, cells := 1, slots := 14, locals := 46 } : Room).slots) := by
  refine MetFree.of_bodySF (plainFor_of_name pn_com_example_wellform_wellform_cli_ByteBatch) hisR ?_
  intro p e s m args below meth c s₁ Bd hml0 hP hK
  obtain ⟨rfl, hZ, hh⟩ := hP
  have hx := Bd.exec
  have hby := Bd.bytes
  have hml : c.maxLocals = 2 := hml0
  have hown : s.vm.findClass "com/example/wellform/wellform/cli/ByteBatch" = some m.cls := findClass_of_methodNamed Bd.named
  have hnm := (name_of_methodNamed Bd.named Bd.method).1
  have X0 : Stand p l e ({ frames := 3, cells := 1, slots := 14, locals := 46 } : Room) s m #[(.ref a1), (.int p2)] below meth c s₁ [] 0 0 := Stand.of_body Bd
  have e0 : s₁.heap = h0 := by rw [← hh, Bd.state]; rfl
  have N0 := Fr.nil n0
  have pre0 : ∀ t, Steps p.tables e below (s₁.setTop (mkF m 0 #[.val (.ref a1), .val (.int p2)] [])) t → Steps p.tables e below (s₁.setTop (entryFrame m #[(.ref a1), (.int p2)] 2)) t := fun t k => castTop (ef_3_RI m a1 p2) k
  obtain ⟨cq1, q1, q1'⟩ := E_a1.cell
  obtain ⟨_, _, ⟨T1, L1, k1, n1⟩, -, X1, ⟨Lc1, hQ1, l1, y1, z1⟩, st1⟩ := X0.privateBack hx (y := (⟨"com/example/wellform/wellform/cli/ByteBatch", "room", "(I)V"⟩ : MethodName)) hown (mvT hZ (hw _ (List.mem_of_getElem? (i := 17) rfl))) (mvT hZ (hw _ (List.mem_of_getElem? (i := 18) rfl))) (own_sel hZ (hw _ (List.mem_of_getElem? (i := 19) rfl)) (hw _ (List.mem_of_getElem? (i := 18) rfl)) (hw _ (List.mem_of_getElem? (i := 1) rfl)) (by decide)) (Cond.privateMethod_at (mvP hZ (hw _ (List.mem_of_getElem? (i := 19) rfl)) (args := #[]))) (mvT hZ (hw _ (List.mem_of_getElem? (i := 20) rfl))) (by decide) (backOf (W := 0) (rm_roomR l Z a0 hw [] a1 (1 : Int32) w_bytes_a1 k_w_bytes_a1 n_w_bytes_a1 vs_w_bytes_a1 w_size_a1 h0 n0 Z0 F_bytes_a1 V_w_bytes_a1 F_size_a1 E_a1 g_a1 (ne_exa E_w_bytes_a1 E_a1 (by decide)) hp0 hp1 hp2 hp3 hp4 hp5 hp6 hp7 hp8 hp9 hp10 hp11) hZ (hw _ (List.mem_of_getElem? (i := 20) rfl)) (hw _ (List.mem_of_getElem? (i := 2) rfl)) (by decide) (by decide)) (g := (mkF m 2 #[.val (.ref a1), .val (.int p2)] [(.int (1 : Int32)), (.ref a1)])) rfl (by rw [hml]; rfl) (Steps.refl _) (a := a1) (by rw [e0]; exact q1) q1' (argsL := [(.int (1 : Int32))]) (rest := []) (lenOf pd_2 rfl) rfl (by show 2 * 0 + _ ≤ _; exact Nat.le_of_eq rfl) (hb hby d3_2) (fun _ _ => ⟨rfl, e0, (by decide : 0 + 1 ≤ _), (by decide : 0 + 14 ≤ _)⟩)
  dsimp only [Pt.U, Pt.locs, Pt.cells, Pt.slots] at X1 l1 y1 z1 st1 hQ1
  subst l1 y1 z1
  obtain ⟨b1_1, k1_2, rfl, Nq1, g_b1_1, szq_b1_1, Kc1, fq1_0, fq1_1, fq1_2, fq1_3, fq1_4⟩ := hQ1
  have sz_b1_1 : h0.size ≤ b1_1 := Nat.le_trans (Keep.refl h0 [a1]).1 szq_b1_1
  have ne_a1_b1_1 : a1 ≠ b1_1 := Nat.ne_of_lt (Nat.lt_of_lt_of_le F_bytes_a1.lt szq_b1_1)
  have ne_w_bytes_a1_b1_1 : w_bytes_a1 ≠ b1_1 := Nat.ne_of_lt (Nat.lt_of_lt_of_le E_w_bytes_a1.lt szq_b1_1)
  have ne_w_bytes_a1_a1 : w_bytes_a1 ≠ a1 := ne_exa E_w_bytes_a1 E_a1 (by decide)
  have f3 : Exa Z T1.heap w_bytes_a1 "[B" := E_w_bytes_a1.keep Kc1
  have f4 : Arv Z T1.heap w_bytes_a1 k_w_bytes_a1 .byte n_w_bytes_a1 vs_w_bytes_a1 (.int (0 : Int32)) := V_w_bytes_a1.keep Kc1 (ninS ne_w_bytes_a1_a1 nin0)
  have f5 : Fld Z T1.heap a1 "com/example/wellform/wellform/cli/ByteBatch" "bytes" "[B" (.ref b1_1) := fq1_0
  have f6 : Fld Z T1.heap a1 "com/example/wellform/wellform/cli/ByteBatch" "size" "I" (.int w_size_a1) := fq1_1
  have f7 : Arv Z T1.heap b1_1 k1_2 .byte (w_size_a1 + (1 : Int32)) vs_w_bytes_a1 (.int (0 : Int32)) := fq1_4
  have K8 : Keep h0 T1.heap [a1] := (Keep.refl h0 [a1]).trans Kc1 (allS (Or.inl (List.mem_of_getElem? (i := 0) rfl)) all0)
  have Zs9 : n0 ≤ T1.heap.size := Nat.le_trans Z0 Kc1.1
  have N2 := Fr.app N0 Nq1
  obtain ⟨T10, X10, e10, st10⟩ := getF X1 hx hZ hown (host := "") (Or.inl (hw _ (List.mem_of_getElem? (i := 10) rfl))) Via.refl rfl f5 (g := (mkF m 6 #[.val (.ref a1), .val (.int p2)] [(.ref a1)])) rfl rfl (hb hby d3_6)
  obtain ⟨T11, X11, e11, st11⟩ := getF X10 hx hZ hown (host := "") (Or.inl (hw _ (List.mem_of_getElem? (i := 21) rfl))) Via.refl e10 f6 (g := (mkF m 11 #[.val (.ref a1), .val (.int p2)] [(.ref a1), (.ref a1), (.ref b1_1)])) rfl rfl (hb hby d3_11)
  obtain ⟨T12, h12, X12, e12, W12, st12⟩ := putF X11 hx hZ hown (host := "") (Or.inl (hw _ (List.mem_of_getElem? (i := 21) rfl))) Via.refl e11 f6 fq1_2 (Or.inl (hw _ (List.mem_of_getElem? (i := 22) rfl))) (hw _ (List.mem_of_getElem? (i := 1) rfl)) (ty := .int) (by decide) rfl rfl (g := (mkF m 17 #[.val (.ref a1), .val (.int p2)] [(.int (w_size_a1 + (1 : Int32))), (.ref a1), (.int w_size_a1), (.ref b1_1)])) rfl rfl (hb hby d3_17)
  have f13 : Fld Z h12 a1 "com/example/wellform/wellform/cli/ByteBatch" "bytes" "[B" (.ref b1_1) := f5.other W12 (Or.inr (slot_ne (Or.inl (hw _ (List.mem_of_getElem? (i := 11) rfl))) (Or.inl (hw _ (List.mem_of_getElem? (i := 22) rfl))) (by decide) (t := (.array .byte)) (t' := .int) (by decide) (by decide)))
  have f14 : Exa Z h12 w_bytes_a1 "[B" := f3.wr W12
  have f15 : Arv Z h12 w_bytes_a1 k_w_bytes_a1 .byte n_w_bytes_a1 vs_w_bytes_a1 (.int (0 : Int32)) := f4.other W12 ne_w_bytes_a1_a1
  have f16 : Fld Z h12 a1 "com/example/wellform/wellform/cli/ByteBatch" "size" "I" (.int (w_size_a1 + (1 : Int32))) := f6.same W12
  have f17 : Exa Z h12 a1 "com/example/wellform/wellform/cli/ByteBatch" := fq1_2.wr W12
  have f18 : Exa Z h12 b1_1 "[B" := fq1_3.wr W12
  have f19 : Arv Z h12 b1_1 k1_2 .byte (w_size_a1 + (1 : Int32)) vs_w_bytes_a1 (.int (0 : Int32)) := f7.other W12 (Ne.symm ne_a1_b1_1)
  have K20 : Keep h0 h12 [a1] := K8.wr W12 (Or.inl (List.mem_of_getElem? (i := 0) rfl))
  have N21 := Fr.snoc X12 N2 g_a1
  have Zs22 : n0 ≤ h12.size := Nat.le_trans Zs9 (Keep.of_wr W12).1
  obtain ⟨clo23, Aro23, qo23, So23, No23, Ho23, Go23⟩ := id f19
  have hino23 : ¬ (w_size_a1 < 0 ∨ clo23.slots.size ≤ (w_size_a1).toNatClampNeg) := inb_of So23 ⟨hp12, hp13⟩
  obtain ⟨T24, h24, X24, e24, W24, st24⟩ := stB X12 hx hZ e12 Aro23 (j := w_size_a1) hino23 (g := (mkF m 21 #[.val (.ref a1), .val (.int p2)] [(.int p2), (.int w_size_a1), (.ref b1_1)])) rfl rfl (hb hby d3_21)
  have f25 : Arv Z h24 b1_1 k1_2 .byte (w_size_a1 + (1 : Int32)) (vs_w_bytes_a1.set w_size_a1.toNatClampNeg (.int (p2.toInt8.toInt32))) (.int (0 : Int32)) := Arv.set Aro23 qo23 So23 No23 Ho23 Go23 (fits_nar_byte _) W24 _ rfl hp14
  have f26 : Fld Z h24 a1 "com/example/wellform/wellform/cli/ByteBatch" "bytes" "[B" (.ref b1_1) := f13.other W24 (Or.inl ne_a1_b1_1)
  have f27 : Exa Z h24 w_bytes_a1 "[B" := f14.wr W24
  have f28 : Arv Z h24 w_bytes_a1 k_w_bytes_a1 .byte n_w_bytes_a1 vs_w_bytes_a1 (.int (0 : Int32)) := f15.other W24 ne_w_bytes_a1_b1_1
  have f29 : Fld Z h24 a1 "com/example/wellform/wellform/cli/ByteBatch" "size" "I" (.int (w_size_a1 + (1 : Int32))) := f16.other W24 (Or.inl ne_a1_b1_1)
  have f30 : Exa Z h24 a1 "com/example/wellform/wellform/cli/ByteBatch" := f17.wr W24
  have f31 : Exa Z h24 b1_1 "[B" := f18.wr W24
  have K32 : Keep h0 h24 [a1] := K20.wr W24 (Or.inr sz_b1_1)
  have N33 := Fr.snoc X24 N21 g_b1_1
  have Zs34 : n0 ≤ h24.size := Nat.le_trans Zs22 (Keep.of_wr W24).1
  obtain ⟨fs, hr, hrun, hended, hW, hsame⟩ := X24.leave (v := some (.ref a1)) (fun h => by rw [Bd.returns] at h; cases h) Bd.notSynchronized
  refine ⟨_, _, pre0 _ ?_, hrun, hended, _, _, rfl, ?_, ⟨_, rfl⟩, hW, hsame.mono (by decide) (by decide)⟩
  · show Steps p.tables e below (s₁.setTop (mkF m 0 #[.val (.ref a1), .val (.int p2)] [])) _
    refine XS.aloadN X0.here hx rfl (hb hby d3_0) rfl rfl ?_
    show Steps p.tables e below (s₁.setTop (mkF m 1 #[.val (.ref a1), .val (.int p2)] [(.ref a1)])) _
    refine XS.iconst X0.here hx rfl (hb hby d3_1) ?_
    show Steps p.tables e below (s₁.setTop (mkF m 2 #[.val (.ref a1), .val (.int p2)] [(.int (1 : Int32)), (.ref a1)])) _
    refine st1.trans ?_
    show Steps p.tables e below (T1.setTop (mkF m 5 #[.val (.ref a1), .val (.int p2)] [])) _
    refine XS.aloadN X1.here hx rfl (hb hby d3_5) rfl rfl ?_
    show Steps p.tables e below (T1.setTop (mkF m 6 #[.val (.ref a1), .val (.int p2)] [(.ref a1)])) _
    refine st10 _ ?_
    show Steps p.tables e below (T10.setTop (mkF m 9 #[.val (.ref a1), .val (.int p2)] [(.ref b1_1)])) _
    refine XS.aloadN X10.here hx rfl (hb hby d3_9) rfl rfl ?_
    show Steps p.tables e below (T10.setTop (mkF m 10 #[.val (.ref a1), .val (.int p2)] [(.ref a1), (.ref b1_1)])) _
    refine XS.dup X10.here hx rfl (hb hby d3_10) rfl rfl ?_
    show Steps p.tables e below (T10.setTop (mkF m 11 #[.val (.ref a1), .val (.int p2)] [(.ref a1), (.ref a1), (.ref b1_1)])) _
    refine st11 _ ?_
    show Steps p.tables e below (T11.setTop (mkF m 14 #[.val (.ref a1), .val (.int p2)] [(.int w_size_a1), (.ref a1), (.ref b1_1)])) _
    refine XS.dupX1 X11.here hx rfl (hb hby d3_14) rfl rfl rfl ?_
    show Steps p.tables e below (T11.setTop (mkF m 15 #[.val (.ref a1), .val (.int p2)] [(.int w_size_a1), (.ref a1), (.int w_size_a1), (.ref b1_1)])) _
    refine XS.iconst X11.here hx rfl (hb hby d3_15) ?_
    show Steps p.tables e below (T11.setTop (mkF m 16 #[.val (.ref a1), .val (.int p2)] [(.int (1 : Int32)), (.int w_size_a1), (.ref a1), (.int w_size_a1), (.ref b1_1)])) _
    refine XS.iadd X11.here hx rfl (hb hby d3_16) rfl ?_
    show Steps p.tables e below (T11.setTop (mkF m 17 #[.val (.ref a1), .val (.int p2)] [(.int (w_size_a1 + (1 : Int32))), (.ref a1), (.int w_size_a1), (.ref b1_1)])) _
    refine st12 _ ?_
    show Steps p.tables e below (T12.setTop (mkF m 20 #[.val (.ref a1), .val (.int p2)] [(.int w_size_a1), (.ref b1_1)])) _
    refine XS.iloadN X12.here hx rfl (hb hby d3_20) rfl ?_
    show Steps p.tables e below (T12.setTop (mkF m 21 #[.val (.ref a1), .val (.int p2)] [(.int p2), (.int w_size_a1), (.ref b1_1)])) _
    refine st24 _ ?_
    show Steps p.tables e below (T24.setTop (mkF m 22 #[.val (.ref a1), .val (.int p2)] [])) _
    refine XS.aloadN X24.here hx rfl (hb hby d3_22) rfl rfl ?_
    show Steps p.tables e below (T24.setTop (mkF m 23 #[.val (.ref a1), .val (.int p2)] [(.ref a1)])) _
    exact retOut X24 hx (t := (.object "com/example/wellform/wellform/cli/ByteBatch")) (i := .areturn) Bd.returns rfl (Or.inr (Or.inr (Or.inr (Or.inr ⟨rfl, rfl, rfl⟩)))) (hb hby d3_23) hr
  · show Q_appendR Z a1 p2 w_bytes_a1 k_w_bytes_a1 n_w_bytes_a1 vs_w_bytes_a1 w_size_a1 h0 n0 _ T24.heap _
    rw [e24]
    exact ⟨b1_1, k1_2, rfl, N33, g_b1_1, sz_b1_1, K32, f26, f29, f30, f31, f25⟩
def Q_appendF (Z : State) (a1 : Addr) (p2 : Int32) (w_bytes_a1 : Addr) (k_w_bytes_a1 : ClassId) (n_w_bytes_a1 : Int32) (vs_w_bytes_a1 : List Value) (w_size_a1 : Int32) (h0 : Heap) (n0 : Nat) (v : Option Value) (h : Heap) (L : List Loc) : Prop := v = some (.ref a1) ∧ Fr n0 L ∧ Keep h0 h [a1, w_bytes_a1] ∧ Fld Z h a1 "com/example/wellform/wellform/cli/ByteBatch" "bytes" "[B" (.ref w_bytes_a1) ∧ Fld Z h a1 "com/example/wellform/wellform/cli/ByteBatch" "size" "I" (.int (w_size_a1 + (1 : Int32))) ∧ Exa Z h a1 "com/example/wellform/wellform/cli/ByteBatch" ∧ Exa Z h w_bytes_a1 "[B" ∧ Arv Z h w_bytes_a1 k_w_bytes_a1 .byte n_w_bytes_a1 (vs_w_bytes_a1.set w_size_a1.toNatClampNeg (.int (p2.toInt8.toInt32))) (.int (0 : Int32))
set_option maxRecDepth 65536 in
set_option maxHeartbeats 40000000 in
theorem rm_appendF (l : Launch) (Z : State) (a0 : Array Value) (hw : ∀ d ∈ tables_1, d.before a0 Z = true) (ws : List Jvm.Cond) (a1 : Addr) (p2 : Int32) (w_bytes_a1 : Addr) (k_w_bytes_a1 : ClassId) (n_w_bytes_a1 : Int32) (vs_w_bytes_a1 : List Value) (w_size_a1 : Int32) (h0 : Heap) (n0 : Nat) (Z0 : n0 ≤ h0.size) (F_bytes_a1 : Fld Z h0 a1 "com/example/wellform/wellform/cli/ByteBatch" "bytes" "[B" (.ref w_bytes_a1)) (E_w_bytes_a1 : Exa Z h0 w_bytes_a1 "[B") (V_w_bytes_a1 : Arv Z h0 w_bytes_a1 k_w_bytes_a1 .byte n_w_bytes_a1 vs_w_bytes_a1 (.int (0 : Int32))) (F_size_a1 : Fld Z h0 a1 "com/example/wellform/wellform/cli/ByteBatch" "size" "I" (.int w_size_a1)) (E_a1 : Exa Z h0 a1 "com/example/wellform/wellform/cli/ByteBatch") (g_a1 : n0 ≤ a1) (g_w_bytes_a1 : n0 ≤ w_bytes_a1) (hp0 : ¬ ((n_w_bytes_a1 - w_size_a1) < (1 : Int32))) (hp1 : ¬ (w_size_a1 < (0 : Int32))) (hp2 : w_size_a1 < n_w_bytes_a1) (hp3 : w_size_a1.toNatClampNeg < vs_w_bytes_a1.length) :
    MetFree l (⟨"com/example/wellform/wellform/cli/ByteBatch", "append", "(B)Lcom/example/wellform/wellform/cli/ByteBatch;"⟩ : MethodName) (head1 (Jvm.Cond.code (⟨"com/example/wellform/wellform/cli/ByteBatch", "append", "(B)Lcom/example/wellform/wellform/cli/ByteBatch;"⟩ : MethodName) prog_18_method_2_code 2 (some (.object "com/example/wellform/wellform/cli/ByteBatch")) :: ws) ({ frames := 3, cells := 1, slots := 14, locals := 46 } : Room)) (fun a U => a = #[(.ref a1), (.int p2)] ∧ Z.Warmed39 U.vm ∧ U.heap = h0) (fun _ _ _ _ _ => True) (fun _ U o U' => ∃ v L, o = .returned v ∧ Q_appendF Z a1 p2 w_bytes_a1 k_w_bytes_a1 n_w_bytes_a1 vs_w_bytes_a1 w_size_a1 h0 n0 v U'.heap L ∧ FrameEnd U o U' L ({ frames := 3, cells := 1, slots := 14, locals := 46 } : Room).cells ({ frames := 3, cells := 1, slots := 14, locals := 46 } : Room).slots) := by
  refine MetFree.of_bodySF (plainFor_of_name pn_com_example_wellform_wellform_cli_ByteBatch) hisR ?_
  intro p e s m args below meth c s₁ Bd hml0 hP hK
  obtain ⟨rfl, hZ, hh⟩ := hP
  have hx := Bd.exec
  have hby := Bd.bytes
  have hml : c.maxLocals = 2 := hml0
  have hown : s.vm.findClass "com/example/wellform/wellform/cli/ByteBatch" = some m.cls := findClass_of_methodNamed Bd.named
  have hnm := (name_of_methodNamed Bd.named Bd.method).1
  have X0 : Stand p l e ({ frames := 3, cells := 1, slots := 14, locals := 46 } : Room) s m #[(.ref a1), (.int p2)] below meth c s₁ [] 0 0 := Stand.of_body Bd
  have e0 : s₁.heap = h0 := by rw [← hh, Bd.state]; rfl
  have N0 := Fr.nil n0
  have pre0 : ∀ t, Steps p.tables e below (s₁.setTop (mkF m 0 #[.val (.ref a1), .val (.int p2)] [])) t → Steps p.tables e below (s₁.setTop (entryFrame m #[(.ref a1), (.int p2)] 2)) t := fun t k => castTop (ef_3_RI m a1 p2) k
  obtain ⟨cq1, q1, q1'⟩ := E_a1.cell
  obtain ⟨_, _, ⟨T1, L1, k1, n1⟩, -, X1, ⟨Lc1, hQ1, l1, y1, z1⟩, st1⟩ := X0.privateBack hx (y := (⟨"com/example/wellform/wellform/cli/ByteBatch", "room", "(I)V"⟩ : MethodName)) hown (mvT hZ (hw _ (List.mem_of_getElem? (i := 17) rfl))) (mvT hZ (hw _ (List.mem_of_getElem? (i := 18) rfl))) (own_sel hZ (hw _ (List.mem_of_getElem? (i := 19) rfl)) (hw _ (List.mem_of_getElem? (i := 18) rfl)) (hw _ (List.mem_of_getElem? (i := 1) rfl)) (by decide)) (Cond.privateMethod_at (mvP hZ (hw _ (List.mem_of_getElem? (i := 19) rfl)) (args := #[]))) (mvT hZ (hw _ (List.mem_of_getElem? (i := 20) rfl))) (by decide) (backOf (W := 0) (rm_roomF l Z a0 hw [] a1 (1 : Int32) w_bytes_a1 k_w_bytes_a1 n_w_bytes_a1 vs_w_bytes_a1 w_size_a1 h0 n0 Z0 F_bytes_a1 V_w_bytes_a1 F_size_a1 hp0) hZ (hw _ (List.mem_of_getElem? (i := 20) rfl)) (hw _ (List.mem_of_getElem? (i := 2) rfl)) (by decide) (by decide)) (g := (mkF m 2 #[.val (.ref a1), .val (.int p2)] [(.int (1 : Int32)), (.ref a1)])) rfl (by rw [hml]; rfl) (Steps.refl _) (a := a1) (by rw [e0]; exact q1) q1' (argsL := [(.int (1 : Int32))]) (rest := []) (lenOf pd_2 rfl) rfl (by show 2 * 0 + _ ≤ _; exact Nat.le_of_eq rfl) (hb hby d3_2) (fun _ _ => ⟨rfl, e0, (by decide : 0 + 0 ≤ _), (by decide : 0 + 0 ≤ _)⟩)
  dsimp only [Pt.U, Pt.locs, Pt.cells, Pt.slots] at X1 l1 y1 z1 st1 hQ1
  subst l1 y1 z1
  obtain ⟨rfl, Nq1, e1⟩ := hQ1
  have N2 := Fr.app N0 Nq1
  obtain ⟨T3, X3, e3, st3⟩ := getF X1 hx hZ hown (host := "") (Or.inl (hw _ (List.mem_of_getElem? (i := 10) rfl))) Via.refl e1 F_bytes_a1 (g := (mkF m 6 #[.val (.ref a1), .val (.int p2)] [(.ref a1)])) rfl rfl (hb hby d3_6)
  obtain ⟨T4, X4, e4, st4⟩ := getF X3 hx hZ hown (host := "") (Or.inl (hw _ (List.mem_of_getElem? (i := 21) rfl))) Via.refl e3 F_size_a1 (g := (mkF m 11 #[.val (.ref a1), .val (.int p2)] [(.ref a1), (.ref a1), (.ref w_bytes_a1)])) rfl rfl (hb hby d3_11)
  obtain ⟨T5, h5, X5, e5, W5, st5⟩ := putF X4 hx hZ hown (host := "") (Or.inl (hw _ (List.mem_of_getElem? (i := 21) rfl))) Via.refl e4 F_size_a1 E_a1 (Or.inl (hw _ (List.mem_of_getElem? (i := 22) rfl))) (hw _ (List.mem_of_getElem? (i := 1) rfl)) (ty := .int) (by decide) rfl rfl (g := (mkF m 17 #[.val (.ref a1), .val (.int p2)] [(.int (w_size_a1 + (1 : Int32))), (.ref a1), (.int w_size_a1), (.ref w_bytes_a1)])) rfl rfl (hb hby d3_17)
  have ne_w_bytes_a1_a1 : w_bytes_a1 ≠ a1 := ne_exa E_w_bytes_a1 E_a1 (by decide)
  have f6 : Fld Z h5 a1 "com/example/wellform/wellform/cli/ByteBatch" "bytes" "[B" (.ref w_bytes_a1) := F_bytes_a1.other W5 (Or.inr (slot_ne (Or.inl (hw _ (List.mem_of_getElem? (i := 11) rfl))) (Or.inl (hw _ (List.mem_of_getElem? (i := 22) rfl))) (by decide) (t := (.array .byte)) (t' := .int) (by decide) (by decide)))
  have f7 : Exa Z h5 w_bytes_a1 "[B" := E_w_bytes_a1.wr W5
  have f8 : Arv Z h5 w_bytes_a1 k_w_bytes_a1 .byte n_w_bytes_a1 vs_w_bytes_a1 (.int (0 : Int32)) := V_w_bytes_a1.other W5 ne_w_bytes_a1_a1
  have f9 : Fld Z h5 a1 "com/example/wellform/wellform/cli/ByteBatch" "size" "I" (.int (w_size_a1 + (1 : Int32))) := F_size_a1.same W5
  have f10 : Exa Z h5 a1 "com/example/wellform/wellform/cli/ByteBatch" := E_a1.wr W5
  have K11 : Keep h0 h5 [a1, w_bytes_a1] := (Keep.refl h0 [a1, w_bytes_a1]).wr W5 (Or.inl (List.mem_of_getElem? (i := 0) rfl))
  have N12 := Fr.snoc X5 N2 g_a1
  have Zs13 : n0 ≤ h5.size := Nat.le_trans Z0 (Keep.of_wr W5).1
  obtain ⟨clo14, Aro14, qo14, So14, No14, Ho14, Go14⟩ := id f8
  have hino14 : ¬ (w_size_a1 < 0 ∨ clo14.slots.size ≤ (w_size_a1).toNatClampNeg) := inb_of So14 ⟨hp1, hp2⟩
  obtain ⟨T15, h15, X15, e15, W15, st15⟩ := stB X5 hx hZ e5 Aro14 (j := w_size_a1) hino14 (g := (mkF m 21 #[.val (.ref a1), .val (.int p2)] [(.int p2), (.int w_size_a1), (.ref w_bytes_a1)])) rfl rfl (hb hby d3_21)
  have f16 : Arv Z h15 w_bytes_a1 k_w_bytes_a1 .byte n_w_bytes_a1 (vs_w_bytes_a1.set w_size_a1.toNatClampNeg (.int (p2.toInt8.toInt32))) (.int (0 : Int32)) := Arv.set Aro14 qo14 So14 No14 Ho14 Go14 (fits_nar_byte _) W15 _ rfl hp3
  have f17 : Fld Z h15 a1 "com/example/wellform/wellform/cli/ByteBatch" "bytes" "[B" (.ref w_bytes_a1) := f6.other W15 (Or.inl (Ne.symm ne_w_bytes_a1_a1))
  have f18 : Exa Z h15 w_bytes_a1 "[B" := f7.wr W15
  have f19 : Fld Z h15 a1 "com/example/wellform/wellform/cli/ByteBatch" "size" "I" (.int (w_size_a1 + (1 : Int32))) := f9.other W15 (Or.inl (Ne.symm ne_w_bytes_a1_a1))
  have f20 : Exa Z h15 a1 "com/example/wellform/wellform/cli/ByteBatch" := f10.wr W15
  have K21 : Keep h0 h15 [a1, w_bytes_a1] := K11.wr W15 (Or.inl (List.mem_of_getElem? (i := 1) rfl))
  have N22 := Fr.snoc X15 N12 g_w_bytes_a1
  have Zs23 : n0 ≤ h15.size := Nat.le_trans Zs13 (Keep.of_wr W15).1
  obtain ⟨fs, hr, hrun, hended, hW, hsame⟩ := X15.leave (v := some (.ref a1)) (fun h => by rw [Bd.returns] at h; cases h) Bd.notSynchronized
  refine ⟨_, _, pre0 _ ?_, hrun, hended, _, _, rfl, ?_, ⟨_, rfl⟩, hW, hsame.mono (by decide) (by decide)⟩
  · show Steps p.tables e below (s₁.setTop (mkF m 0 #[.val (.ref a1), .val (.int p2)] [])) _
    refine XS.aloadN X0.here hx rfl (hb hby d3_0) rfl rfl ?_
    show Steps p.tables e below (s₁.setTop (mkF m 1 #[.val (.ref a1), .val (.int p2)] [(.ref a1)])) _
    refine XS.iconst X0.here hx rfl (hb hby d3_1) ?_
    show Steps p.tables e below (s₁.setTop (mkF m 2 #[.val (.ref a1), .val (.int p2)] [(.int (1 : Int32)), (.ref a1)])) _
    refine st1.trans ?_
    show Steps p.tables e below (T1.setTop (mkF m 5 #[.val (.ref a1), .val (.int p2)] [])) _
    refine XS.aloadN X1.here hx rfl (hb hby d3_5) rfl rfl ?_
    show Steps p.tables e below (T1.setTop (mkF m 6 #[.val (.ref a1), .val (.int p2)] [(.ref a1)])) _
    refine st3 _ ?_
    show Steps p.tables e below (T3.setTop (mkF m 9 #[.val (.ref a1), .val (.int p2)] [(.ref w_bytes_a1)])) _
    refine XS.aloadN X3.here hx rfl (hb hby d3_9) rfl rfl ?_
    show Steps p.tables e below (T3.setTop (mkF m 10 #[.val (.ref a1), .val (.int p2)] [(.ref a1), (.ref w_bytes_a1)])) _
    refine XS.dup X3.here hx rfl (hb hby d3_10) rfl rfl ?_
    show Steps p.tables e below (T3.setTop (mkF m 11 #[.val (.ref a1), .val (.int p2)] [(.ref a1), (.ref a1), (.ref w_bytes_a1)])) _
    refine st4 _ ?_
    show Steps p.tables e below (T4.setTop (mkF m 14 #[.val (.ref a1), .val (.int p2)] [(.int w_size_a1), (.ref a1), (.ref w_bytes_a1)])) _
    refine XS.dupX1 X4.here hx rfl (hb hby d3_14) rfl rfl rfl ?_
    show Steps p.tables e below (T4.setTop (mkF m 15 #[.val (.ref a1), .val (.int p2)] [(.int w_size_a1), (.ref a1), (.int w_size_a1), (.ref w_bytes_a1)])) _
    refine XS.iconst X4.here hx rfl (hb hby d3_15) ?_
    show Steps p.tables e below (T4.setTop (mkF m 16 #[.val (.ref a1), .val (.int p2)] [(.int (1 : Int32)), (.int w_size_a1), (.ref a1), (.int w_size_a1), (.ref w_bytes_a1)])) _
    refine XS.iadd X4.here hx rfl (hb hby d3_16) rfl ?_
    show Steps p.tables e below (T4.setTop (mkF m 17 #[.val (.ref a1), .val (.int p2)] [(.int (w_size_a1 + (1 : Int32))), (.ref a1), (.int w_size_a1), (.ref w_bytes_a1)])) _
    refine st5 _ ?_
    show Steps p.tables e below (T5.setTop (mkF m 20 #[.val (.ref a1), .val (.int p2)] [(.int w_size_a1), (.ref w_bytes_a1)])) _
    refine XS.iloadN X5.here hx rfl (hb hby d3_20) rfl ?_
    show Steps p.tables e below (T5.setTop (mkF m 21 #[.val (.ref a1), .val (.int p2)] [(.int p2), (.int w_size_a1), (.ref w_bytes_a1)])) _
    refine st15 _ ?_
    show Steps p.tables e below (T15.setTop (mkF m 22 #[.val (.ref a1), .val (.int p2)] [])) _
    refine XS.aloadN X15.here hx rfl (hb hby d3_22) rfl rfl ?_
    show Steps p.tables e below (T15.setTop (mkF m 23 #[.val (.ref a1), .val (.int p2)] [(.ref a1)])) _
    exact retOut X15 hx (t := (.object "com/example/wellform/wellform/cli/ByteBatch")) (i := .areturn) Bd.returns rfl (Or.inr (Or.inr (Or.inr (Or.inr ⟨rfl, rfl, rfl⟩)))) (hb hby d3_23) hr
  · show Q_appendF Z a1 p2 w_bytes_a1 k_w_bytes_a1 n_w_bytes_a1 vs_w_bytes_a1 w_size_a1 h0 n0 _ T15.heap _
    rw [e15]
    exact ⟨rfl, N22, K21, f17, f19, f20, f18, f16⟩
theorem d1_0 : decode prog_18_method_1_code 0 = .ok (.aload_n 0, 1) := by decide +kernel
theorem d1_1 : decode prog_18_method_1_code 1 = .ok (.invokespecial 1, 3) := by decide +kernel
theorem d1_4 : decode prog_18_method_1_code 4 = .ok (.aload_n 0, 1) := by decide +kernel
theorem d1_5 : decode prog_18_method_1_code 5 = .ok (.iload_n 1, 1) := by decide +kernel
theorem d1_6 : decode prog_18_method_1_code 6 = .ok (.newarray .byte, 2) := by decide +kernel
theorem d1_8 : decode prog_18_method_1_code 8 = .ok (.putfield 7, 3) := by decide +kernel
theorem d1_11 : decode prog_18_method_1_code 11 = .ok (.return_, 1) := by decide +kernel
theorem ef_1_RI (m : MethodId) (x0 : Addr) (x1 : Int32) : entryFrame m #[(.ref x0), (.int x1)] 2 = mkF m 0 #[.val (.ref x0), .val (.int x1)] [] := by first | (simp [entryFrame, mkF, argsToLocals, Value.category]; done) | rfl
def Q_init (Z : State) (a1 : Addr) (p2 : Int32) (h0 : Heap) (n0 : Nat) (v : Option Value) (h : Heap) (L : List Loc) : Prop := ∃ (o1 : Addr), ∃ (ko1 : ClassId), v = none ∧ Fr n0 L ∧ n0 ≤ o1 ∧ h0.size ≤ o1 ∧ Keep h0 h [a1] ∧ Exa Z h a1 "com/example/wellform/wellform/cli/ByteBatch" ∧ Fld Z h a1 "com/example/wellform/wellform/cli/ByteBatch" "bytes" "[B" (.ref o1) ∧ Fld Z h a1 "com/example/wellform/wellform/cli/ByteBatch" "size" "I" (.int (0 : Int32)) ∧ Exa Z h o1 "[B" ∧ Arv Z h o1 ko1 .byte p2 (List.replicate 16 (Value.int (0 : Int32))) (.int (0 : Int32))
set_option maxRecDepth 65536 in
set_option maxHeartbeats 40000000 in
theorem rm_init (l : Launch) (Z : State) (a0 : Array Value) (hw : ∀ d ∈ tables_1, d.before a0 Z = true) (ws : List Jvm.Cond) (a1 : Addr) (p2 : Int32) (h0 : Heap) (n0 : Nat) (Z0 : n0 ≤ h0.size) (E_a1 : Exa Z h0 a1 "com/example/wellform/wellform/cli/ByteBatch") (F_bytes_a1 : Fld Z h0 a1 "com/example/wellform/wellform/cli/ByteBatch" "bytes" "[B" .null) (g_a1 : n0 ≤ a1) (F_size_a1 : Fld Z h0 a1 "com/example/wellform/wellform/cli/ByteBatch" "size" "I" (.int (0 : Int32))) (hp0 : ¬ (p2 < (0 : Int32))) (hp1 : p2.toNatClampNeg ≤ 3) :
    MetFree l (⟨"com/example/wellform/wellform/cli/ByteBatch", "<init>", "(I)V"⟩ : MethodName) (head1 (Jvm.Cond.code (⟨"com/example/wellform/wellform/cli/ByteBatch", "<init>", "(I)V"⟩ : MethodName) prog_18_method_1_code 2 none :: ws) ({ frames := 1, cells := 1, slots := 3, locals := 12 } : Room)) (fun a U => a = #[(.ref a1), (.int p2)] ∧ Z.Warmed39 U.vm ∧ U.heap = h0) (fun _ _ _ _ _ => True) (fun _ U o U' => ∃ v L, o = .returned v ∧ Q_init Z a1 p2 h0 n0 v U'.heap L ∧ FrameEnd U o U' L ({ frames := 1, cells := 1, slots := 3, locals := 12 } : Room).cells ({ frames := 1, cells := 1, slots := 3, locals := 12 } : Room).slots) := by
  refine MetFree.of_bodySF (plainFor_of_name pn_com_example_wellform_wellform_cli_ByteBatch) hisR ?_
  intro p e s m args below meth c s₁ Bd hml0 hP hK
  obtain ⟨rfl, hZ, hh⟩ := hP
  have hx := Bd.exec
  have hby := Bd.bytes
  have hml : c.maxLocals = 2 := hml0
  have hown : s.vm.findClass "com/example/wellform/wellform/cli/ByteBatch" = some m.cls := findClass_of_methodNamed Bd.named
  have hnm := (name_of_methodNamed Bd.named Bd.method).1
  have X0 : Stand p l e ({ frames := 1, cells := 1, slots := 3, locals := 12 } : Room) s m #[(.ref a1), (.int p2)] below meth c s₁ [] 0 0 := Stand.of_body Bd
  have e0 : s₁.heap = h0 := by rw [← hh, Bd.state]; rfl
  have N0 := Fr.nil n0
  have pre0 : ∀ t, Steps p.tables e below (s₁.setTop (mkF m 0 #[.val (.ref a1), .val (.int p2)] [])) t → Steps p.tables e below (s₁.setTop (entryFrame m #[(.ref a1), (.int p2)] 2)) t := fun t k => castTop (ef_1_RI m a1 p2) k
  obtain ⟨T1, X1, e1, st1⟩ := initO X0 hx hZ hown (hw _ (List.mem_of_getElem? (i := 6) rfl)) (hw _ (List.mem_of_getElem? (i := 7) rfl)) (hw _ (List.mem_of_getElem? (i := 8) rfl)) e0 (g := (mkF m 1 #[.val (.ref a1), .val (.int p2)] [(.ref a1)])) rfl (by rw [hml]; rfl) rfl (hb hby d1_1) (by decide) (W := 0) (by show 2 * 0 + _ ≤ _; exact Nat.le_of_eq rfl) (by decide)
  obtain ⟨T2, h2, k2, X2, e2, E2, A2, Ex2, st2⟩ := newPE X1 hx hZ (hw _ (List.mem_of_getElem? (i := 9) rfl)) e1 (g := (mkF m 6 #[.val (.ref a1), .val (.int p2)] [(.int p2), (.ref a1)])) rfl (hb hby d1_6) rfl hp0 (cap := 3) hp1 (by decide) (by decide) (by decide) (ad := "[B") (by decide)
  obtain ⟨b2, g2⟩ : ∃ z, z = h0.size := ⟨_, rfl⟩
  rw [← g2] at A2 Ex2 st2
  have g_b2 : n0 ≤ b2 := Nat.le_trans Z0 (Nat.le_of_eq g2.symm)
  have sz_b2 : h0.size ≤ b2 := Nat.le_trans (Keep.refl h0 [a1]).1 (Nat.le_of_eq g2.symm)
  have ne_a1_b2 : a1 ≠ b2 := Nat.ne_of_lt (Nat.lt_of_lt_of_le E_a1.lt (Nat.le_of_eq g2.symm))
  have f3 : Exa Z h2 a1 "com/example/wellform/wellform/cli/ByteBatch" := E_a1.ext E2
  have f4 : Fld Z h2 a1 "com/example/wellform/wellform/cli/ByteBatch" "bytes" "[B" .null := F_bytes_a1.ext E2
  have f5 : Fld Z h2 a1 "com/example/wellform/wellform/cli/ByteBatch" "size" "I" (.int (0 : Int32)) := F_size_a1.ext E2
  have K6 : Keep h0 h2 [a1] := (Keep.refl h0 [a1]).ext E2
  have Zs7 : n0 ≤ h2.size := Nat.le_trans Z0 E2.1
  have f8 : Arv Z h2 b2 k2 .byte p2 (List.replicate 16 (Value.int (0 : Int32))) (.int (0 : Int32)) := (Arv.new A2 hp0).pad (pad_rep [] (.int (0 : Int32)) 16)
  obtain ⟨T9, h9, X9, e9, W9, st9⟩ := putF X2 hx hZ hown (host := "") (Or.inl (hw _ (List.mem_of_getElem? (i := 10) rfl))) Via.refl e2 f4 f3 (Or.inl (hw _ (List.mem_of_getElem? (i := 11) rfl))) (hw _ (List.mem_of_getElem? (i := 1) rfl)) (ty := (.array .byte)) (by decide) rfl rfl (g := (mkF m 8 #[.val (.ref a1), .val (.int p2)] [(.ref b2), (.ref a1)])) rfl rfl (hb hby d1_8)
  have f10 : Exa Z h9 a1 "com/example/wellform/wellform/cli/ByteBatch" := f3.wr W9
  have f11 : Fld Z h9 a1 "com/example/wellform/wellform/cli/ByteBatch" "bytes" "[B" (.ref b2) := f4.same W9
  have f12 : Fld Z h9 a1 "com/example/wellform/wellform/cli/ByteBatch" "size" "I" (.int (0 : Int32)) := f5.other W9 (Or.inr (slot_ne (Or.inl (hw _ (List.mem_of_getElem? (i := 22) rfl))) (Or.inl (hw _ (List.mem_of_getElem? (i := 11) rfl))) (by decide) (t := .int) (t' := (.array .byte)) (by decide) (by decide)))
  have f13 : Exa Z h9 b2 "[B" := Ex2.wr W9
  have f14 : Arv Z h9 b2 k2 .byte p2 (List.replicate 16 (Value.int (0 : Int32))) (.int (0 : Int32)) := f8.other W9 (Ne.symm ne_a1_b2)
  have K15 : Keep h0 h9 [a1] := K6.wr W9 (Or.inl (List.mem_of_getElem? (i := 0) rfl))
  have N16 := Fr.snoc X9 N0 g_a1
  have Zs17 : n0 ≤ h9.size := Nat.le_trans Zs7 (Keep.of_wr W9).1
  obtain ⟨fs, hr, hrun, hended, hW, hsame⟩ := X9.leave (v := none) (fun _ => rfl) Bd.notSynchronized
  refine ⟨_, _, pre0 _ ?_, hrun, hended, _, _, rfl, ?_, ⟨_, rfl⟩, hW, hsame.mono (by decide) (by decide)⟩
  · show Steps p.tables e below (s₁.setTop (mkF m 0 #[.val (.ref a1), .val (.int p2)] [])) _
    refine XS.aloadN X0.here hx rfl (hb hby d1_0) rfl rfl ?_
    show Steps p.tables e below (s₁.setTop (mkF m 1 #[.val (.ref a1), .val (.int p2)] [(.ref a1)])) _
    refine st1 _ ?_
    show Steps p.tables e below (T1.setTop (mkF m 4 #[.val (.ref a1), .val (.int p2)] [])) _
    refine XS.aloadN X1.here hx rfl (hb hby d1_4) rfl rfl ?_
    show Steps p.tables e below (T1.setTop (mkF m 5 #[.val (.ref a1), .val (.int p2)] [(.ref a1)])) _
    refine XS.iloadN X1.here hx rfl (hb hby d1_5) rfl ?_
    show Steps p.tables e below (T1.setTop (mkF m 6 #[.val (.ref a1), .val (.int p2)] [(.int p2), (.ref a1)])) _
    refine st2 _ ?_
    show Steps p.tables e below (T2.setTop (mkF m 8 #[.val (.ref a1), .val (.int p2)] [(.ref b2), (.ref a1)])) _
    refine st9 _ ?_
    show Steps p.tables e below (T9.setTop (mkF m 11 #[.val (.ref a1), .val (.int p2)] [])) _
    exact X9.returnOut hx Bd.returns (hb hby d1_11) hr
  · show Q_init Z a1 p2 h0 n0 _ T9.heap _
    rw [e9]
    exact ⟨b2, k2, rfl, N16, g_b2, sz_b2, K15, f10, f11, f12, f13, f14⟩
def own_B (s n : Int32) (vs : List Value) : Prop := 0 ≤ s.toInt ∧ s.toInt ≤ n.toInt ∧ n.toInt ≤ 14 ∧ vs.length = 16 ∧ own_Z vs n
def Q_append (Z : State) (a1 : Addr) (p2 : Int32) (w_bytes_a1 : Addr) (k_w_bytes_a1 : ClassId) (n_w_bytes_a1 : Int32) (vs_w_bytes_a1 : List Value) (w_size_a1 : Int32) (h0 : Heap) (n0 : Nat) (v : Option Value) (h : Heap) (L : List Loc) : Prop := ∃ (o1 : Addr), ∃ (ko1 : ClassId), ∃ (no1 : Int32), ∃ (vso1 : List Value), v = some (.ref a1) ∧ Fr n0 L ∧ n0 ≤ o1 ∧ own_B (w_size_a1 + (1 : Int32)) no1 vso1 ∧ Keep h0 h [a1, w_bytes_a1] ∧ Exa Z h a1 "com/example/wellform/wellform/cli/ByteBatch" ∧ Fld Z h a1 "com/example/wellform/wellform/cli/ByteBatch" "bytes" "[B" (.ref o1) ∧ Fld Z h a1 "com/example/wellform/wellform/cli/ByteBatch" "size" "I" (.int (w_size_a1 + (1 : Int32))) ∧ Exa Z h o1 "[B" ∧ Arv Z h o1 ko1 .byte no1 vso1 (.int (0 : Int32))
set_option maxRecDepth 65536 in
set_option maxHeartbeats 40000000 in
theorem rm_append (l : Launch) (Z : State) (a0 : Array Value) (hw : ∀ d ∈ tables_1, d.before a0 Z = true) (ws : List Jvm.Cond) (a1 : Addr) (p2 : Int32) (w_bytes_a1 : Addr) (k_w_bytes_a1 : ClassId) (n_w_bytes_a1 : Int32) (vs_w_bytes_a1 : List Value) (w_size_a1 : Int32) (h0 : Heap) (n0 : Nat) (Z0 : n0 ≤ h0.size) (F_bytes_a1 : Fld Z h0 a1 "com/example/wellform/wellform/cli/ByteBatch" "bytes" "[B" (.ref w_bytes_a1)) (E_w_bytes_a1 : Exa Z h0 w_bytes_a1 "[B") (V_w_bytes_a1 : Arv Z h0 w_bytes_a1 k_w_bytes_a1 .byte n_w_bytes_a1 vs_w_bytes_a1 (.int (0 : Int32))) (F_size_a1 : Fld Z h0 a1 "com/example/wellform/wellform/cli/ByteBatch" "size" "I" (.int w_size_a1)) (E_a1 : Exa Z h0 a1 "com/example/wellform/wellform/cli/ByteBatch") (g_a1 : n0 ≤ a1) (g_w_bytes_a1 : n0 ≤ w_bytes_a1) (hB : own_B w_size_a1 n_w_bytes_a1 vs_w_bytes_a1) (hs : w_size_a1.toInt ≤ 6) :
    MetFree l (⟨"com/example/wellform/wellform/cli/ByteBatch", "append", "(B)Lcom/example/wellform/wellform/cli/ByteBatch;"⟩ : MethodName) (head1 (Jvm.Cond.code (⟨"com/example/wellform/wellform/cli/ByteBatch", "append", "(B)Lcom/example/wellform/wellform/cli/ByteBatch;"⟩ : MethodName) prog_18_method_2_code 2 (some (.object "com/example/wellform/wellform/cli/ByteBatch")) :: ws) ({ frames := 3, cells := 1, slots := 14, locals := 46 } : Room)) (fun a U => a = #[(.ref a1), (.int p2)] ∧ Z.Warmed39 U.vm ∧ U.heap = h0) (fun _ _ _ _ _ => True) (fun _ U o U' => ∃ v L, o = .returned v ∧ Q_append Z a1 p2 w_bytes_a1 k_w_bytes_a1 n_w_bytes_a1 vs_w_bytes_a1 w_size_a1 h0 n0 v U'.heap L ∧ FrameEnd U o U' L ({ frames := 3, cells := 1, slots := 14, locals := 46 } : Room).cells ({ frames := 3, cells := 1, slots := 14, locals := 46 } : Room).slots) := by
  obtain ⟨b1, b2, b3, b4, b5⟩ := hB
  have z0 : (0 : Int32).toInt = 0 := by decide
  have z1 : (1 : Int32).toInt = 1 := by decide
  have z2 : (2 : Int32).toInt = 2 := by decide
  have e1 := c_isub n_w_bytes_a1 w_size_a1
  have r1 := rng32 (n_w_bytes_a1 - w_size_a1)
  have e2 := c_imul 2 n_w_bytes_a1
  have r2 := rng32 (2 * n_w_bytes_a1)
  have e3 := c_iadd w_size_a1 1
  have r3 := rng32 (w_size_a1 + 1)
  rw [z2] at e2
  have v3 : (w_size_a1 + 1).toInt = w_size_a1.toInt + 1 := by omega
  have v2 : (2 * n_w_bytes_a1).toInt = 2 * n_w_bytes_a1.toInt := by omega
  have v1 : (n_w_bytes_a1 - w_size_a1).toInt = n_w_bytes_a1.toInt - w_size_a1.toInt := by omega
  have ne : a1 ≠ w_bytes_a1 := ne_exa E_a1 E_w_bytes_a1 (by decide)
  by_cases c : (n_w_bytes_a1 - w_size_a1) < (1 : Int32)
  · have c' := own_lt32.mp c
    by_cases d : (2 * n_w_bytes_a1) < (w_size_a1 + (1 : Int32))
    · have d' := own_lt32.mp d
      refine own_mono (rm_appendR l Z a0 hw ws a1 p2 w_bytes_a1 k_w_bytes_a1 n_w_bytes_a1 vs_w_bytes_a1 w_size_a1 h0 n0 Z0 F_bytes_a1 E_w_bytes_a1 V_w_bytes_a1 F_size_a1 E_a1 g_a1 g_w_bytes_a1 (by first | assumption | (rw [own_lt32]; omega) | (intro q; rw [own_lt32] at q; omega) | (intro q; have q' := congrArg Int32.toInt q; omega) | (simp only [Int32.toNatClampNeg]; omega) | (simp only [Int32.toNatClampNeg, List.length_set, List.length_replicate]; omega)) (by first | assumption | (rw [own_lt32]; omega) | (intro q; rw [own_lt32] at q; omega) | (intro q; have q' := congrArg Int32.toInt q; omega) | (simp only [Int32.toNatClampNeg]; omega) | (simp only [Int32.toNatClampNeg, List.length_set, List.length_replicate]; omega)) (by first | assumption | (rw [own_lt32]; omega) | (intro q; rw [own_lt32] at q; omega) | (intro q; have q' := congrArg Int32.toInt q; omega) | (simp only [Int32.toNatClampNeg]; omega) | (simp only [Int32.toNatClampNeg, List.length_set, List.length_replicate]; omega)) (by first | assumption | (rw [own_lt32]; omega) | (intro q; rw [own_lt32] at q; omega) | (intro q; have q' := congrArg Int32.toInt q; omega) | (simp only [Int32.toNatClampNeg]; omega) | (simp only [Int32.toNatClampNeg, List.length_set, List.length_replicate]; omega)) (by first | assumption | (rw [own_lt32]; omega) | (intro q; rw [own_lt32] at q; omega) | (intro q; have q' := congrArg Int32.toInt q; omega) | (simp only [Int32.toNatClampNeg]; omega) | (simp only [Int32.toNatClampNeg, List.length_set, List.length_replicate]; omega)) (by first | assumption | (rw [own_lt32]; omega) | (intro q; rw [own_lt32] at q; omega) | (intro q; have q' := congrArg Int32.toInt q; omega) | (simp only [Int32.toNatClampNeg]; omega) | (simp only [Int32.toNatClampNeg, List.length_set, List.length_replicate]; omega)) (by first | assumption | (rw [own_lt32]; omega) | (intro q; rw [own_lt32] at q; omega) | (intro q; have q' := congrArg Int32.toInt q; omega) | (simp only [Int32.toNatClampNeg]; omega) | (simp only [Int32.toNatClampNeg, List.length_set, List.length_replicate]; omega)) (by first | assumption | (rw [own_lt32]; omega) | (intro q; rw [own_lt32] at q; omega) | (intro q; have q' := congrArg Int32.toInt q; omega) | (simp only [Int32.toNatClampNeg]; omega) | (simp only [Int32.toNatClampNeg, List.length_set, List.length_replicate]; omega)) (by first | assumption | (rw [own_lt32]; omega) | (intro q; rw [own_lt32] at q; omega) | (intro q; have q' := congrArg Int32.toInt q; omega) | (simp only [Int32.toNatClampNeg]; omega) | (simp only [Int32.toNatClampNeg, List.length_set, List.length_replicate]; omega)) (by first | assumption | (rw [own_lt32]; omega) | (intro q; rw [own_lt32] at q; omega) | (intro q; have q' := congrArg Int32.toInt q; omega) | (simp only [Int32.toNatClampNeg]; omega) | (simp only [Int32.toNatClampNeg, List.length_set, List.length_replicate]; omega)) (by first | assumption | (rw [own_lt32]; omega) | (intro q; rw [own_lt32] at q; omega) | (intro q; have q' := congrArg Int32.toInt q; omega) | (simp only [Int32.toNatClampNeg]; omega) | (simp only [Int32.toNatClampNeg, List.length_set, List.length_replicate]; omega)) (by first | assumption | (rw [own_lt32]; omega) | (intro q; rw [own_lt32] at q; omega) | (intro q; have q' := congrArg Int32.toInt q; omega) | (simp only [Int32.toNatClampNeg]; omega) | (simp only [Int32.toNatClampNeg, List.length_set, List.length_replicate]; omega)) (by first | assumption | (rw [own_lt32]; omega) | (intro q; rw [own_lt32] at q; omega) | (intro q; have q' := congrArg Int32.toInt q; omega) | (simp only [Int32.toNatClampNeg]; omega) | (simp only [Int32.toNatClampNeg, List.length_set, List.length_replicate]; omega)) (by first | assumption | (rw [own_lt32]; omega) | (intro q; rw [own_lt32] at q; omega) | (intro q; have q' := congrArg Int32.toInt q; omega) | (simp only [Int32.toNatClampNeg]; omega) | (simp only [Int32.toNatClampNeg, List.length_set, List.length_replicate]; omega)) (by first | assumption | (rw [own_lt32]; omega) | (intro q; rw [own_lt32] at q; omega) | (intro q; have q' := congrArg Int32.toInt q; omega) | (simp only [Int32.toNatClampNeg]; omega) | (simp only [Int32.toNatClampNeg, List.length_set, List.length_replicate]; omega))) (fun _ _ _ _ q => ?_)
      obtain ⟨v, L, ho, ⟨o1, ko1, hv, N, g, sz, K, f1, f2, f3, f4, f5⟩, hf⟩ := q
      exact ⟨v, L, ho, ⟨o1, ko1, _, _, hv, N, g, ⟨by omega, by omega, by omega, by simpa using b4, own_Z_set b5 (by simp only [Int32.toNatClampNeg]; omega) (by simp only [Int32.toNatClampNeg]; omega)⟩, own_keep K, f3, f1, f2, f4, f5⟩, hf⟩
    · have d' : ¬ (2 * n_w_bytes_a1).toInt < (w_size_a1 + (1 : Int32)).toInt := fun q => d (own_lt32.mpr q)
      refine own_mono (rm_appendL l Z a0 hw ws a1 p2 w_bytes_a1 k_w_bytes_a1 n_w_bytes_a1 vs_w_bytes_a1 w_size_a1 h0 n0 Z0 F_bytes_a1 E_w_bytes_a1 V_w_bytes_a1 F_size_a1 E_a1 g_a1 g_w_bytes_a1 (by first | assumption | (rw [own_lt32]; omega) | (intro q; rw [own_lt32] at q; omega) | (intro q; have q' := congrArg Int32.toInt q; omega) | (simp only [Int32.toNatClampNeg]; omega) | (simp only [Int32.toNatClampNeg, List.length_set, List.length_replicate]; omega)) (by first | assumption | (rw [own_lt32]; omega) | (intro q; rw [own_lt32] at q; omega) | (intro q; have q' := congrArg Int32.toInt q; omega) | (simp only [Int32.toNatClampNeg]; omega) | (simp only [Int32.toNatClampNeg, List.length_set, List.length_replicate]; omega)) (by first | assumption | (rw [own_lt32]; omega) | (intro q; rw [own_lt32] at q; omega) | (intro q; have q' := congrArg Int32.toInt q; omega) | (simp only [Int32.toNatClampNeg]; omega) | (simp only [Int32.toNatClampNeg, List.length_set, List.length_replicate]; omega)) (by first | assumption | (rw [own_lt32]; omega) | (intro q; rw [own_lt32] at q; omega) | (intro q; have q' := congrArg Int32.toInt q; omega) | (simp only [Int32.toNatClampNeg]; omega) | (simp only [Int32.toNatClampNeg, List.length_set, List.length_replicate]; omega)) (by first | assumption | (rw [own_lt32]; omega) | (intro q; rw [own_lt32] at q; omega) | (intro q; have q' := congrArg Int32.toInt q; omega) | (simp only [Int32.toNatClampNeg]; omega) | (simp only [Int32.toNatClampNeg, List.length_set, List.length_replicate]; omega)) (by first | assumption | (rw [own_lt32]; omega) | (intro q; rw [own_lt32] at q; omega) | (intro q; have q' := congrArg Int32.toInt q; omega) | (simp only [Int32.toNatClampNeg]; omega) | (simp only [Int32.toNatClampNeg, List.length_set, List.length_replicate]; omega)) (by first | assumption | (rw [own_lt32]; omega) | (intro q; rw [own_lt32] at q; omega) | (intro q; have q' := congrArg Int32.toInt q; omega) | (simp only [Int32.toNatClampNeg]; omega) | (simp only [Int32.toNatClampNeg, List.length_set, List.length_replicate]; omega)) (by first | assumption | (rw [own_lt32]; omega) | (intro q; rw [own_lt32] at q; omega) | (intro q; have q' := congrArg Int32.toInt q; omega) | (simp only [Int32.toNatClampNeg]; omega) | (simp only [Int32.toNatClampNeg, List.length_set, List.length_replicate]; omega)) (by first | assumption | (rw [own_lt32]; omega) | (intro q; rw [own_lt32] at q; omega) | (intro q; have q' := congrArg Int32.toInt q; omega) | (simp only [Int32.toNatClampNeg]; omega) | (simp only [Int32.toNatClampNeg, List.length_set, List.length_replicate]; omega)) (by first | assumption | (rw [own_lt32]; omega) | (intro q; rw [own_lt32] at q; omega) | (intro q; have q' := congrArg Int32.toInt q; omega) | (simp only [Int32.toNatClampNeg]; omega) | (simp only [Int32.toNatClampNeg, List.length_set, List.length_replicate]; omega)) (by first | assumption | (rw [own_lt32]; omega) | (intro q; rw [own_lt32] at q; omega) | (intro q; have q' := congrArg Int32.toInt q; omega) | (simp only [Int32.toNatClampNeg]; omega) | (simp only [Int32.toNatClampNeg, List.length_set, List.length_replicate]; omega)) (by first | assumption | (rw [own_lt32]; omega) | (intro q; rw [own_lt32] at q; omega) | (intro q; have q' := congrArg Int32.toInt q; omega) | (simp only [Int32.toNatClampNeg]; omega) | (simp only [Int32.toNatClampNeg, List.length_set, List.length_replicate]; omega)) (by first | assumption | (rw [own_lt32]; omega) | (intro q; rw [own_lt32] at q; omega) | (intro q; have q' := congrArg Int32.toInt q; omega) | (simp only [Int32.toNatClampNeg]; omega) | (simp only [Int32.toNatClampNeg, List.length_set, List.length_replicate]; omega)) (by first | assumption | (rw [own_lt32]; omega) | (intro q; rw [own_lt32] at q; omega) | (intro q; have q' := congrArg Int32.toInt q; omega) | (simp only [Int32.toNatClampNeg]; omega) | (simp only [Int32.toNatClampNeg, List.length_set, List.length_replicate]; omega)) (by first | assumption | (rw [own_lt32]; omega) | (intro q; rw [own_lt32] at q; omega) | (intro q; have q' := congrArg Int32.toInt q; omega) | (simp only [Int32.toNatClampNeg]; omega) | (simp only [Int32.toNatClampNeg, List.length_set, List.length_replicate]; omega))) (fun _ _ _ _ q => ?_)
      obtain ⟨v, L, ho, ⟨o1, ko1, hv, N, g, sz, K, f1, f2, f3, f4, f5⟩, hf⟩ := q
      exact ⟨v, L, ho, ⟨o1, ko1, _, _, hv, N, g, ⟨by omega, by omega, by omega, by simpa using b4, own_Z_set b5 (by simp only [Int32.toNatClampNeg]; omega) (by simp only [Int32.toNatClampNeg]; omega)⟩, own_keep K, f3, f1, f2, f4, f5⟩, hf⟩
  · have c' : ¬ (n_w_bytes_a1 - w_size_a1).toInt < (1 : Int32).toInt := fun q => c (own_lt32.mpr q)
    refine own_mono (rm_appendF l Z a0 hw ws a1 p2 w_bytes_a1 k_w_bytes_a1 n_w_bytes_a1 vs_w_bytes_a1 w_size_a1 h0 n0 Z0 F_bytes_a1 E_w_bytes_a1 V_w_bytes_a1 F_size_a1 E_a1 g_a1 g_w_bytes_a1 (by first | assumption | (rw [own_lt32]; omega) | (intro q; rw [own_lt32] at q; omega) | (intro q; have q' := congrArg Int32.toInt q; omega) | (simp only [Int32.toNatClampNeg]; omega) | (simp only [Int32.toNatClampNeg, List.length_set, List.length_replicate]; omega)) (by first | assumption | (rw [own_lt32]; omega) | (intro q; rw [own_lt32] at q; omega) | (intro q; have q' := congrArg Int32.toInt q; omega) | (simp only [Int32.toNatClampNeg]; omega) | (simp only [Int32.toNatClampNeg, List.length_set, List.length_replicate]; omega)) (by first | assumption | (rw [own_lt32]; omega) | (intro q; rw [own_lt32] at q; omega) | (intro q; have q' := congrArg Int32.toInt q; omega) | (simp only [Int32.toNatClampNeg]; omega) | (simp only [Int32.toNatClampNeg, List.length_set, List.length_replicate]; omega)) (by first | assumption | (rw [own_lt32]; omega) | (intro q; rw [own_lt32] at q; omega) | (intro q; have q' := congrArg Int32.toInt q; omega) | (simp only [Int32.toNatClampNeg]; omega) | (simp only [Int32.toNatClampNeg, List.length_set, List.length_replicate]; omega))) (fun _ _ _ _ q => ?_)
    obtain ⟨v, L, ho, ⟨hv, N, K, f1, f2, f3, f4, f5⟩, hf⟩ := q
    exact ⟨v, L, ho, ⟨_, _, _, _, hv, N, g_w_bytes_a1, ⟨by omega, by omega, by omega, by simpa using b4, own_Z_set b5 (by simp only [Int32.toNatClampNeg]; omega) (by simp only [Int32.toNatClampNeg]; omega)⟩, K, f3, f1, f2, f4, f5⟩, hf⟩
theorem pd_3 : parseMethodDescriptor "()I" = some ⟨[], some .int⟩ := by decide +kernel
theorem pd_4 : parseMethodDescriptor "(B)Lcom/example/wellform/wellform/cli/ByteBatch;" = some ⟨[.byte], some (.object "com/example/wellform/wellform/cli/ByteBatch")⟩ := by decide +kernel
theorem pn_com_example_wellform_wellform_cli_ByteBatchAppendPinLaw : plainName "com/example/wellform/wellform/cli/ByteBatchAppendPinLaw" = true := by first | (simp [plainName, overriddenIn]; done) | decide +kernel
theorem ef_0_IIII (m : MethodId) (x0 : Int32) (x1 : Int32) (x2 : Int32) (x3 : Int32) : entryFrame m #[(.int x0), (.int x1), (.int x2), (.int x3)] maxLocals = mkF m 0 #[.val (.int x0), .val (.int x1), .val (.int x2), .val (.int x3), .unset, .unset, .unset, .unset] [] := by first | (simp [entryFrame, mkF, argsToLocals, Value.category, maxLocals]; done) | rfl
def Q_law (Z : State) (p1 : Int32) (p2 : Int32) (p3 : Int32) (p4 : Int32) (h0 : Heap) (n0 : Nat) (v : Option Value) (h : Heap) (L : List Loc) : Prop := v = some (.int (1 : Int32)) ∧ Fr n0 L
def Road_n0 (p1 : Int32) (p2 : Int32) (p3 : Int32) (p4 : Int32) : Prop := ((p2 &&& (7 : Int32)) = (0 : Int32)) ∧ (¬ ((p1 &&& (3 : Int32)) < (0 : Int32))) ∧ ((p1 &&& (3 : Int32)).toNatClampNeg ≤ 3)
set_option maxRecDepth 65536 in
set_option maxHeartbeats 40000000 in
theorem rm_law_n0 (l : Launch) (Z : State) (a0 : Array Value) (hw : ∀ d ∈ tables_1, d.before a0 Z = true) (ws : List Jvm.Cond) (p1 : Int32) (p2 : Int32) (p3 : Int32) (p4 : Int32) (h0 : Heap) (n0 : Nat) (Z0 : n0 ≤ h0.size) (hroad : Road_n0 p1 p2 p3 p4) :
    MetFree l x (head1 (Jvm.Cond.code x code maxLocals ret :: ws) room_1) (fun a U => a = #[(.int p1), (.int p2), (.int p3), (.int p4)] ∧ Z.Warmed39 U.vm ∧ U.heap = h0) (fun _ _ _ _ _ => True) (fun _ U o U' => ∃ v L, o = .returned v ∧ Q_law Z p1 p2 p3 p4 h0 n0 v U'.heap L ∧ FrameEnd U o U' L room_1.cells room_1.slots) := by
  obtain ⟨hw_0, hp1, hp2⟩ := hroad
  refine MetFree.of_bodySF (plainFor_of_name pn_com_example_wellform_wellform_cli_ByteBatchAppendPinLaw) hisR ?_
  intro p e s m args below meth c s₁ Bd hml0 hP hK
  obtain ⟨rfl, hZ, hh⟩ := hP
  have hx := Bd.exec
  have hby := Bd.bytes
  have hml : c.maxLocals = 8 := hml0
  have hown : s.vm.findClass "com/example/wellform/wellform/cli/ByteBatchAppendPinLaw" = some m.cls := findClass_of_methodNamed Bd.named
  have hnm := (name_of_methodNamed Bd.named Bd.method).1
  have X0 : Stand p l e room_1 s m #[(.int p1), (.int p2), (.int p3), (.int p4)] below meth c s₁ [] 0 0 := Stand.of_body Bd
  have e0 : s₁.heap = h0 := by rw [← hh, Bd.state]; rfl
  have N0 := Fr.nil n0
  have pre0 : ∀ t, Steps p.tables e below (s₁.setTop (mkF m 0 #[.val (.int p1), .val (.int p2), .val (.int p3), .val (.int p4), .unset, .unset, .unset, .unset] [])) t → Steps p.tables e below (s₁.setTop (entryFrame m #[(.int p1), (.int p2), (.int p3), (.int p4)] maxLocals)) t := fun t k => castTop (ef_0_IIII m p1 p2 p3 p4) k
  obtain ⟨T1, h1, X1, e1, E1, A1, D1, -, st1⟩ := newO X0 hx hZ hown (hw _ (List.mem_of_getElem? (i := 0) rfl)) (hw _ (List.mem_of_getElem? (i := 1) rfl)) (hw _ (List.mem_of_getElem? (i := 2) rfl)) e0 (g := (mkF m 11 #[.val (.int p1), .val (.int p2), .val (.int p3), .val (.int p4), .val (.int (p1 &&& (3 : Int32))), .val (.int (0 : Int32)), .unset, .unset] [])) rfl (hb hby at_11) (by decide) (by decide)
  obtain ⟨b1, g1⟩ : ∃ z, z = h0.size := ⟨_, rfl⟩
  rw [← g1] at A1 D1 st1
  have g_b1 : n0 ≤ b1 := Nat.le_trans Z0 (Nat.le_of_eq g1.symm)
  have Zs2 : n0 ≤ h1.size := Nat.le_trans Z0 E1.1
  have f3 : Fld Z h1 b1 "com/example/wellform/wellform/cli/ByteBatch" "bytes" "[B" .null := D1 (Or.inl (hw _ (List.mem_of_getElem? (i := 11) rfl))) (ty := (.array .byte)) (by decide)
  have f4 : Fld Z h1 b1 "com/example/wellform/wellform/cli/ByteBatch" "size" "I" (.int (0 : Int32)) := D1 (Or.inl (hw _ (List.mem_of_getElem? (i := 22) rfl))) (ty := .int) (by decide)
  obtain ⟨_, _, ⟨T5, L5, k5, n5⟩, -, X5, ⟨Lc5, hQ5, l5, y5, z5⟩, st5⟩ := X1.specialBack hx (y := (⟨"com/example/wellform/wellform/cli/ByteBatch", "<init>", "(I)V"⟩ : MethodName)) rfl hown (mvT hZ (hw _ (List.mem_of_getElem? (i := 3) rfl))) (mvT hZ (hw _ (List.mem_of_getElem? (i := 4) rfl))) (mvT hZ (hw _ (List.mem_of_getElem? (i := 5) rfl))) (by decide) (backOf (W := 1) (rm_init l Z a0 hw [] b1 (p1 &&& (3 : Int32)) h1 n0 Zs2 A1 f3 g_b1 f4 hp1 hp2) hZ (hw _ (List.mem_of_getElem? (i := 5) rfl)) (hw _ (List.mem_of_getElem? (i := 2) rfl)) (by decide) (by decide)) (g := (mkF m 17 #[.val (.int p1), .val (.int p2), .val (.int p3), .val (.int p4), .val (.int (p1 &&& (3 : Int32))), .val (.int (0 : Int32)), .unset, .unset] [(.int (p1 &&& (3 : Int32))), (.ref b1), (.ref b1)])) rfl (by rw [hml]; rfl) (Steps.refl _) (a := b1) (argsL := [(.int (p1 &&& (3 : Int32)))]) (rest := [(.ref b1)]) (lenOf pd_2 rfl) rfl (by show 2 * 0 + _ ≤ _; exact Nat.le_of_eq rfl) (hb hby at_17) (fun _ _ => ⟨rfl, e1, (by decide : 1 + 1 ≤ _), (by decide : 2 + 3 ≤ _)⟩)
  dsimp only [Pt.U, Pt.locs, Pt.cells, Pt.slots] at X5 l5 y5 z5 st5 hQ5
  subst l5 y5 z5
  obtain ⟨b5_1, k5_2, rfl, Nq5, g_b5_1, szq_b5_1, Kc5, fq5_0, fq5_1, fq5_2, fq5_3, fq5_4⟩ := hQ5
  have ne_b1_b5_1 : b1 ≠ b5_1 := Nat.ne_of_lt (Nat.lt_of_lt_of_le A1.lt szq_b5_1)
  have f7 : Fld Z T5.heap b1 "com/example/wellform/wellform/cli/ByteBatch" "bytes" "[B" (.ref b5_1) := fq5_1
  have f8 : Fld Z T5.heap b1 "com/example/wellform/wellform/cli/ByteBatch" "size" "I" (.int (0 : Int32)) := fq5_2
  have f9 : Arv Z T5.heap b5_1 k5_2 .byte (p1 &&& (3 : Int32)) (List.replicate 16 (Value.int (0 : Int32))) (.int (0 : Int32)) := fq5_4
  have Zs10 : n0 ≤ T5.heap.size := Nat.le_trans Zs2 Kc5.1
  have N6 := Fr.app N0 Nq5
  obtain ⟨cq11, kq11, q11a, q11b, q11c⟩ := isOf hZ rfl fq5_0
  obtain ⟨_, _, ⟨T11, L11, k11, n11⟩, -, X11, ⟨Lc11, hQ11, l11, y11, z11⟩, st11⟩ := X5.virtualBack hx (y := (⟨"com/example/wellform/wellform/cli/ByteBatch", "size", "()I"⟩ : MethodName)) (z := (⟨"com/example/wellform/wellform/cli/ByteBatch", "size", "()I"⟩ : MethodName)) hown (mvT hZ (hw _ (List.mem_of_getElem? (i := 38) rfl))) (mvT hZ (hw _ (List.mem_of_getElem? (i := 39) rfl))) (notFace_of_selects (args := #[]) (mvT hZ (hw _ (List.mem_of_getElem? (i := 41) rfl)))) (mvT hZ (hw _ (List.mem_of_getElem? (i := 41) rfl))) (mvT hZ (hw _ (List.mem_of_getElem? (i := 40) rfl))) (by decide) (backOf (W := 0) (rm_size l Z a0 hw [] b1 (0 : Int32) T5.heap n0 Zs10 f8) hZ (hw _ (List.mem_of_getElem? (i := 42) rfl)) (hw _ (List.mem_of_getElem? (i := 2) rfl)) (by decide) (by decide)) q11a q11c (g := (mkF m 257 #[.val (.int p1), .val (.int p2), .val (.int p3), .val (.int p4), .val (.int (p1 &&& (3 : Int32))), .val (.int (0 : Int32)), .val (.ref b1), .val (.int (1 : Int32))] [(.ref b1)])) rfl (by rw [hml]; rfl) (Steps.refl _) (argsL := []) (rest := []) (lenOf pd_3 rfl) rfl (by show 2 * 0 + _ ≤ _; exact Nat.le_of_eq rfl) (hb hby at_257) (fun _ _ => ⟨rfl, rfl, (by decide : 2 + 0 ≤ _), (by decide : 5 + 0 ≤ _)⟩)
  dsimp only [Pt.U, Pt.locs, Pt.cells, Pt.slots] at X11 l11 y11 z11 st11 hQ11
  subst l11 y11 z11
  obtain ⟨rfl, Nq11, e11⟩ := hQ11
  have N12 := Fr.app N6 Nq11
  obtain ⟨fs, hr, hrun, hended, hW, hsame⟩ := X11.leave (v := some (.int (1 : Int32))) (fun h => by rw [Bd.returns] at h; cases h) Bd.notSynchronized
  refine ⟨_, _, pre0 _ ?_, hrun, hended, _, _, rfl, ?_, ⟨_, rfl⟩, hW, hsame.mono (by decide) (by decide)⟩
  · show Steps p.tables e below (s₁.setTop (mkF m 0 #[.val (.int p1), .val (.int p2), .val (.int p3), .val (.int p4), .unset, .unset, .unset, .unset] [])) _
    refine XS.iloadN X0.here hx rfl (hb hby at_0) rfl ?_
    show Steps p.tables e below (s₁.setTop (mkF m 1 #[.val (.int p1), .val (.int p2), .val (.int p3), .val (.int p4), .unset, .unset, .unset, .unset] [(.int p1)])) _
    refine XS.iconst X0.here hx rfl (hb hby at_1) ?_
    show Steps p.tables e below (s₁.setTop (mkF m 2 #[.val (.int p1), .val (.int p2), .val (.int p3), .val (.int p4), .unset, .unset, .unset, .unset] [(.int (3 : Int32)), (.int p1)])) _
    refine XS.iand X0.here hx rfl (hb hby at_2) rfl ?_
    show Steps p.tables e below (s₁.setTop (mkF m 3 #[.val (.int p1), .val (.int p2), .val (.int p3), .val (.int p4), .unset, .unset, .unset, .unset] [(.int (p1 &&& (3 : Int32)))])) _
    refine XS.istore X0.here hx rfl (hb hby at_3) rfl (l' := #[.val (.int p1), .val (.int p2), .val (.int p3), .val (.int p4), .val (.int (p1 &&& (3 : Int32))), .unset, .unset, .unset]) rfl ?_
    show Steps p.tables e below (s₁.setTop (mkF m 5 #[.val (.int p1), .val (.int p2), .val (.int p3), .val (.int p4), .val (.int (p1 &&& (3 : Int32))), .unset, .unset, .unset] [])) _
    refine XS.iloadN X0.here hx rfl (hb hby at_5) rfl ?_
    show Steps p.tables e below (s₁.setTop (mkF m 6 #[.val (.int p1), .val (.int p2), .val (.int p3), .val (.int p4), .val (.int (p1 &&& (3 : Int32))), .unset, .unset, .unset] [(.int p2)])) _
    refine XS.bipush X0.here hx rfl (hb hby at_6) ?_
    show Steps p.tables e below (s₁.setTop (mkF m 8 #[.val (.int p1), .val (.int p2), .val (.int p3), .val (.int p4), .val (.int (p1 &&& (3 : Int32))), .unset, .unset, .unset] [(.int (7 : Int32)), (.int p2)])) _
    refine XS.iand X0.here hx rfl (hb hby at_8) rfl ?_
    show Steps p.tables e below (s₁.setTop (mkF m 9 #[.val (.int p1), .val (.int p2), .val (.int p3), .val (.int p4), .val (.int (p1 &&& (3 : Int32))), .unset, .unset, .unset] [(.int (p2 &&& (7 : Int32)))])) _
    refine XS.istore X0.here hx rfl (hb hby at_9) rfl (l' := #[.val (.int p1), .val (.int p2), .val (.int p3), .val (.int p4), .val (.int (p1 &&& (3 : Int32))), .val (.int (p2 &&& (7 : Int32))), .unset, .unset]) rfl ?_
    show Steps p.tables e below (s₁.setTop (mkF m 11 #[.val (.int p1), .val (.int p2), .val (.int p3), .val (.int p4), .val (.int (p1 &&& (3 : Int32))), .val (.int (p2 &&& (7 : Int32))), .unset, .unset] [])) _
    rw [hw_0]
    show Steps p.tables e below (s₁.setTop (mkF m 11 #[.val (.int p1), .val (.int p2), .val (.int p3), .val (.int p4), .val (.int (p1 &&& (3 : Int32))), .val (.int (0 : Int32)), .unset, .unset] [])) _
    refine st1 _ ?_
    show Steps p.tables e below (T1.setTop (mkF m 14 #[.val (.int p1), .val (.int p2), .val (.int p3), .val (.int p4), .val (.int (p1 &&& (3 : Int32))), .val (.int (0 : Int32)), .unset, .unset] [(.ref b1)])) _
    refine XS.dup X1.here hx rfl (hb hby at_14) rfl rfl ?_
    show Steps p.tables e below (T1.setTop (mkF m 15 #[.val (.int p1), .val (.int p2), .val (.int p3), .val (.int p4), .val (.int (p1 &&& (3 : Int32))), .val (.int (0 : Int32)), .unset, .unset] [(.ref b1), (.ref b1)])) _
    refine XS.iload X1.here hx rfl (hb hby at_15) rfl ?_
    show Steps p.tables e below (T1.setTop (mkF m 17 #[.val (.int p1), .val (.int p2), .val (.int p3), .val (.int p4), .val (.int (p1 &&& (3 : Int32))), .val (.int (0 : Int32)), .unset, .unset] [(.int (p1 &&& (3 : Int32))), (.ref b1), (.ref b1)])) _
    refine st5.trans ?_
    show Steps p.tables e below (T5.setTop (mkF m 20 #[.val (.int p1), .val (.int p2), .val (.int p3), .val (.int p4), .val (.int (p1 &&& (3 : Int32))), .val (.int (0 : Int32)), .unset, .unset] [(.ref b1)])) _
    refine XS.astore X5.here hx rfl (hb hby at_20) rfl rfl (l' := #[.val (.int p1), .val (.int p2), .val (.int p3), .val (.int p4), .val (.int (p1 &&& (3 : Int32))), .val (.int (0 : Int32)), .val (.ref b1), .unset]) rfl ?_
    show Steps p.tables e below (T5.setTop (mkF m 22 #[.val (.int p1), .val (.int p2), .val (.int p3), .val (.int p4), .val (.int (p1 &&& (3 : Int32))), .val (.int (0 : Int32)), .val (.ref b1), .unset] [])) _
    refine XS.iconst X5.here hx rfl (hb hby at_22) ?_
    show Steps p.tables e below (T5.setTop (mkF m 23 #[.val (.int p1), .val (.int p2), .val (.int p3), .val (.int p4), .val (.int (p1 &&& (3 : Int32))), .val (.int (0 : Int32)), .val (.ref b1), .unset] [(.int (1 : Int32))])) _
    refine XS.istore X5.here hx rfl (hb hby at_23) rfl (l' := #[.val (.int p1), .val (.int p2), .val (.int p3), .val (.int p4), .val (.int (p1 &&& (3 : Int32))), .val (.int (0 : Int32)), .val (.ref b1), .val (.int (1 : Int32))]) rfl ?_
    show Steps p.tables e below (T5.setTop (mkF m 25 #[.val (.int p1), .val (.int p2), .val (.int p3), .val (.int p4), .val (.int (p1 &&& (3 : Int32))), .val (.int (0 : Int32)), .val (.ref b1), .val (.int (1 : Int32))] [])) _
    refine XS.iload X5.here hx rfl (hb hby at_25) rfl ?_
    show Steps p.tables e below (T5.setTop (mkF m 27 #[.val (.int p1), .val (.int p2), .val (.int p3), .val (.int p4), .val (.int (p1 &&& (3 : Int32))), .val (.int (0 : Int32)), .val (.ref b1), .val (.int (1 : Int32))] [(.int (0 : Int32))])) _
    refine XS.ifYes X5.here hx rfl (pc0 := 27) (pc' := 54) rfl (hb hby at_27) rfl ((if0 _ _).trans (flt (by decide : ¬ ((0 : Int32) < (0 : Int32)))).2.2.2) (by decide) (by decide) ?_
    show Steps p.tables e below (T5.setTop (mkF m 54 #[.val (.int p1), .val (.int p2), .val (.int p3), .val (.int p4), .val (.int (p1 &&& (3 : Int32))), .val (.int (0 : Int32)), .val (.ref b1), .val (.int (1 : Int32))] [])) _
    refine XS.iload X5.here hx rfl (hb hby at_54) rfl ?_
    show Steps p.tables e below (T5.setTop (mkF m 56 #[.val (.int p1), .val (.int p2), .val (.int p3), .val (.int p4), .val (.int (p1 &&& (3 : Int32))), .val (.int (0 : Int32)), .val (.ref b1), .val (.int (1 : Int32))] [(.int (0 : Int32))])) _
    refine XS.iconst X5.here hx rfl (hb hby at_56) ?_
    show Steps p.tables e below (T5.setTop (mkF m 57 #[.val (.int p1), .val (.int p2), .val (.int p3), .val (.int p4), .val (.int (p1 &&& (3 : Int32))), .val (.int (0 : Int32)), .val (.ref b1), .val (.int (1 : Int32))] [(.int (1 : Int32)), (.int (0 : Int32))])) _
    refine XS.icmpYes X5.here hx rfl (pc0 := 57) (pc' := 87) rfl (hb hby at_57) rfl (flt (by decide : ¬ ((1 : Int32) < (0 : Int32)))).2.2.2 (by decide) (by decide) ?_
    show Steps p.tables e below (T5.setTop (mkF m 87 #[.val (.int p1), .val (.int p2), .val (.int p3), .val (.int p4), .val (.int (p1 &&& (3 : Int32))), .val (.int (0 : Int32)), .val (.ref b1), .val (.int (1 : Int32))] [])) _
    refine XS.iload X5.here hx rfl (hb hby at_87) rfl ?_
    show Steps p.tables e below (T5.setTop (mkF m 89 #[.val (.int p1), .val (.int p2), .val (.int p3), .val (.int p4), .val (.int (p1 &&& (3 : Int32))), .val (.int (0 : Int32)), .val (.ref b1), .val (.int (1 : Int32))] [(.int (0 : Int32))])) _
    refine XS.iconst X5.here hx rfl (hb hby at_89) ?_
    show Steps p.tables e below (T5.setTop (mkF m 90 #[.val (.int p1), .val (.int p2), .val (.int p3), .val (.int p4), .val (.int (p1 &&& (3 : Int32))), .val (.int (0 : Int32)), .val (.ref b1), .val (.int (1 : Int32))] [(.int (2 : Int32)), (.int (0 : Int32))])) _
    refine XS.icmpYes X5.here hx rfl (pc0 := 90) (pc' := 120) rfl (hb hby at_90) rfl (flt (by decide : ¬ ((2 : Int32) < (0 : Int32)))).2.2.2 (by decide) (by decide) ?_
    show Steps p.tables e below (T5.setTop (mkF m 120 #[.val (.int p1), .val (.int p2), .val (.int p3), .val (.int p4), .val (.int (p1 &&& (3 : Int32))), .val (.int (0 : Int32)), .val (.ref b1), .val (.int (1 : Int32))] [])) _
    refine XS.iload X5.here hx rfl (hb hby at_120) rfl ?_
    show Steps p.tables e below (T5.setTop (mkF m 122 #[.val (.int p1), .val (.int p2), .val (.int p3), .val (.int p4), .val (.int (p1 &&& (3 : Int32))), .val (.int (0 : Int32)), .val (.ref b1), .val (.int (1 : Int32))] [(.int (0 : Int32))])) _
    refine XS.iconst X5.here hx rfl (hb hby at_122) ?_
    show Steps p.tables e below (T5.setTop (mkF m 123 #[.val (.int p1), .val (.int p2), .val (.int p3), .val (.int p4), .val (.int (p1 &&& (3 : Int32))), .val (.int (0 : Int32)), .val (.ref b1), .val (.int (1 : Int32))] [(.int (3 : Int32)), (.int (0 : Int32))])) _
    refine XS.icmpYes X5.here hx rfl (pc0 := 123) (pc' := 153) rfl (hb hby at_123) rfl (flt (by decide : ¬ ((3 : Int32) < (0 : Int32)))).2.2.2 (by decide) (by decide) ?_
    show Steps p.tables e below (T5.setTop (mkF m 153 #[.val (.int p1), .val (.int p2), .val (.int p3), .val (.int p4), .val (.int (p1 &&& (3 : Int32))), .val (.int (0 : Int32)), .val (.ref b1), .val (.int (1 : Int32))] [])) _
    refine XS.iload X5.here hx rfl (hb hby at_153) rfl ?_
    show Steps p.tables e below (T5.setTop (mkF m 155 #[.val (.int p1), .val (.int p2), .val (.int p3), .val (.int p4), .val (.int (p1 &&& (3 : Int32))), .val (.int (0 : Int32)), .val (.ref b1), .val (.int (1 : Int32))] [(.int (0 : Int32))])) _
    refine XS.iconst X5.here hx rfl (hb hby at_155) ?_
    show Steps p.tables e below (T5.setTop (mkF m 156 #[.val (.int p1), .val (.int p2), .val (.int p3), .val (.int p4), .val (.int (p1 &&& (3 : Int32))), .val (.int (0 : Int32)), .val (.ref b1), .val (.int (1 : Int32))] [(.int (4 : Int32)), (.int (0 : Int32))])) _
    refine XS.icmpYes X5.here hx rfl (pc0 := 156) (pc' := 183) rfl (hb hby at_156) rfl (flt (by decide : ¬ ((4 : Int32) < (0 : Int32)))).2.2.2 (by decide) (by decide) ?_
    show Steps p.tables e below (T5.setTop (mkF m 183 #[.val (.int p1), .val (.int p2), .val (.int p3), .val (.int p4), .val (.int (p1 &&& (3 : Int32))), .val (.int (0 : Int32)), .val (.ref b1), .val (.int (1 : Int32))] [])) _
    refine XS.iload X5.here hx rfl (hb hby at_183) rfl ?_
    show Steps p.tables e below (T5.setTop (mkF m 185 #[.val (.int p1), .val (.int p2), .val (.int p3), .val (.int p4), .val (.int (p1 &&& (3 : Int32))), .val (.int (0 : Int32)), .val (.ref b1), .val (.int (1 : Int32))] [(.int (0 : Int32))])) _
    refine XS.iconst X5.here hx rfl (hb hby at_185) ?_
    show Steps p.tables e below (T5.setTop (mkF m 186 #[.val (.int p1), .val (.int p2), .val (.int p3), .val (.int p4), .val (.int (p1 &&& (3 : Int32))), .val (.int (0 : Int32)), .val (.ref b1), .val (.int (1 : Int32))] [(.int (5 : Int32)), (.int (0 : Int32))])) _
    refine XS.icmpYes X5.here hx rfl (pc0 := 186) (pc' := 216) rfl (hb hby at_186) rfl (flt (by decide : ¬ ((5 : Int32) < (0 : Int32)))).2.2.2 (by decide) (by decide) ?_
    show Steps p.tables e below (T5.setTop (mkF m 216 #[.val (.int p1), .val (.int p2), .val (.int p3), .val (.int p4), .val (.int (p1 &&& (3 : Int32))), .val (.int (0 : Int32)), .val (.ref b1), .val (.int (1 : Int32))] [])) _
    refine XS.iload X5.here hx rfl (hb hby at_216) rfl ?_
    show Steps p.tables e below (T5.setTop (mkF m 218 #[.val (.int p1), .val (.int p2), .val (.int p3), .val (.int p4), .val (.int (p1 &&& (3 : Int32))), .val (.int (0 : Int32)), .val (.ref b1), .val (.int (1 : Int32))] [(.int (0 : Int32))])) _
    refine XS.bipush X5.here hx rfl (hb hby at_218) ?_
    show Steps p.tables e below (T5.setTop (mkF m 220 #[.val (.int p1), .val (.int p2), .val (.int p3), .val (.int p4), .val (.int (p1 &&& (3 : Int32))), .val (.int (0 : Int32)), .val (.ref b1), .val (.int (1 : Int32))] [(.int (6 : Int32)), (.int (0 : Int32))])) _
    refine XS.icmpYes X5.here hx rfl (pc0 := 220) (pc' := 250) rfl (hb hby at_220) rfl (flt (by decide : ¬ ((6 : Int32) < (0 : Int32)))).2.2.2 (by decide) (by decide) ?_
    show Steps p.tables e below (T5.setTop (mkF m 250 #[.val (.int p1), .val (.int p2), .val (.int p3), .val (.int p4), .val (.int (p1 &&& (3 : Int32))), .val (.int (0 : Int32)), .val (.ref b1), .val (.int (1 : Int32))] [])) _
    refine XS.iload X5.here hx rfl (hb hby at_250) rfl ?_
    show Steps p.tables e below (T5.setTop (mkF m 252 #[.val (.int p1), .val (.int p2), .val (.int p3), .val (.int p4), .val (.int (p1 &&& (3 : Int32))), .val (.int (0 : Int32)), .val (.ref b1), .val (.int (1 : Int32))] [(.int (1 : Int32))])) _
    refine XS.ifNo X5.here hx rfl (hb hby at_252) rfl ((if0 _ _).trans (feq (by decide : ¬ ((1 : Int32) = (0 : Int32)))).1) ?_
    show Steps p.tables e below (T5.setTop (mkF m 255 #[.val (.int p1), .val (.int p2), .val (.int p3), .val (.int p4), .val (.int (p1 &&& (3 : Int32))), .val (.int (0 : Int32)), .val (.ref b1), .val (.int (1 : Int32))] [])) _
    refine XS.aload X5.here hx rfl (hb hby at_255) rfl rfl ?_
    show Steps p.tables e below (T5.setTop (mkF m 257 #[.val (.int p1), .val (.int p2), .val (.int p3), .val (.int p4), .val (.int (p1 &&& (3 : Int32))), .val (.int (0 : Int32)), .val (.ref b1), .val (.int (1 : Int32))] [(.ref b1)])) _
    refine st11.trans ?_
    show Steps p.tables e below (T11.setTop (mkF m 260 #[.val (.int p1), .val (.int p2), .val (.int p3), .val (.int p4), .val (.int (p1 &&& (3 : Int32))), .val (.int (0 : Int32)), .val (.ref b1), .val (.int (1 : Int32))] [(.int (0 : Int32))])) _
    refine XS.iload X11.here hx rfl (hb hby at_260) rfl ?_
    show Steps p.tables e below (T11.setTop (mkF m 262 #[.val (.int p1), .val (.int p2), .val (.int p3), .val (.int p4), .val (.int (p1 &&& (3 : Int32))), .val (.int (0 : Int32)), .val (.ref b1), .val (.int (1 : Int32))] [(.int (0 : Int32)), (.int (0 : Int32))])) _
    refine XS.icmpNo X11.here hx rfl (hb hby at_262) rfl (teq (by decide : (0 : Int32) = (0 : Int32))).2 ?_
    show Steps p.tables e below (T11.setTop (mkF m 265 #[.val (.int p1), .val (.int p2), .val (.int p3), .val (.int p4), .val (.int (p1 &&& (3 : Int32))), .val (.int (0 : Int32)), .val (.ref b1), .val (.int (1 : Int32))] [])) _
    refine XS.iconst X11.here hx rfl (hb hby at_265) ?_
    show Steps p.tables e below (T11.setTop (mkF m 266 #[.val (.int p1), .val (.int p2), .val (.int p3), .val (.int p4), .val (.int (p1 &&& (3 : Int32))), .val (.int (0 : Int32)), .val (.ref b1), .val (.int (1 : Int32))] [(.int (1 : Int32))])) _
    refine XS.goto X11.here hx rfl (pc0 := 266) (pc' := 270) rfl (hb hby at_266) (by decide) (by decide) ?_
    show Steps p.tables e below (T11.setTop (mkF m 270 #[.val (.int p1), .val (.int p2), .val (.int p3), .val (.int p4), .val (.int (p1 &&& (3 : Int32))), .val (.int (0 : Int32)), .val (.ref b1), .val (.int (1 : Int32))] [(.int (1 : Int32))])) _
    exact retN X11 hx (t := .boolean) Bd.returns (by simp) (hb hby at_270) hr
  · show Q_law Z p1 p2 p3 p4 h0 n0 _ T11.heap _
    rw [e11]
    exact ⟨rfl, N12⟩
def Road_n1 (p1 : Int32) (p2 : Int32) (p3 : Int32) (p4 : Int32) : Prop := ((p2 &&& (7 : Int32)) = (1 : Int32)) ∧ (¬ ((p1 &&& (3 : Int32)) < (0 : Int32))) ∧ ((p1 &&& (3 : Int32)).toNatClampNeg ≤ 3) ∧ (own_B (0 : Int32) (p1 &&& (3 : Int32)) (List.replicate 16 (Value.int (0 : Int32))))
set_option maxRecDepth 65536 in
set_option maxHeartbeats 40000000 in
theorem rm_law_n1 (l : Launch) (Z : State) (a0 : Array Value) (hw : ∀ d ∈ tables_1, d.before a0 Z = true) (ws : List Jvm.Cond) (p1 : Int32) (p2 : Int32) (p3 : Int32) (p4 : Int32) (h0 : Heap) (n0 : Nat) (Z0 : n0 ≤ h0.size) (hroad : Road_n1 p1 p2 p3 p4) :
    MetFree l x (head1 (Jvm.Cond.code x code maxLocals ret :: ws) room_1) (fun a U => a = #[(.int p1), (.int p2), (.int p3), (.int p4)] ∧ Z.Warmed39 U.vm ∧ U.heap = h0) (fun _ _ _ _ _ => True) (fun _ U o U' => ∃ v L, o = .returned v ∧ Q_law Z p1 p2 p3 p4 h0 n0 v U'.heap L ∧ FrameEnd U o U' L room_1.cells room_1.slots) := by
  obtain ⟨hw_0, hp1, hp2, hp3⟩ := hroad
  refine MetFree.of_bodySF (plainFor_of_name pn_com_example_wellform_wellform_cli_ByteBatchAppendPinLaw) hisR ?_
  intro p e s m args below meth c s₁ Bd hml0 hP hK
  obtain ⟨rfl, hZ, hh⟩ := hP
  have hx := Bd.exec
  have hby := Bd.bytes
  have hml : c.maxLocals = 8 := hml0
  have hown : s.vm.findClass "com/example/wellform/wellform/cli/ByteBatchAppendPinLaw" = some m.cls := findClass_of_methodNamed Bd.named
  have hnm := (name_of_methodNamed Bd.named Bd.method).1
  have X0 : Stand p l e room_1 s m #[(.int p1), (.int p2), (.int p3), (.int p4)] below meth c s₁ [] 0 0 := Stand.of_body Bd
  have e0 : s₁.heap = h0 := by rw [← hh, Bd.state]; rfl
  have N0 := Fr.nil n0
  have pre0 : ∀ t, Steps p.tables e below (s₁.setTop (mkF m 0 #[.val (.int p1), .val (.int p2), .val (.int p3), .val (.int p4), .unset, .unset, .unset, .unset] [])) t → Steps p.tables e below (s₁.setTop (entryFrame m #[(.int p1), (.int p2), (.int p3), (.int p4)] maxLocals)) t := fun t k => castTop (ef_0_IIII m p1 p2 p3 p4) k
  obtain ⟨T1, h1, X1, e1, E1, A1, D1, -, st1⟩ := newO X0 hx hZ hown (hw _ (List.mem_of_getElem? (i := 0) rfl)) (hw _ (List.mem_of_getElem? (i := 1) rfl)) (hw _ (List.mem_of_getElem? (i := 2) rfl)) e0 (g := (mkF m 11 #[.val (.int p1), .val (.int p2), .val (.int p3), .val (.int p4), .val (.int (p1 &&& (3 : Int32))), .val (.int (1 : Int32)), .unset, .unset] [])) rfl (hb hby at_11) (by decide) (by decide)
  obtain ⟨b1, g1⟩ : ∃ z, z = h0.size := ⟨_, rfl⟩
  rw [← g1] at A1 D1 st1
  have g_b1 : n0 ≤ b1 := Nat.le_trans Z0 (Nat.le_of_eq g1.symm)
  have Zs2 : n0 ≤ h1.size := Nat.le_trans Z0 E1.1
  have f3 : Fld Z h1 b1 "com/example/wellform/wellform/cli/ByteBatch" "bytes" "[B" .null := D1 (Or.inl (hw _ (List.mem_of_getElem? (i := 11) rfl))) (ty := (.array .byte)) (by decide)
  have f4 : Fld Z h1 b1 "com/example/wellform/wellform/cli/ByteBatch" "size" "I" (.int (0 : Int32)) := D1 (Or.inl (hw _ (List.mem_of_getElem? (i := 22) rfl))) (ty := .int) (by decide)
  obtain ⟨_, _, ⟨T5, L5, k5, n5⟩, -, X5, ⟨Lc5, hQ5, l5, y5, z5⟩, st5⟩ := X1.specialBack hx (y := (⟨"com/example/wellform/wellform/cli/ByteBatch", "<init>", "(I)V"⟩ : MethodName)) rfl hown (mvT hZ (hw _ (List.mem_of_getElem? (i := 3) rfl))) (mvT hZ (hw _ (List.mem_of_getElem? (i := 4) rfl))) (mvT hZ (hw _ (List.mem_of_getElem? (i := 5) rfl))) (by decide) (backOf (W := 1) (rm_init l Z a0 hw [] b1 (p1 &&& (3 : Int32)) h1 n0 Zs2 A1 f3 g_b1 f4 hp1 hp2) hZ (hw _ (List.mem_of_getElem? (i := 5) rfl)) (hw _ (List.mem_of_getElem? (i := 2) rfl)) (by decide) (by decide)) (g := (mkF m 17 #[.val (.int p1), .val (.int p2), .val (.int p3), .val (.int p4), .val (.int (p1 &&& (3 : Int32))), .val (.int (1 : Int32)), .unset, .unset] [(.int (p1 &&& (3 : Int32))), (.ref b1), (.ref b1)])) rfl (by rw [hml]; rfl) (Steps.refl _) (a := b1) (argsL := [(.int (p1 &&& (3 : Int32)))]) (rest := [(.ref b1)]) (lenOf pd_2 rfl) rfl (by show 2 * 0 + _ ≤ _; exact Nat.le_of_eq rfl) (hb hby at_17) (fun _ _ => ⟨rfl, e1, (by decide : 1 + 1 ≤ _), (by decide : 2 + 3 ≤ _)⟩)
  dsimp only [Pt.U, Pt.locs, Pt.cells, Pt.slots] at X5 l5 y5 z5 st5 hQ5
  subst l5 y5 z5
  obtain ⟨b5_1, k5_2, rfl, Nq5, g_b5_1, szq_b5_1, Kc5, fq5_0, fq5_1, fq5_2, fq5_3, fq5_4⟩ := hQ5
  have ne_b1_b5_1 : b1 ≠ b5_1 := Nat.ne_of_lt (Nat.lt_of_lt_of_le A1.lt szq_b5_1)
  have f7 : Fld Z T5.heap b1 "com/example/wellform/wellform/cli/ByteBatch" "bytes" "[B" (.ref b5_1) := fq5_1
  have f8 : Fld Z T5.heap b1 "com/example/wellform/wellform/cli/ByteBatch" "size" "I" (.int (0 : Int32)) := fq5_2
  have f9 : Arv Z T5.heap b5_1 k5_2 .byte (p1 &&& (3 : Int32)) (List.replicate 16 (Value.int (0 : Int32))) (.int (0 : Int32)) := fq5_4
  have Zs10 : n0 ≤ T5.heap.size := Nat.le_trans Zs2 Kc5.1
  have N6 := Fr.app N0 Nq5
  obtain ⟨cq11, kq11, q11a, q11b, q11c⟩ := isOf hZ rfl fq5_0
  obtain ⟨_, _, ⟨T11, L11, k11, n11⟩, -, X11, ⟨Lc11, hQ11, l11, y11, z11⟩, st11⟩ := X5.virtualBack hx (y := (⟨"com/example/wellform/wellform/cli/ByteBatch", "append", "(B)Lcom/example/wellform/wellform/cli/ByteBatch;"⟩ : MethodName)) (z := (⟨"com/example/wellform/wellform/cli/ByteBatch", "append", "(B)Lcom/example/wellform/wellform/cli/ByteBatch;"⟩ : MethodName)) hown (mvT hZ (hw _ (List.mem_of_getElem? (i := 12) rfl))) (mvT hZ (hw _ (List.mem_of_getElem? (i := 13) rfl))) (notFace_of_selects (args := #[]) (mvT hZ (hw _ (List.mem_of_getElem? (i := 15) rfl)))) (mvT hZ (hw _ (List.mem_of_getElem? (i := 15) rfl))) (mvT hZ (hw _ (List.mem_of_getElem? (i := 14) rfl))) (by decide) (backOf (W := 0) (rm_append l Z a0 hw [] b1 (p3.toInt8.toInt32) b5_1 k5_2 (p1 &&& (3 : Int32)) (List.replicate 16 (Value.int (0 : Int32))) (0 : Int32) T5.heap n0 Zs10 f7 fq5_3 f9 f8 fq5_0 g_b1 g_b5_1 hp3 (by decide)) hZ (hw _ (List.mem_of_getElem? (i := 16) rfl)) (hw _ (List.mem_of_getElem? (i := 2) rfl)) (by decide) (by decide)) q11a q11c (g := (mkF m 39 #[.val (.int p1), .val (.int p2), .val (.int p3), .val (.int p4), .val (.int (p1 &&& (3 : Int32))), .val (.int (1 : Int32)), .val (.ref b1), .val (.int (1 : Int32))] [(.int (p3.toInt8.toInt32)), (.ref b1)])) rfl (by rw [hml]; rfl) (Steps.refl _) (argsL := [(.int (p3.toInt8.toInt32))]) (rest := []) (lenOf pd_4 rfl) rfl (by show 2 * 0 + _ ≤ _; exact Nat.le_of_eq rfl) (hb hby at_39) (fun _ _ => ⟨rfl, rfl, (by decide : 2 + 1 ≤ _), (by decide : 5 + 14 ≤ _)⟩)
  dsimp only [Pt.U, Pt.locs, Pt.cells, Pt.slots] at X11 l11 y11 z11 st11 hQ11
  subst l11 y11 z11
  obtain ⟨b11_1, k11_2, i11_3, us11_4, rfl, Nq11, g_b11_1, hq11_0, Kc11, fq11_0, fq11_1, fq11_2, fq11_3, fq11_4⟩ := hQ11
  have f13 : Exa Z T11.heap b5_1 "[B" := fq5_3.keep Kc11
  have f14 : Fld Z T11.heap b1 "com/example/wellform/wellform/cli/ByteBatch" "bytes" "[B" (.ref b11_1) := fq11_1
  have f15 : Fld Z T11.heap b1 "com/example/wellform/wellform/cli/ByteBatch" "size" "I" (.int (1 : Int32)) := fq11_2
  have f16 : Arv Z T11.heap b11_1 k11_2 .byte i11_3 us11_4 (.int (0 : Int32)) := fq11_4
  have Zs17 : n0 ≤ T11.heap.size := Nat.le_trans Zs10 Kc11.1
  have N12 := Fr.app N6 Nq11
  obtain ⟨cq18, kq18, q18a, q18b, q18c⟩ := isOf hZ rfl fq11_0
  obtain ⟨_, _, ⟨T18, L18, k18, n18⟩, -, X18, ⟨Lc18, hQ18, l18, y18, z18⟩, st18⟩ := X11.virtualBack hx (y := (⟨"com/example/wellform/wellform/cli/ByteBatch", "size", "()I"⟩ : MethodName)) (z := (⟨"com/example/wellform/wellform/cli/ByteBatch", "size", "()I"⟩ : MethodName)) hown (mvT hZ (hw _ (List.mem_of_getElem? (i := 38) rfl))) (mvT hZ (hw _ (List.mem_of_getElem? (i := 39) rfl))) (notFace_of_selects (args := #[]) (mvT hZ (hw _ (List.mem_of_getElem? (i := 41) rfl)))) (mvT hZ (hw _ (List.mem_of_getElem? (i := 41) rfl))) (mvT hZ (hw _ (List.mem_of_getElem? (i := 40) rfl))) (by decide) (backOf (W := 0) (rm_size l Z a0 hw [] b1 (1 : Int32) T11.heap n0 Zs17 f15) hZ (hw _ (List.mem_of_getElem? (i := 42) rfl)) (hw _ (List.mem_of_getElem? (i := 2) rfl)) (by decide) (by decide)) q18a q18c (g := (mkF m 257 #[.val (.int p1), .val (.int p2), .val (.int p3), .val (.int p4), .val (.int (p1 &&& (3 : Int32))), .val (.int (1 : Int32)), .val (.ref b1), .val (.int (1 : Int32))] [(.ref b1)])) rfl (by rw [hml]; rfl) (Steps.refl _) (argsL := []) (rest := []) (lenOf pd_3 rfl) rfl (by show 2 * 0 + _ ≤ _; exact Nat.le_of_eq rfl) (hb hby at_257) (fun _ _ => ⟨rfl, rfl, (by decide : 3 + 0 ≤ _), (by decide : 19 + 0 ≤ _)⟩)
  dsimp only [Pt.U, Pt.locs, Pt.cells, Pt.slots] at X18 l18 y18 z18 st18 hQ18
  subst l18 y18 z18
  obtain ⟨rfl, Nq18, e18⟩ := hQ18
  have N19 := Fr.app N12 Nq18
  obtain ⟨fs, hr, hrun, hended, hW, hsame⟩ := X18.leave (v := some (.int (1 : Int32))) (fun h => by rw [Bd.returns] at h; cases h) Bd.notSynchronized
  refine ⟨_, _, pre0 _ ?_, hrun, hended, _, _, rfl, ?_, ⟨_, rfl⟩, hW, hsame.mono (by decide) (by decide)⟩
  · show Steps p.tables e below (s₁.setTop (mkF m 0 #[.val (.int p1), .val (.int p2), .val (.int p3), .val (.int p4), .unset, .unset, .unset, .unset] [])) _
    refine XS.iloadN X0.here hx rfl (hb hby at_0) rfl ?_
    show Steps p.tables e below (s₁.setTop (mkF m 1 #[.val (.int p1), .val (.int p2), .val (.int p3), .val (.int p4), .unset, .unset, .unset, .unset] [(.int p1)])) _
    refine XS.iconst X0.here hx rfl (hb hby at_1) ?_
    show Steps p.tables e below (s₁.setTop (mkF m 2 #[.val (.int p1), .val (.int p2), .val (.int p3), .val (.int p4), .unset, .unset, .unset, .unset] [(.int (3 : Int32)), (.int p1)])) _
    refine XS.iand X0.here hx rfl (hb hby at_2) rfl ?_
    show Steps p.tables e below (s₁.setTop (mkF m 3 #[.val (.int p1), .val (.int p2), .val (.int p3), .val (.int p4), .unset, .unset, .unset, .unset] [(.int (p1 &&& (3 : Int32)))])) _
    refine XS.istore X0.here hx rfl (hb hby at_3) rfl (l' := #[.val (.int p1), .val (.int p2), .val (.int p3), .val (.int p4), .val (.int (p1 &&& (3 : Int32))), .unset, .unset, .unset]) rfl ?_
    show Steps p.tables e below (s₁.setTop (mkF m 5 #[.val (.int p1), .val (.int p2), .val (.int p3), .val (.int p4), .val (.int (p1 &&& (3 : Int32))), .unset, .unset, .unset] [])) _
    refine XS.iloadN X0.here hx rfl (hb hby at_5) rfl ?_
    show Steps p.tables e below (s₁.setTop (mkF m 6 #[.val (.int p1), .val (.int p2), .val (.int p3), .val (.int p4), .val (.int (p1 &&& (3 : Int32))), .unset, .unset, .unset] [(.int p2)])) _
    refine XS.bipush X0.here hx rfl (hb hby at_6) ?_
    show Steps p.tables e below (s₁.setTop (mkF m 8 #[.val (.int p1), .val (.int p2), .val (.int p3), .val (.int p4), .val (.int (p1 &&& (3 : Int32))), .unset, .unset, .unset] [(.int (7 : Int32)), (.int p2)])) _
    refine XS.iand X0.here hx rfl (hb hby at_8) rfl ?_
    show Steps p.tables e below (s₁.setTop (mkF m 9 #[.val (.int p1), .val (.int p2), .val (.int p3), .val (.int p4), .val (.int (p1 &&& (3 : Int32))), .unset, .unset, .unset] [(.int (p2 &&& (7 : Int32)))])) _
    refine XS.istore X0.here hx rfl (hb hby at_9) rfl (l' := #[.val (.int p1), .val (.int p2), .val (.int p3), .val (.int p4), .val (.int (p1 &&& (3 : Int32))), .val (.int (p2 &&& (7 : Int32))), .unset, .unset]) rfl ?_
    show Steps p.tables e below (s₁.setTop (mkF m 11 #[.val (.int p1), .val (.int p2), .val (.int p3), .val (.int p4), .val (.int (p1 &&& (3 : Int32))), .val (.int (p2 &&& (7 : Int32))), .unset, .unset] [])) _
    rw [hw_0]
    show Steps p.tables e below (s₁.setTop (mkF m 11 #[.val (.int p1), .val (.int p2), .val (.int p3), .val (.int p4), .val (.int (p1 &&& (3 : Int32))), .val (.int (1 : Int32)), .unset, .unset] [])) _
    refine st1 _ ?_
    show Steps p.tables e below (T1.setTop (mkF m 14 #[.val (.int p1), .val (.int p2), .val (.int p3), .val (.int p4), .val (.int (p1 &&& (3 : Int32))), .val (.int (1 : Int32)), .unset, .unset] [(.ref b1)])) _
    refine XS.dup X1.here hx rfl (hb hby at_14) rfl rfl ?_
    show Steps p.tables e below (T1.setTop (mkF m 15 #[.val (.int p1), .val (.int p2), .val (.int p3), .val (.int p4), .val (.int (p1 &&& (3 : Int32))), .val (.int (1 : Int32)), .unset, .unset] [(.ref b1), (.ref b1)])) _
    refine XS.iload X1.here hx rfl (hb hby at_15) rfl ?_
    show Steps p.tables e below (T1.setTop (mkF m 17 #[.val (.int p1), .val (.int p2), .val (.int p3), .val (.int p4), .val (.int (p1 &&& (3 : Int32))), .val (.int (1 : Int32)), .unset, .unset] [(.int (p1 &&& (3 : Int32))), (.ref b1), (.ref b1)])) _
    refine st5.trans ?_
    show Steps p.tables e below (T5.setTop (mkF m 20 #[.val (.int p1), .val (.int p2), .val (.int p3), .val (.int p4), .val (.int (p1 &&& (3 : Int32))), .val (.int (1 : Int32)), .unset, .unset] [(.ref b1)])) _
    refine XS.astore X5.here hx rfl (hb hby at_20) rfl rfl (l' := #[.val (.int p1), .val (.int p2), .val (.int p3), .val (.int p4), .val (.int (p1 &&& (3 : Int32))), .val (.int (1 : Int32)), .val (.ref b1), .unset]) rfl ?_
    show Steps p.tables e below (T5.setTop (mkF m 22 #[.val (.int p1), .val (.int p2), .val (.int p3), .val (.int p4), .val (.int (p1 &&& (3 : Int32))), .val (.int (1 : Int32)), .val (.ref b1), .unset] [])) _
    refine XS.iconst X5.here hx rfl (hb hby at_22) ?_
    show Steps p.tables e below (T5.setTop (mkF m 23 #[.val (.int p1), .val (.int p2), .val (.int p3), .val (.int p4), .val (.int (p1 &&& (3 : Int32))), .val (.int (1 : Int32)), .val (.ref b1), .unset] [(.int (1 : Int32))])) _
    refine XS.istore X5.here hx rfl (hb hby at_23) rfl (l' := #[.val (.int p1), .val (.int p2), .val (.int p3), .val (.int p4), .val (.int (p1 &&& (3 : Int32))), .val (.int (1 : Int32)), .val (.ref b1), .val (.int (1 : Int32))]) rfl ?_
    show Steps p.tables e below (T5.setTop (mkF m 25 #[.val (.int p1), .val (.int p2), .val (.int p3), .val (.int p4), .val (.int (p1 &&& (3 : Int32))), .val (.int (1 : Int32)), .val (.ref b1), .val (.int (1 : Int32))] [])) _
    refine XS.iload X5.here hx rfl (hb hby at_25) rfl ?_
    show Steps p.tables e below (T5.setTop (mkF m 27 #[.val (.int p1), .val (.int p2), .val (.int p3), .val (.int p4), .val (.int (p1 &&& (3 : Int32))), .val (.int (1 : Int32)), .val (.ref b1), .val (.int (1 : Int32))] [(.int (1 : Int32))])) _
    refine XS.ifNo X5.here hx rfl (hb hby at_27) rfl ((if0 _ _).trans (tlt (by decide : (0 : Int32) < (1 : Int32))).2.2.2) ?_
    show Steps p.tables e below (T5.setTop (mkF m 30 #[.val (.int p1), .val (.int p2), .val (.int p3), .val (.int p4), .val (.int (p1 &&& (3 : Int32))), .val (.int (1 : Int32)), .val (.ref b1), .val (.int (1 : Int32))] [])) _
    refine XS.iload X5.here hx rfl (hb hby at_30) rfl ?_
    show Steps p.tables e below (T5.setTop (mkF m 32 #[.val (.int p1), .val (.int p2), .val (.int p3), .val (.int p4), .val (.int (p1 &&& (3 : Int32))), .val (.int (1 : Int32)), .val (.ref b1), .val (.int (1 : Int32))] [(.int (1 : Int32))])) _
    refine XS.ifNo X5.here hx rfl (hb hby at_32) rfl ((if0 _ _).trans (feq (by decide : ¬ ((1 : Int32) = (0 : Int32)))).1) ?_
    show Steps p.tables e below (T5.setTop (mkF m 35 #[.val (.int p1), .val (.int p2), .val (.int p3), .val (.int p4), .val (.int (p1 &&& (3 : Int32))), .val (.int (1 : Int32)), .val (.ref b1), .val (.int (1 : Int32))] [])) _
    refine XS.aload X5.here hx rfl (hb hby at_35) rfl rfl ?_
    show Steps p.tables e below (T5.setTop (mkF m 37 #[.val (.int p1), .val (.int p2), .val (.int p3), .val (.int p4), .val (.int (p1 &&& (3 : Int32))), .val (.int (1 : Int32)), .val (.ref b1), .val (.int (1 : Int32))] [(.ref b1)])) _
    refine XS.iloadN X5.here hx rfl (hb hby at_37) rfl ?_
    show Steps p.tables e below (T5.setTop (mkF m 38 #[.val (.int p1), .val (.int p2), .val (.int p3), .val (.int p4), .val (.int (p1 &&& (3 : Int32))), .val (.int (1 : Int32)), .val (.ref b1), .val (.int (1 : Int32))] [(.int p3), (.ref b1)])) _
    refine XS.i2b X5.here hx rfl (hb hby at_38) rfl ?_
    show Steps p.tables e below (T5.setTop (mkF m 39 #[.val (.int p1), .val (.int p2), .val (.int p3), .val (.int p4), .val (.int (p1 &&& (3 : Int32))), .val (.int (1 : Int32)), .val (.ref b1), .val (.int (1 : Int32))] [(.int (p3.toInt8.toInt32)), (.ref b1)])) _
    refine st11.trans ?_
    show Steps p.tables e below (T11.setTop (mkF m 42 #[.val (.int p1), .val (.int p2), .val (.int p3), .val (.int p4), .val (.int (p1 &&& (3 : Int32))), .val (.int (1 : Int32)), .val (.ref b1), .val (.int (1 : Int32))] [(.ref b1)])) _
    refine XS.aload X11.here hx rfl (hb hby at_42) rfl rfl ?_
    show Steps p.tables e below (T11.setTop (mkF m 44 #[.val (.int p1), .val (.int p2), .val (.int p3), .val (.int p4), .val (.int (p1 &&& (3 : Int32))), .val (.int (1 : Int32)), .val (.ref b1), .val (.int (1 : Int32))] [(.ref b1), (.ref b1)])) _
    refine Jvm.RoadKit.acmp (g := (mkF m 44 #[.val (.int p1), .val (.int p2), .val (.int p3), .val (.int p4), .val (.int (p1 &&& (3 : Int32))), .val (.int (1 : Int32)), .val (.ref b1), .val (.int (1 : Int32))] [(.ref b1), (.ref b1)])) X11 hx rfl rfl rfl (pc0 := 44) (pc' := 47) (same := true) rfl (hb hby at_44) rfl (decide_eq_true rfl) (by decide) (by decide) ?_
    show Steps p.tables e below (T11.setTop (mkF m 47 #[.val (.int p1), .val (.int p2), .val (.int p3), .val (.int p4), .val (.int (p1 &&& (3 : Int32))), .val (.int (1 : Int32)), .val (.ref b1), .val (.int (1 : Int32))] [])) _
    refine XS.iconst X11.here hx rfl (hb hby at_47) ?_
    show Steps p.tables e below (T11.setTop (mkF m 48 #[.val (.int p1), .val (.int p2), .val (.int p3), .val (.int p4), .val (.int (p1 &&& (3 : Int32))), .val (.int (1 : Int32)), .val (.ref b1), .val (.int (1 : Int32))] [(.int (1 : Int32))])) _
    refine XS.goto X11.here hx rfl (pc0 := 48) (pc' := 52) rfl (hb hby at_48) (by decide) (by decide) ?_
    show Steps p.tables e below (T11.setTop (mkF m 52 #[.val (.int p1), .val (.int p2), .val (.int p3), .val (.int p4), .val (.int (p1 &&& (3 : Int32))), .val (.int (1 : Int32)), .val (.ref b1), .val (.int (1 : Int32))] [(.int (1 : Int32))])) _
    refine XS.istore X11.here hx rfl (hb hby at_52) rfl (l' := #[.val (.int p1), .val (.int p2), .val (.int p3), .val (.int p4), .val (.int (p1 &&& (3 : Int32))), .val (.int (1 : Int32)), .val (.ref b1), .val (.int (1 : Int32))]) rfl ?_
    show Steps p.tables e below (T11.setTop (mkF m 54 #[.val (.int p1), .val (.int p2), .val (.int p3), .val (.int p4), .val (.int (p1 &&& (3 : Int32))), .val (.int (1 : Int32)), .val (.ref b1), .val (.int (1 : Int32))] [])) _
    refine XS.iload X11.here hx rfl (hb hby at_54) rfl ?_
    show Steps p.tables e below (T11.setTop (mkF m 56 #[.val (.int p1), .val (.int p2), .val (.int p3), .val (.int p4), .val (.int (p1 &&& (3 : Int32))), .val (.int (1 : Int32)), .val (.ref b1), .val (.int (1 : Int32))] [(.int (1 : Int32))])) _
    refine XS.iconst X11.here hx rfl (hb hby at_56) ?_
    show Steps p.tables e below (T11.setTop (mkF m 57 #[.val (.int p1), .val (.int p2), .val (.int p3), .val (.int p4), .val (.int (p1 &&& (3 : Int32))), .val (.int (1 : Int32)), .val (.ref b1), .val (.int (1 : Int32))] [(.int (1 : Int32)), (.int (1 : Int32))])) _
    refine XS.icmpYes X11.here hx rfl (pc0 := 57) (pc' := 87) rfl (hb hby at_57) rfl (flt (by decide : ¬ ((1 : Int32) < (1 : Int32)))).2.2.2 (by decide) (by decide) ?_
    show Steps p.tables e below (T11.setTop (mkF m 87 #[.val (.int p1), .val (.int p2), .val (.int p3), .val (.int p4), .val (.int (p1 &&& (3 : Int32))), .val (.int (1 : Int32)), .val (.ref b1), .val (.int (1 : Int32))] [])) _
    refine XS.iload X11.here hx rfl (hb hby at_87) rfl ?_
    show Steps p.tables e below (T11.setTop (mkF m 89 #[.val (.int p1), .val (.int p2), .val (.int p3), .val (.int p4), .val (.int (p1 &&& (3 : Int32))), .val (.int (1 : Int32)), .val (.ref b1), .val (.int (1 : Int32))] [(.int (1 : Int32))])) _
    refine XS.iconst X11.here hx rfl (hb hby at_89) ?_
    show Steps p.tables e below (T11.setTop (mkF m 90 #[.val (.int p1), .val (.int p2), .val (.int p3), .val (.int p4), .val (.int (p1 &&& (3 : Int32))), .val (.int (1 : Int32)), .val (.ref b1), .val (.int (1 : Int32))] [(.int (2 : Int32)), (.int (1 : Int32))])) _
    refine XS.icmpYes X11.here hx rfl (pc0 := 90) (pc' := 120) rfl (hb hby at_90) rfl (flt (by decide : ¬ ((2 : Int32) < (1 : Int32)))).2.2.2 (by decide) (by decide) ?_
    show Steps p.tables e below (T11.setTop (mkF m 120 #[.val (.int p1), .val (.int p2), .val (.int p3), .val (.int p4), .val (.int (p1 &&& (3 : Int32))), .val (.int (1 : Int32)), .val (.ref b1), .val (.int (1 : Int32))] [])) _
    refine XS.iload X11.here hx rfl (hb hby at_120) rfl ?_
    show Steps p.tables e below (T11.setTop (mkF m 122 #[.val (.int p1), .val (.int p2), .val (.int p3), .val (.int p4), .val (.int (p1 &&& (3 : Int32))), .val (.int (1 : Int32)), .val (.ref b1), .val (.int (1 : Int32))] [(.int (1 : Int32))])) _
    refine XS.iconst X11.here hx rfl (hb hby at_122) ?_
    show Steps p.tables e below (T11.setTop (mkF m 123 #[.val (.int p1), .val (.int p2), .val (.int p3), .val (.int p4), .val (.int (p1 &&& (3 : Int32))), .val (.int (1 : Int32)), .val (.ref b1), .val (.int (1 : Int32))] [(.int (3 : Int32)), (.int (1 : Int32))])) _
    refine XS.icmpYes X11.here hx rfl (pc0 := 123) (pc' := 153) rfl (hb hby at_123) rfl (flt (by decide : ¬ ((3 : Int32) < (1 : Int32)))).2.2.2 (by decide) (by decide) ?_
    show Steps p.tables e below (T11.setTop (mkF m 153 #[.val (.int p1), .val (.int p2), .val (.int p3), .val (.int p4), .val (.int (p1 &&& (3 : Int32))), .val (.int (1 : Int32)), .val (.ref b1), .val (.int (1 : Int32))] [])) _
    refine XS.iload X11.here hx rfl (hb hby at_153) rfl ?_
    show Steps p.tables e below (T11.setTop (mkF m 155 #[.val (.int p1), .val (.int p2), .val (.int p3), .val (.int p4), .val (.int (p1 &&& (3 : Int32))), .val (.int (1 : Int32)), .val (.ref b1), .val (.int (1 : Int32))] [(.int (1 : Int32))])) _
    refine XS.iconst X11.here hx rfl (hb hby at_155) ?_
    show Steps p.tables e below (T11.setTop (mkF m 156 #[.val (.int p1), .val (.int p2), .val (.int p3), .val (.int p4), .val (.int (p1 &&& (3 : Int32))), .val (.int (1 : Int32)), .val (.ref b1), .val (.int (1 : Int32))] [(.int (4 : Int32)), (.int (1 : Int32))])) _
    refine XS.icmpYes X11.here hx rfl (pc0 := 156) (pc' := 183) rfl (hb hby at_156) rfl (flt (by decide : ¬ ((4 : Int32) < (1 : Int32)))).2.2.2 (by decide) (by decide) ?_
    show Steps p.tables e below (T11.setTop (mkF m 183 #[.val (.int p1), .val (.int p2), .val (.int p3), .val (.int p4), .val (.int (p1 &&& (3 : Int32))), .val (.int (1 : Int32)), .val (.ref b1), .val (.int (1 : Int32))] [])) _
    refine XS.iload X11.here hx rfl (hb hby at_183) rfl ?_
    show Steps p.tables e below (T11.setTop (mkF m 185 #[.val (.int p1), .val (.int p2), .val (.int p3), .val (.int p4), .val (.int (p1 &&& (3 : Int32))), .val (.int (1 : Int32)), .val (.ref b1), .val (.int (1 : Int32))] [(.int (1 : Int32))])) _
    refine XS.iconst X11.here hx rfl (hb hby at_185) ?_
    show Steps p.tables e below (T11.setTop (mkF m 186 #[.val (.int p1), .val (.int p2), .val (.int p3), .val (.int p4), .val (.int (p1 &&& (3 : Int32))), .val (.int (1 : Int32)), .val (.ref b1), .val (.int (1 : Int32))] [(.int (5 : Int32)), (.int (1 : Int32))])) _
    refine XS.icmpYes X11.here hx rfl (pc0 := 186) (pc' := 216) rfl (hb hby at_186) rfl (flt (by decide : ¬ ((5 : Int32) < (1 : Int32)))).2.2.2 (by decide) (by decide) ?_
    show Steps p.tables e below (T11.setTop (mkF m 216 #[.val (.int p1), .val (.int p2), .val (.int p3), .val (.int p4), .val (.int (p1 &&& (3 : Int32))), .val (.int (1 : Int32)), .val (.ref b1), .val (.int (1 : Int32))] [])) _
    refine XS.iload X11.here hx rfl (hb hby at_216) rfl ?_
    show Steps p.tables e below (T11.setTop (mkF m 218 #[.val (.int p1), .val (.int p2), .val (.int p3), .val (.int p4), .val (.int (p1 &&& (3 : Int32))), .val (.int (1 : Int32)), .val (.ref b1), .val (.int (1 : Int32))] [(.int (1 : Int32))])) _
    refine XS.bipush X11.here hx rfl (hb hby at_218) ?_
    show Steps p.tables e below (T11.setTop (mkF m 220 #[.val (.int p1), .val (.int p2), .val (.int p3), .val (.int p4), .val (.int (p1 &&& (3 : Int32))), .val (.int (1 : Int32)), .val (.ref b1), .val (.int (1 : Int32))] [(.int (6 : Int32)), (.int (1 : Int32))])) _
    refine XS.icmpYes X11.here hx rfl (pc0 := 220) (pc' := 250) rfl (hb hby at_220) rfl (flt (by decide : ¬ ((6 : Int32) < (1 : Int32)))).2.2.2 (by decide) (by decide) ?_
    show Steps p.tables e below (T11.setTop (mkF m 250 #[.val (.int p1), .val (.int p2), .val (.int p3), .val (.int p4), .val (.int (p1 &&& (3 : Int32))), .val (.int (1 : Int32)), .val (.ref b1), .val (.int (1 : Int32))] [])) _
    refine XS.iload X11.here hx rfl (hb hby at_250) rfl ?_
    show Steps p.tables e below (T11.setTop (mkF m 252 #[.val (.int p1), .val (.int p2), .val (.int p3), .val (.int p4), .val (.int (p1 &&& (3 : Int32))), .val (.int (1 : Int32)), .val (.ref b1), .val (.int (1 : Int32))] [(.int (1 : Int32))])) _
    refine XS.ifNo X11.here hx rfl (hb hby at_252) rfl ((if0 _ _).trans (feq (by decide : ¬ ((1 : Int32) = (0 : Int32)))).1) ?_
    show Steps p.tables e below (T11.setTop (mkF m 255 #[.val (.int p1), .val (.int p2), .val (.int p3), .val (.int p4), .val (.int (p1 &&& (3 : Int32))), .val (.int (1 : Int32)), .val (.ref b1), .val (.int (1 : Int32))] [])) _
    refine XS.aload X11.here hx rfl (hb hby at_255) rfl rfl ?_
    show Steps p.tables e below (T11.setTop (mkF m 257 #[.val (.int p1), .val (.int p2), .val (.int p3), .val (.int p4), .val (.int (p1 &&& (3 : Int32))), .val (.int (1 : Int32)), .val (.ref b1), .val (.int (1 : Int32))] [(.ref b1)])) _
    refine st18.trans ?_
    show Steps p.tables e below (T18.setTop (mkF m 260 #[.val (.int p1), .val (.int p2), .val (.int p3), .val (.int p4), .val (.int (p1 &&& (3 : Int32))), .val (.int (1 : Int32)), .val (.ref b1), .val (.int (1 : Int32))] [(.int (1 : Int32))])) _
    refine XS.iload X18.here hx rfl (hb hby at_260) rfl ?_
    show Steps p.tables e below (T18.setTop (mkF m 262 #[.val (.int p1), .val (.int p2), .val (.int p3), .val (.int p4), .val (.int (p1 &&& (3 : Int32))), .val (.int (1 : Int32)), .val (.ref b1), .val (.int (1 : Int32))] [(.int (1 : Int32)), (.int (1 : Int32))])) _
    refine XS.icmpNo X18.here hx rfl (hb hby at_262) rfl (teq (by decide : (1 : Int32) = (1 : Int32))).2 ?_
    show Steps p.tables e below (T18.setTop (mkF m 265 #[.val (.int p1), .val (.int p2), .val (.int p3), .val (.int p4), .val (.int (p1 &&& (3 : Int32))), .val (.int (1 : Int32)), .val (.ref b1), .val (.int (1 : Int32))] [])) _
    refine XS.iconst X18.here hx rfl (hb hby at_265) ?_
    show Steps p.tables e below (T18.setTop (mkF m 266 #[.val (.int p1), .val (.int p2), .val (.int p3), .val (.int p4), .val (.int (p1 &&& (3 : Int32))), .val (.int (1 : Int32)), .val (.ref b1), .val (.int (1 : Int32))] [(.int (1 : Int32))])) _
    refine XS.goto X18.here hx rfl (pc0 := 266) (pc' := 270) rfl (hb hby at_266) (by decide) (by decide) ?_
    show Steps p.tables e below (T18.setTop (mkF m 270 #[.val (.int p1), .val (.int p2), .val (.int p3), .val (.int p4), .val (.int (p1 &&& (3 : Int32))), .val (.int (1 : Int32)), .val (.ref b1), .val (.int (1 : Int32))] [(.int (1 : Int32))])) _
    exact retN X18 hx (t := .boolean) Bd.returns (by simp) (hb hby at_270) hr
  · show Q_law Z p1 p2 p3 p4 h0 n0 _ T18.heap _
    rw [e18]
    exact ⟨rfl, N19⟩
def Road_n2 (p1 : Int32) (p2 : Int32) (p3 : Int32) (p4 : Int32) : Prop := ((p2 &&& (7 : Int32)) = (2 : Int32)) ∧ (¬ ((p1 &&& (3 : Int32)) < (0 : Int32))) ∧ ((p1 &&& (3 : Int32)).toNatClampNeg ≤ 3) ∧ (own_B (0 : Int32) (p1 &&& (3 : Int32)) (List.replicate 16 (Value.int (0 : Int32))))
set_option maxRecDepth 65536 in
set_option maxHeartbeats 40000000 in
theorem rm_law_n2 (l : Launch) (Z : State) (a0 : Array Value) (hw : ∀ d ∈ tables_1, d.before a0 Z = true) (ws : List Jvm.Cond) (p1 : Int32) (p2 : Int32) (p3 : Int32) (p4 : Int32) (h0 : Heap) (n0 : Nat) (Z0 : n0 ≤ h0.size) (hroad : Road_n2 p1 p2 p3 p4) :
    MetFree l x (head1 (Jvm.Cond.code x code maxLocals ret :: ws) room_1) (fun a U => a = #[(.int p1), (.int p2), (.int p3), (.int p4)] ∧ Z.Warmed39 U.vm ∧ U.heap = h0) (fun _ _ _ _ _ => True) (fun _ U o U' => ∃ v L, o = .returned v ∧ Q_law Z p1 p2 p3 p4 h0 n0 v U'.heap L ∧ FrameEnd U o U' L room_1.cells room_1.slots) := by
  obtain ⟨hw_0, hp1, hp2, hp3⟩ := hroad
  refine MetFree.of_bodySF (plainFor_of_name pn_com_example_wellform_wellform_cli_ByteBatchAppendPinLaw) hisR ?_
  intro p e s m args below meth c s₁ Bd hml0 hP hK
  obtain ⟨rfl, hZ, hh⟩ := hP
  have hx := Bd.exec
  have hby := Bd.bytes
  have hml : c.maxLocals = 8 := hml0
  have hown : s.vm.findClass "com/example/wellform/wellform/cli/ByteBatchAppendPinLaw" = some m.cls := findClass_of_methodNamed Bd.named
  have hnm := (name_of_methodNamed Bd.named Bd.method).1
  have X0 : Stand p l e room_1 s m #[(.int p1), (.int p2), (.int p3), (.int p4)] below meth c s₁ [] 0 0 := Stand.of_body Bd
  have e0 : s₁.heap = h0 := by rw [← hh, Bd.state]; rfl
  have N0 := Fr.nil n0
  have pre0 : ∀ t, Steps p.tables e below (s₁.setTop (mkF m 0 #[.val (.int p1), .val (.int p2), .val (.int p3), .val (.int p4), .unset, .unset, .unset, .unset] [])) t → Steps p.tables e below (s₁.setTop (entryFrame m #[(.int p1), (.int p2), (.int p3), (.int p4)] maxLocals)) t := fun t k => castTop (ef_0_IIII m p1 p2 p3 p4) k
  obtain ⟨T1, h1, X1, e1, E1, A1, D1, -, st1⟩ := newO X0 hx hZ hown (hw _ (List.mem_of_getElem? (i := 0) rfl)) (hw _ (List.mem_of_getElem? (i := 1) rfl)) (hw _ (List.mem_of_getElem? (i := 2) rfl)) e0 (g := (mkF m 11 #[.val (.int p1), .val (.int p2), .val (.int p3), .val (.int p4), .val (.int (p1 &&& (3 : Int32))), .val (.int (2 : Int32)), .unset, .unset] [])) rfl (hb hby at_11) (by decide) (by decide)
  obtain ⟨b1, g1⟩ : ∃ z, z = h0.size := ⟨_, rfl⟩
  rw [← g1] at A1 D1 st1
  have g_b1 : n0 ≤ b1 := Nat.le_trans Z0 (Nat.le_of_eq g1.symm)
  have Zs2 : n0 ≤ h1.size := Nat.le_trans Z0 E1.1
  have f3 : Fld Z h1 b1 "com/example/wellform/wellform/cli/ByteBatch" "bytes" "[B" .null := D1 (Or.inl (hw _ (List.mem_of_getElem? (i := 11) rfl))) (ty := (.array .byte)) (by decide)
  have f4 : Fld Z h1 b1 "com/example/wellform/wellform/cli/ByteBatch" "size" "I" (.int (0 : Int32)) := D1 (Or.inl (hw _ (List.mem_of_getElem? (i := 22) rfl))) (ty := .int) (by decide)
  obtain ⟨_, _, ⟨T5, L5, k5, n5⟩, -, X5, ⟨Lc5, hQ5, l5, y5, z5⟩, st5⟩ := X1.specialBack hx (y := (⟨"com/example/wellform/wellform/cli/ByteBatch", "<init>", "(I)V"⟩ : MethodName)) rfl hown (mvT hZ (hw _ (List.mem_of_getElem? (i := 3) rfl))) (mvT hZ (hw _ (List.mem_of_getElem? (i := 4) rfl))) (mvT hZ (hw _ (List.mem_of_getElem? (i := 5) rfl))) (by decide) (backOf (W := 1) (rm_init l Z a0 hw [] b1 (p1 &&& (3 : Int32)) h1 n0 Zs2 A1 f3 g_b1 f4 hp1 hp2) hZ (hw _ (List.mem_of_getElem? (i := 5) rfl)) (hw _ (List.mem_of_getElem? (i := 2) rfl)) (by decide) (by decide)) (g := (mkF m 17 #[.val (.int p1), .val (.int p2), .val (.int p3), .val (.int p4), .val (.int (p1 &&& (3 : Int32))), .val (.int (2 : Int32)), .unset, .unset] [(.int (p1 &&& (3 : Int32))), (.ref b1), (.ref b1)])) rfl (by rw [hml]; rfl) (Steps.refl _) (a := b1) (argsL := [(.int (p1 &&& (3 : Int32)))]) (rest := [(.ref b1)]) (lenOf pd_2 rfl) rfl (by show 2 * 0 + _ ≤ _; exact Nat.le_of_eq rfl) (hb hby at_17) (fun _ _ => ⟨rfl, e1, (by decide : 1 + 1 ≤ _), (by decide : 2 + 3 ≤ _)⟩)
  dsimp only [Pt.U, Pt.locs, Pt.cells, Pt.slots] at X5 l5 y5 z5 st5 hQ5
  subst l5 y5 z5
  obtain ⟨b5_1, k5_2, rfl, Nq5, g_b5_1, szq_b5_1, Kc5, fq5_0, fq5_1, fq5_2, fq5_3, fq5_4⟩ := hQ5
  have ne_b1_b5_1 : b1 ≠ b5_1 := Nat.ne_of_lt (Nat.lt_of_lt_of_le A1.lt szq_b5_1)
  have f7 : Fld Z T5.heap b1 "com/example/wellform/wellform/cli/ByteBatch" "bytes" "[B" (.ref b5_1) := fq5_1
  have f8 : Fld Z T5.heap b1 "com/example/wellform/wellform/cli/ByteBatch" "size" "I" (.int (0 : Int32)) := fq5_2
  have f9 : Arv Z T5.heap b5_1 k5_2 .byte (p1 &&& (3 : Int32)) (List.replicate 16 (Value.int (0 : Int32))) (.int (0 : Int32)) := fq5_4
  have Zs10 : n0 ≤ T5.heap.size := Nat.le_trans Zs2 Kc5.1
  have N6 := Fr.app N0 Nq5
  obtain ⟨cq11, kq11, q11a, q11b, q11c⟩ := isOf hZ rfl fq5_0
  obtain ⟨_, _, ⟨T11, L11, k11, n11⟩, -, X11, ⟨Lc11, hQ11, l11, y11, z11⟩, st11⟩ := X5.virtualBack hx (y := (⟨"com/example/wellform/wellform/cli/ByteBatch", "append", "(B)Lcom/example/wellform/wellform/cli/ByteBatch;"⟩ : MethodName)) (z := (⟨"com/example/wellform/wellform/cli/ByteBatch", "append", "(B)Lcom/example/wellform/wellform/cli/ByteBatch;"⟩ : MethodName)) hown (mvT hZ (hw _ (List.mem_of_getElem? (i := 12) rfl))) (mvT hZ (hw _ (List.mem_of_getElem? (i := 13) rfl))) (notFace_of_selects (args := #[]) (mvT hZ (hw _ (List.mem_of_getElem? (i := 15) rfl)))) (mvT hZ (hw _ (List.mem_of_getElem? (i := 15) rfl))) (mvT hZ (hw _ (List.mem_of_getElem? (i := 14) rfl))) (by decide) (backOf (W := 0) (rm_append l Z a0 hw [] b1 (p3.toInt8.toInt32) b5_1 k5_2 (p1 &&& (3 : Int32)) (List.replicate 16 (Value.int (0 : Int32))) (0 : Int32) T5.heap n0 Zs10 f7 fq5_3 f9 f8 fq5_0 g_b1 g_b5_1 hp3 (by decide)) hZ (hw _ (List.mem_of_getElem? (i := 16) rfl)) (hw _ (List.mem_of_getElem? (i := 2) rfl)) (by decide) (by decide)) q11a q11c (g := (mkF m 39 #[.val (.int p1), .val (.int p2), .val (.int p3), .val (.int p4), .val (.int (p1 &&& (3 : Int32))), .val (.int (2 : Int32)), .val (.ref b1), .val (.int (1 : Int32))] [(.int (p3.toInt8.toInt32)), (.ref b1)])) rfl (by rw [hml]; rfl) (Steps.refl _) (argsL := [(.int (p3.toInt8.toInt32))]) (rest := []) (lenOf pd_4 rfl) rfl (by show 2 * 0 + _ ≤ _; exact Nat.le_of_eq rfl) (hb hby at_39) (fun _ _ => ⟨rfl, rfl, (by decide : 2 + 1 ≤ _), (by decide : 5 + 14 ≤ _)⟩)
  dsimp only [Pt.U, Pt.locs, Pt.cells, Pt.slots] at X11 l11 y11 z11 st11 hQ11
  subst l11 y11 z11
  obtain ⟨b11_1, k11_2, i11_3, us11_4, rfl, Nq11, g_b11_1, hq11_0, Kc11, fq11_0, fq11_1, fq11_2, fq11_3, fq11_4⟩ := hQ11
  have f13 : Exa Z T11.heap b5_1 "[B" := fq5_3.keep Kc11
  have f14 : Fld Z T11.heap b1 "com/example/wellform/wellform/cli/ByteBatch" "bytes" "[B" (.ref b11_1) := fq11_1
  have f15 : Fld Z T11.heap b1 "com/example/wellform/wellform/cli/ByteBatch" "size" "I" (.int (1 : Int32)) := fq11_2
  have f16 : Arv Z T11.heap b11_1 k11_2 .byte i11_3 us11_4 (.int (0 : Int32)) := fq11_4
  have Zs17 : n0 ≤ T11.heap.size := Nat.le_trans Zs10 Kc11.1
  have N12 := Fr.app N6 Nq11
  obtain ⟨cq18, kq18, q18a, q18b, q18c⟩ := isOf hZ rfl fq11_0
  obtain ⟨_, _, ⟨T18, L18, k18, n18⟩, -, X18, ⟨Lc18, hQ18, l18, y18, z18⟩, st18⟩ := X11.virtualBack hx (y := (⟨"com/example/wellform/wellform/cli/ByteBatch", "append", "(B)Lcom/example/wellform/wellform/cli/ByteBatch;"⟩ : MethodName)) (z := (⟨"com/example/wellform/wellform/cli/ByteBatch", "append", "(B)Lcom/example/wellform/wellform/cli/ByteBatch;"⟩ : MethodName)) hown (mvT hZ (hw _ (List.mem_of_getElem? (i := 12) rfl))) (mvT hZ (hw _ (List.mem_of_getElem? (i := 13) rfl))) (notFace_of_selects (args := #[]) (mvT hZ (hw _ (List.mem_of_getElem? (i := 15) rfl)))) (mvT hZ (hw _ (List.mem_of_getElem? (i := 15) rfl))) (mvT hZ (hw _ (List.mem_of_getElem? (i := 14) rfl))) (by decide) (backOf (W := 0) (rm_append l Z a0 hw [] b1 (((p3.toUInt32 >>> ((8 : Int32) &&& 31).toUInt32).toInt32).toInt8.toInt32) b11_1 k11_2 i11_3 us11_4 (1 : Int32) T11.heap n0 Zs17 f14 fq11_3 f16 f15 fq11_0 g_b1 g_b11_1 hq11_0 (by decide)) hZ (hw _ (List.mem_of_getElem? (i := 16) rfl)) (hw _ (List.mem_of_getElem? (i := 2) rfl)) (by decide) (by decide)) q18a q18c (g := (mkF m 72 #[.val (.int p1), .val (.int p2), .val (.int p3), .val (.int p4), .val (.int (p1 &&& (3 : Int32))), .val (.int (2 : Int32)), .val (.ref b1), .val (.int (1 : Int32))] [(.int (((p3.toUInt32 >>> ((8 : Int32) &&& 31).toUInt32).toInt32).toInt8.toInt32)), (.ref b1)])) rfl (by rw [hml]; rfl) (Steps.refl _) (argsL := [(.int (((p3.toUInt32 >>> ((8 : Int32) &&& 31).toUInt32).toInt32).toInt8.toInt32))]) (rest := []) (lenOf pd_4 rfl) rfl (by show 2 * 0 + _ ≤ _; exact Nat.le_of_eq rfl) (hb hby at_72) (fun _ _ => ⟨rfl, rfl, (by decide : 3 + 1 ≤ _), (by decide : 19 + 14 ≤ _)⟩)
  dsimp only [Pt.U, Pt.locs, Pt.cells, Pt.slots] at X18 l18 y18 z18 st18 hQ18
  subst l18 y18 z18
  obtain ⟨b18_1, k18_2, i18_3, us18_4, rfl, Nq18, g_b18_1, hq18_0, Kc18, fq18_0, fq18_1, fq18_2, fq18_3, fq18_4⟩ := hQ18
  have ne_b1_b11_1 : b1 ≠ b11_1 := ne_exa fq11_0 fq11_3 (by decide)
  have f20 : Exa Z T18.heap b5_1 "[B" := f13.keep Kc18
  have f21 : Exa Z T18.heap b11_1 "[B" := fq11_3.keep Kc18
  have f22 : Fld Z T18.heap b1 "com/example/wellform/wellform/cli/ByteBatch" "bytes" "[B" (.ref b18_1) := fq18_1
  have f23 : Fld Z T18.heap b1 "com/example/wellform/wellform/cli/ByteBatch" "size" "I" (.int (2 : Int32)) := fq18_2
  have f24 : Arv Z T18.heap b18_1 k18_2 .byte i18_3 us18_4 (.int (0 : Int32)) := fq18_4
  have Zs25 : n0 ≤ T18.heap.size := Nat.le_trans Zs17 Kc18.1
  have N19 := Fr.app N12 Nq18
  obtain ⟨cq26, kq26, q26a, q26b, q26c⟩ := isOf hZ rfl fq18_0
  obtain ⟨_, _, ⟨T26, L26, k26, n26⟩, -, X26, ⟨Lc26, hQ26, l26, y26, z26⟩, st26⟩ := X18.virtualBack hx (y := (⟨"com/example/wellform/wellform/cli/ByteBatch", "size", "()I"⟩ : MethodName)) (z := (⟨"com/example/wellform/wellform/cli/ByteBatch", "size", "()I"⟩ : MethodName)) hown (mvT hZ (hw _ (List.mem_of_getElem? (i := 38) rfl))) (mvT hZ (hw _ (List.mem_of_getElem? (i := 39) rfl))) (notFace_of_selects (args := #[]) (mvT hZ (hw _ (List.mem_of_getElem? (i := 41) rfl)))) (mvT hZ (hw _ (List.mem_of_getElem? (i := 41) rfl))) (mvT hZ (hw _ (List.mem_of_getElem? (i := 40) rfl))) (by decide) (backOf (W := 0) (rm_size l Z a0 hw [] b1 (2 : Int32) T18.heap n0 Zs25 f23) hZ (hw _ (List.mem_of_getElem? (i := 42) rfl)) (hw _ (List.mem_of_getElem? (i := 2) rfl)) (by decide) (by decide)) q26a q26c (g := (mkF m 257 #[.val (.int p1), .val (.int p2), .val (.int p3), .val (.int p4), .val (.int (p1 &&& (3 : Int32))), .val (.int (2 : Int32)), .val (.ref b1), .val (.int (1 : Int32))] [(.ref b1)])) rfl (by rw [hml]; rfl) (Steps.refl _) (argsL := []) (rest := []) (lenOf pd_3 rfl) rfl (by show 2 * 0 + _ ≤ _; exact Nat.le_of_eq rfl) (hb hby at_257) (fun _ _ => ⟨rfl, rfl, (by decide : 4 + 0 ≤ _), (by decide : 33 + 0 ≤ _)⟩)
  dsimp only [Pt.U, Pt.locs, Pt.cells, Pt.slots] at X26 l26 y26 z26 st26 hQ26
  subst l26 y26 z26
  obtain ⟨rfl, Nq26, e26⟩ := hQ26
  have N27 := Fr.app N19 Nq26
  obtain ⟨fs, hr, hrun, hended, hW, hsame⟩ := X26.leave (v := some (.int (1 : Int32))) (fun h => by rw [Bd.returns] at h; cases h) Bd.notSynchronized
  refine ⟨_, _, pre0 _ ?_, hrun, hended, _, _, rfl, ?_, ⟨_, rfl⟩, hW, hsame.mono (by decide) (by decide)⟩
  · show Steps p.tables e below (s₁.setTop (mkF m 0 #[.val (.int p1), .val (.int p2), .val (.int p3), .val (.int p4), .unset, .unset, .unset, .unset] [])) _
    refine XS.iloadN X0.here hx rfl (hb hby at_0) rfl ?_
    show Steps p.tables e below (s₁.setTop (mkF m 1 #[.val (.int p1), .val (.int p2), .val (.int p3), .val (.int p4), .unset, .unset, .unset, .unset] [(.int p1)])) _
    refine XS.iconst X0.here hx rfl (hb hby at_1) ?_
    show Steps p.tables e below (s₁.setTop (mkF m 2 #[.val (.int p1), .val (.int p2), .val (.int p3), .val (.int p4), .unset, .unset, .unset, .unset] [(.int (3 : Int32)), (.int p1)])) _
    refine XS.iand X0.here hx rfl (hb hby at_2) rfl ?_
    show Steps p.tables e below (s₁.setTop (mkF m 3 #[.val (.int p1), .val (.int p2), .val (.int p3), .val (.int p4), .unset, .unset, .unset, .unset] [(.int (p1 &&& (3 : Int32)))])) _
    refine XS.istore X0.here hx rfl (hb hby at_3) rfl (l' := #[.val (.int p1), .val (.int p2), .val (.int p3), .val (.int p4), .val (.int (p1 &&& (3 : Int32))), .unset, .unset, .unset]) rfl ?_
    show Steps p.tables e below (s₁.setTop (mkF m 5 #[.val (.int p1), .val (.int p2), .val (.int p3), .val (.int p4), .val (.int (p1 &&& (3 : Int32))), .unset, .unset, .unset] [])) _
    refine XS.iloadN X0.here hx rfl (hb hby at_5) rfl ?_
    show Steps p.tables e below (s₁.setTop (mkF m 6 #[.val (.int p1), .val (.int p2), .val (.int p3), .val (.int p4), .val (.int (p1 &&& (3 : Int32))), .unset, .unset, .unset] [(.int p2)])) _
    refine XS.bipush X0.here hx rfl (hb hby at_6) ?_
    show Steps p.tables e below (s₁.setTop (mkF m 8 #[.val (.int p1), .val (.int p2), .val (.int p3), .val (.int p4), .val (.int (p1 &&& (3 : Int32))), .unset, .unset, .unset] [(.int (7 : Int32)), (.int p2)])) _
    refine XS.iand X0.here hx rfl (hb hby at_8) rfl ?_
    show Steps p.tables e below (s₁.setTop (mkF m 9 #[.val (.int p1), .val (.int p2), .val (.int p3), .val (.int p4), .val (.int (p1 &&& (3 : Int32))), .unset, .unset, .unset] [(.int (p2 &&& (7 : Int32)))])) _
    refine XS.istore X0.here hx rfl (hb hby at_9) rfl (l' := #[.val (.int p1), .val (.int p2), .val (.int p3), .val (.int p4), .val (.int (p1 &&& (3 : Int32))), .val (.int (p2 &&& (7 : Int32))), .unset, .unset]) rfl ?_
    show Steps p.tables e below (s₁.setTop (mkF m 11 #[.val (.int p1), .val (.int p2), .val (.int p3), .val (.int p4), .val (.int (p1 &&& (3 : Int32))), .val (.int (p2 &&& (7 : Int32))), .unset, .unset] [])) _
    rw [hw_0]
    show Steps p.tables e below (s₁.setTop (mkF m 11 #[.val (.int p1), .val (.int p2), .val (.int p3), .val (.int p4), .val (.int (p1 &&& (3 : Int32))), .val (.int (2 : Int32)), .unset, .unset] [])) _
    refine st1 _ ?_
    show Steps p.tables e below (T1.setTop (mkF m 14 #[.val (.int p1), .val (.int p2), .val (.int p3), .val (.int p4), .val (.int (p1 &&& (3 : Int32))), .val (.int (2 : Int32)), .unset, .unset] [(.ref b1)])) _
    refine XS.dup X1.here hx rfl (hb hby at_14) rfl rfl ?_
    show Steps p.tables e below (T1.setTop (mkF m 15 #[.val (.int p1), .val (.int p2), .val (.int p3), .val (.int p4), .val (.int (p1 &&& (3 : Int32))), .val (.int (2 : Int32)), .unset, .unset] [(.ref b1), (.ref b1)])) _
    refine XS.iload X1.here hx rfl (hb hby at_15) rfl ?_
    show Steps p.tables e below (T1.setTop (mkF m 17 #[.val (.int p1), .val (.int p2), .val (.int p3), .val (.int p4), .val (.int (p1 &&& (3 : Int32))), .val (.int (2 : Int32)), .unset, .unset] [(.int (p1 &&& (3 : Int32))), (.ref b1), (.ref b1)])) _
    refine st5.trans ?_
    show Steps p.tables e below (T5.setTop (mkF m 20 #[.val (.int p1), .val (.int p2), .val (.int p3), .val (.int p4), .val (.int (p1 &&& (3 : Int32))), .val (.int (2 : Int32)), .unset, .unset] [(.ref b1)])) _
    refine XS.astore X5.here hx rfl (hb hby at_20) rfl rfl (l' := #[.val (.int p1), .val (.int p2), .val (.int p3), .val (.int p4), .val (.int (p1 &&& (3 : Int32))), .val (.int (2 : Int32)), .val (.ref b1), .unset]) rfl ?_
    show Steps p.tables e below (T5.setTop (mkF m 22 #[.val (.int p1), .val (.int p2), .val (.int p3), .val (.int p4), .val (.int (p1 &&& (3 : Int32))), .val (.int (2 : Int32)), .val (.ref b1), .unset] [])) _
    refine XS.iconst X5.here hx rfl (hb hby at_22) ?_
    show Steps p.tables e below (T5.setTop (mkF m 23 #[.val (.int p1), .val (.int p2), .val (.int p3), .val (.int p4), .val (.int (p1 &&& (3 : Int32))), .val (.int (2 : Int32)), .val (.ref b1), .unset] [(.int (1 : Int32))])) _
    refine XS.istore X5.here hx rfl (hb hby at_23) rfl (l' := #[.val (.int p1), .val (.int p2), .val (.int p3), .val (.int p4), .val (.int (p1 &&& (3 : Int32))), .val (.int (2 : Int32)), .val (.ref b1), .val (.int (1 : Int32))]) rfl ?_
    show Steps p.tables e below (T5.setTop (mkF m 25 #[.val (.int p1), .val (.int p2), .val (.int p3), .val (.int p4), .val (.int (p1 &&& (3 : Int32))), .val (.int (2 : Int32)), .val (.ref b1), .val (.int (1 : Int32))] [])) _
    refine XS.iload X5.here hx rfl (hb hby at_25) rfl ?_
    show Steps p.tables e below (T5.setTop (mkF m 27 #[.val (.int p1), .val (.int p2), .val (.int p3), .val (.int p4), .val (.int (p1 &&& (3 : Int32))), .val (.int (2 : Int32)), .val (.ref b1), .val (.int (1 : Int32))] [(.int (2 : Int32))])) _
    refine XS.ifNo X5.here hx rfl (hb hby at_27) rfl ((if0 _ _).trans (tlt (by decide : (0 : Int32) < (2 : Int32))).2.2.2) ?_
    show Steps p.tables e below (T5.setTop (mkF m 30 #[.val (.int p1), .val (.int p2), .val (.int p3), .val (.int p4), .val (.int (p1 &&& (3 : Int32))), .val (.int (2 : Int32)), .val (.ref b1), .val (.int (1 : Int32))] [])) _
    refine XS.iload X5.here hx rfl (hb hby at_30) rfl ?_
    show Steps p.tables e below (T5.setTop (mkF m 32 #[.val (.int p1), .val (.int p2), .val (.int p3), .val (.int p4), .val (.int (p1 &&& (3 : Int32))), .val (.int (2 : Int32)), .val (.ref b1), .val (.int (1 : Int32))] [(.int (1 : Int32))])) _
    refine XS.ifNo X5.here hx rfl (hb hby at_32) rfl ((if0 _ _).trans (feq (by decide : ¬ ((1 : Int32) = (0 : Int32)))).1) ?_
    show Steps p.tables e below (T5.setTop (mkF m 35 #[.val (.int p1), .val (.int p2), .val (.int p3), .val (.int p4), .val (.int (p1 &&& (3 : Int32))), .val (.int (2 : Int32)), .val (.ref b1), .val (.int (1 : Int32))] [])) _
    refine XS.aload X5.here hx rfl (hb hby at_35) rfl rfl ?_
    show Steps p.tables e below (T5.setTop (mkF m 37 #[.val (.int p1), .val (.int p2), .val (.int p3), .val (.int p4), .val (.int (p1 &&& (3 : Int32))), .val (.int (2 : Int32)), .val (.ref b1), .val (.int (1 : Int32))] [(.ref b1)])) _
    refine XS.iloadN X5.here hx rfl (hb hby at_37) rfl ?_
    show Steps p.tables e below (T5.setTop (mkF m 38 #[.val (.int p1), .val (.int p2), .val (.int p3), .val (.int p4), .val (.int (p1 &&& (3 : Int32))), .val (.int (2 : Int32)), .val (.ref b1), .val (.int (1 : Int32))] [(.int p3), (.ref b1)])) _
    refine XS.i2b X5.here hx rfl (hb hby at_38) rfl ?_
    show Steps p.tables e below (T5.setTop (mkF m 39 #[.val (.int p1), .val (.int p2), .val (.int p3), .val (.int p4), .val (.int (p1 &&& (3 : Int32))), .val (.int (2 : Int32)), .val (.ref b1), .val (.int (1 : Int32))] [(.int (p3.toInt8.toInt32)), (.ref b1)])) _
    refine st11.trans ?_
    show Steps p.tables e below (T11.setTop (mkF m 42 #[.val (.int p1), .val (.int p2), .val (.int p3), .val (.int p4), .val (.int (p1 &&& (3 : Int32))), .val (.int (2 : Int32)), .val (.ref b1), .val (.int (1 : Int32))] [(.ref b1)])) _
    refine XS.aload X11.here hx rfl (hb hby at_42) rfl rfl ?_
    show Steps p.tables e below (T11.setTop (mkF m 44 #[.val (.int p1), .val (.int p2), .val (.int p3), .val (.int p4), .val (.int (p1 &&& (3 : Int32))), .val (.int (2 : Int32)), .val (.ref b1), .val (.int (1 : Int32))] [(.ref b1), (.ref b1)])) _
    refine Jvm.RoadKit.acmp (g := (mkF m 44 #[.val (.int p1), .val (.int p2), .val (.int p3), .val (.int p4), .val (.int (p1 &&& (3 : Int32))), .val (.int (2 : Int32)), .val (.ref b1), .val (.int (1 : Int32))] [(.ref b1), (.ref b1)])) X11 hx rfl rfl rfl (pc0 := 44) (pc' := 47) (same := true) rfl (hb hby at_44) rfl (decide_eq_true rfl) (by decide) (by decide) ?_
    show Steps p.tables e below (T11.setTop (mkF m 47 #[.val (.int p1), .val (.int p2), .val (.int p3), .val (.int p4), .val (.int (p1 &&& (3 : Int32))), .val (.int (2 : Int32)), .val (.ref b1), .val (.int (1 : Int32))] [])) _
    refine XS.iconst X11.here hx rfl (hb hby at_47) ?_
    show Steps p.tables e below (T11.setTop (mkF m 48 #[.val (.int p1), .val (.int p2), .val (.int p3), .val (.int p4), .val (.int (p1 &&& (3 : Int32))), .val (.int (2 : Int32)), .val (.ref b1), .val (.int (1 : Int32))] [(.int (1 : Int32))])) _
    refine XS.goto X11.here hx rfl (pc0 := 48) (pc' := 52) rfl (hb hby at_48) (by decide) (by decide) ?_
    show Steps p.tables e below (T11.setTop (mkF m 52 #[.val (.int p1), .val (.int p2), .val (.int p3), .val (.int p4), .val (.int (p1 &&& (3 : Int32))), .val (.int (2 : Int32)), .val (.ref b1), .val (.int (1 : Int32))] [(.int (1 : Int32))])) _
    refine XS.istore X11.here hx rfl (hb hby at_52) rfl (l' := #[.val (.int p1), .val (.int p2), .val (.int p3), .val (.int p4), .val (.int (p1 &&& (3 : Int32))), .val (.int (2 : Int32)), .val (.ref b1), .val (.int (1 : Int32))]) rfl ?_
    show Steps p.tables e below (T11.setTop (mkF m 54 #[.val (.int p1), .val (.int p2), .val (.int p3), .val (.int p4), .val (.int (p1 &&& (3 : Int32))), .val (.int (2 : Int32)), .val (.ref b1), .val (.int (1 : Int32))] [])) _
    refine XS.iload X11.here hx rfl (hb hby at_54) rfl ?_
    show Steps p.tables e below (T11.setTop (mkF m 56 #[.val (.int p1), .val (.int p2), .val (.int p3), .val (.int p4), .val (.int (p1 &&& (3 : Int32))), .val (.int (2 : Int32)), .val (.ref b1), .val (.int (1 : Int32))] [(.int (2 : Int32))])) _
    refine XS.iconst X11.here hx rfl (hb hby at_56) ?_
    show Steps p.tables e below (T11.setTop (mkF m 57 #[.val (.int p1), .val (.int p2), .val (.int p3), .val (.int p4), .val (.int (p1 &&& (3 : Int32))), .val (.int (2 : Int32)), .val (.ref b1), .val (.int (1 : Int32))] [(.int (1 : Int32)), (.int (2 : Int32))])) _
    refine XS.icmpNo X11.here hx rfl (hb hby at_57) rfl (tlt (by decide : (1 : Int32) < (2 : Int32))).2.2.2 ?_
    show Steps p.tables e below (T11.setTop (mkF m 60 #[.val (.int p1), .val (.int p2), .val (.int p3), .val (.int p4), .val (.int (p1 &&& (3 : Int32))), .val (.int (2 : Int32)), .val (.ref b1), .val (.int (1 : Int32))] [])) _
    refine XS.iload X11.here hx rfl (hb hby at_60) rfl ?_
    show Steps p.tables e below (T11.setTop (mkF m 62 #[.val (.int p1), .val (.int p2), .val (.int p3), .val (.int p4), .val (.int (p1 &&& (3 : Int32))), .val (.int (2 : Int32)), .val (.ref b1), .val (.int (1 : Int32))] [(.int (1 : Int32))])) _
    refine XS.ifNo X11.here hx rfl (hb hby at_62) rfl ((if0 _ _).trans (feq (by decide : ¬ ((1 : Int32) = (0 : Int32)))).1) ?_
    show Steps p.tables e below (T11.setTop (mkF m 65 #[.val (.int p1), .val (.int p2), .val (.int p3), .val (.int p4), .val (.int (p1 &&& (3 : Int32))), .val (.int (2 : Int32)), .val (.ref b1), .val (.int (1 : Int32))] [])) _
    refine XS.aload X11.here hx rfl (hb hby at_65) rfl rfl ?_
    show Steps p.tables e below (T11.setTop (mkF m 67 #[.val (.int p1), .val (.int p2), .val (.int p3), .val (.int p4), .val (.int (p1 &&& (3 : Int32))), .val (.int (2 : Int32)), .val (.ref b1), .val (.int (1 : Int32))] [(.ref b1)])) _
    refine XS.iloadN X11.here hx rfl (hb hby at_67) rfl ?_
    show Steps p.tables e below (T11.setTop (mkF m 68 #[.val (.int p1), .val (.int p2), .val (.int p3), .val (.int p4), .val (.int (p1 &&& (3 : Int32))), .val (.int (2 : Int32)), .val (.ref b1), .val (.int (1 : Int32))] [(.int p3), (.ref b1)])) _
    refine XS.bipush X11.here hx rfl (hb hby at_68) ?_
    show Steps p.tables e below (T11.setTop (mkF m 70 #[.val (.int p1), .val (.int p2), .val (.int p3), .val (.int p4), .val (.int (p1 &&& (3 : Int32))), .val (.int (2 : Int32)), .val (.ref b1), .val (.int (1 : Int32))] [(.int (8 : Int32)), (.int p3), (.ref b1)])) _
    refine XS.iushr X11.here hx rfl (hb hby at_70) rfl ?_
    show Steps p.tables e below (T11.setTop (mkF m 71 #[.val (.int p1), .val (.int p2), .val (.int p3), .val (.int p4), .val (.int (p1 &&& (3 : Int32))), .val (.int (2 : Int32)), .val (.ref b1), .val (.int (1 : Int32))] [(.int ((p3.toUInt32 >>> ((8 : Int32) &&& 31).toUInt32).toInt32)), (.ref b1)])) _
    refine XS.i2b X11.here hx rfl (hb hby at_71) rfl ?_
    show Steps p.tables e below (T11.setTop (mkF m 72 #[.val (.int p1), .val (.int p2), .val (.int p3), .val (.int p4), .val (.int (p1 &&& (3 : Int32))), .val (.int (2 : Int32)), .val (.ref b1), .val (.int (1 : Int32))] [(.int (((p3.toUInt32 >>> ((8 : Int32) &&& 31).toUInt32).toInt32).toInt8.toInt32)), (.ref b1)])) _
    refine st18.trans ?_
    show Steps p.tables e below (T18.setTop (mkF m 75 #[.val (.int p1), .val (.int p2), .val (.int p3), .val (.int p4), .val (.int (p1 &&& (3 : Int32))), .val (.int (2 : Int32)), .val (.ref b1), .val (.int (1 : Int32))] [(.ref b1)])) _
    refine XS.aload X18.here hx rfl (hb hby at_75) rfl rfl ?_
    show Steps p.tables e below (T18.setTop (mkF m 77 #[.val (.int p1), .val (.int p2), .val (.int p3), .val (.int p4), .val (.int (p1 &&& (3 : Int32))), .val (.int (2 : Int32)), .val (.ref b1), .val (.int (1 : Int32))] [(.ref b1), (.ref b1)])) _
    refine Jvm.RoadKit.acmp (g := (mkF m 77 #[.val (.int p1), .val (.int p2), .val (.int p3), .val (.int p4), .val (.int (p1 &&& (3 : Int32))), .val (.int (2 : Int32)), .val (.ref b1), .val (.int (1 : Int32))] [(.ref b1), (.ref b1)])) X18 hx rfl rfl rfl (pc0 := 77) (pc' := 80) (same := true) rfl (hb hby at_77) rfl (decide_eq_true rfl) (by decide) (by decide) ?_
    show Steps p.tables e below (T18.setTop (mkF m 80 #[.val (.int p1), .val (.int p2), .val (.int p3), .val (.int p4), .val (.int (p1 &&& (3 : Int32))), .val (.int (2 : Int32)), .val (.ref b1), .val (.int (1 : Int32))] [])) _
    refine XS.iconst X18.here hx rfl (hb hby at_80) ?_
    show Steps p.tables e below (T18.setTop (mkF m 81 #[.val (.int p1), .val (.int p2), .val (.int p3), .val (.int p4), .val (.int (p1 &&& (3 : Int32))), .val (.int (2 : Int32)), .val (.ref b1), .val (.int (1 : Int32))] [(.int (1 : Int32))])) _
    refine XS.goto X18.here hx rfl (pc0 := 81) (pc' := 85) rfl (hb hby at_81) (by decide) (by decide) ?_
    show Steps p.tables e below (T18.setTop (mkF m 85 #[.val (.int p1), .val (.int p2), .val (.int p3), .val (.int p4), .val (.int (p1 &&& (3 : Int32))), .val (.int (2 : Int32)), .val (.ref b1), .val (.int (1 : Int32))] [(.int (1 : Int32))])) _
    refine XS.istore X18.here hx rfl (hb hby at_85) rfl (l' := #[.val (.int p1), .val (.int p2), .val (.int p3), .val (.int p4), .val (.int (p1 &&& (3 : Int32))), .val (.int (2 : Int32)), .val (.ref b1), .val (.int (1 : Int32))]) rfl ?_
    show Steps p.tables e below (T18.setTop (mkF m 87 #[.val (.int p1), .val (.int p2), .val (.int p3), .val (.int p4), .val (.int (p1 &&& (3 : Int32))), .val (.int (2 : Int32)), .val (.ref b1), .val (.int (1 : Int32))] [])) _
    refine XS.iload X18.here hx rfl (hb hby at_87) rfl ?_
    show Steps p.tables e below (T18.setTop (mkF m 89 #[.val (.int p1), .val (.int p2), .val (.int p3), .val (.int p4), .val (.int (p1 &&& (3 : Int32))), .val (.int (2 : Int32)), .val (.ref b1), .val (.int (1 : Int32))] [(.int (2 : Int32))])) _
    refine XS.iconst X18.here hx rfl (hb hby at_89) ?_
    show Steps p.tables e below (T18.setTop (mkF m 90 #[.val (.int p1), .val (.int p2), .val (.int p3), .val (.int p4), .val (.int (p1 &&& (3 : Int32))), .val (.int (2 : Int32)), .val (.ref b1), .val (.int (1 : Int32))] [(.int (2 : Int32)), (.int (2 : Int32))])) _
    refine XS.icmpYes X18.here hx rfl (pc0 := 90) (pc' := 120) rfl (hb hby at_90) rfl (flt (by decide : ¬ ((2 : Int32) < (2 : Int32)))).2.2.2 (by decide) (by decide) ?_
    show Steps p.tables e below (T18.setTop (mkF m 120 #[.val (.int p1), .val (.int p2), .val (.int p3), .val (.int p4), .val (.int (p1 &&& (3 : Int32))), .val (.int (2 : Int32)), .val (.ref b1), .val (.int (1 : Int32))] [])) _
    refine XS.iload X18.here hx rfl (hb hby at_120) rfl ?_
    show Steps p.tables e below (T18.setTop (mkF m 122 #[.val (.int p1), .val (.int p2), .val (.int p3), .val (.int p4), .val (.int (p1 &&& (3 : Int32))), .val (.int (2 : Int32)), .val (.ref b1), .val (.int (1 : Int32))] [(.int (2 : Int32))])) _
    refine XS.iconst X18.here hx rfl (hb hby at_122) ?_
    show Steps p.tables e below (T18.setTop (mkF m 123 #[.val (.int p1), .val (.int p2), .val (.int p3), .val (.int p4), .val (.int (p1 &&& (3 : Int32))), .val (.int (2 : Int32)), .val (.ref b1), .val (.int (1 : Int32))] [(.int (3 : Int32)), (.int (2 : Int32))])) _
    refine XS.icmpYes X18.here hx rfl (pc0 := 123) (pc' := 153) rfl (hb hby at_123) rfl (flt (by decide : ¬ ((3 : Int32) < (2 : Int32)))).2.2.2 (by decide) (by decide) ?_
    show Steps p.tables e below (T18.setTop (mkF m 153 #[.val (.int p1), .val (.int p2), .val (.int p3), .val (.int p4), .val (.int (p1 &&& (3 : Int32))), .val (.int (2 : Int32)), .val (.ref b1), .val (.int (1 : Int32))] [])) _
    refine XS.iload X18.here hx rfl (hb hby at_153) rfl ?_
    show Steps p.tables e below (T18.setTop (mkF m 155 #[.val (.int p1), .val (.int p2), .val (.int p3), .val (.int p4), .val (.int (p1 &&& (3 : Int32))), .val (.int (2 : Int32)), .val (.ref b1), .val (.int (1 : Int32))] [(.int (2 : Int32))])) _
    refine XS.iconst X18.here hx rfl (hb hby at_155) ?_
    show Steps p.tables e below (T18.setTop (mkF m 156 #[.val (.int p1), .val (.int p2), .val (.int p3), .val (.int p4), .val (.int (p1 &&& (3 : Int32))), .val (.int (2 : Int32)), .val (.ref b1), .val (.int (1 : Int32))] [(.int (4 : Int32)), (.int (2 : Int32))])) _
    refine XS.icmpYes X18.here hx rfl (pc0 := 156) (pc' := 183) rfl (hb hby at_156) rfl (flt (by decide : ¬ ((4 : Int32) < (2 : Int32)))).2.2.2 (by decide) (by decide) ?_
    show Steps p.tables e below (T18.setTop (mkF m 183 #[.val (.int p1), .val (.int p2), .val (.int p3), .val (.int p4), .val (.int (p1 &&& (3 : Int32))), .val (.int (2 : Int32)), .val (.ref b1), .val (.int (1 : Int32))] [])) _
    refine XS.iload X18.here hx rfl (hb hby at_183) rfl ?_
    show Steps p.tables e below (T18.setTop (mkF m 185 #[.val (.int p1), .val (.int p2), .val (.int p3), .val (.int p4), .val (.int (p1 &&& (3 : Int32))), .val (.int (2 : Int32)), .val (.ref b1), .val (.int (1 : Int32))] [(.int (2 : Int32))])) _
    refine XS.iconst X18.here hx rfl (hb hby at_185) ?_
    show Steps p.tables e below (T18.setTop (mkF m 186 #[.val (.int p1), .val (.int p2), .val (.int p3), .val (.int p4), .val (.int (p1 &&& (3 : Int32))), .val (.int (2 : Int32)), .val (.ref b1), .val (.int (1 : Int32))] [(.int (5 : Int32)), (.int (2 : Int32))])) _
    refine XS.icmpYes X18.here hx rfl (pc0 := 186) (pc' := 216) rfl (hb hby at_186) rfl (flt (by decide : ¬ ((5 : Int32) < (2 : Int32)))).2.2.2 (by decide) (by decide) ?_
    show Steps p.tables e below (T18.setTop (mkF m 216 #[.val (.int p1), .val (.int p2), .val (.int p3), .val (.int p4), .val (.int (p1 &&& (3 : Int32))), .val (.int (2 : Int32)), .val (.ref b1), .val (.int (1 : Int32))] [])) _
    refine XS.iload X18.here hx rfl (hb hby at_216) rfl ?_
    show Steps p.tables e below (T18.setTop (mkF m 218 #[.val (.int p1), .val (.int p2), .val (.int p3), .val (.int p4), .val (.int (p1 &&& (3 : Int32))), .val (.int (2 : Int32)), .val (.ref b1), .val (.int (1 : Int32))] [(.int (2 : Int32))])) _
    refine XS.bipush X18.here hx rfl (hb hby at_218) ?_
    show Steps p.tables e below (T18.setTop (mkF m 220 #[.val (.int p1), .val (.int p2), .val (.int p3), .val (.int p4), .val (.int (p1 &&& (3 : Int32))), .val (.int (2 : Int32)), .val (.ref b1), .val (.int (1 : Int32))] [(.int (6 : Int32)), (.int (2 : Int32))])) _
    refine XS.icmpYes X18.here hx rfl (pc0 := 220) (pc' := 250) rfl (hb hby at_220) rfl (flt (by decide : ¬ ((6 : Int32) < (2 : Int32)))).2.2.2 (by decide) (by decide) ?_
    show Steps p.tables e below (T18.setTop (mkF m 250 #[.val (.int p1), .val (.int p2), .val (.int p3), .val (.int p4), .val (.int (p1 &&& (3 : Int32))), .val (.int (2 : Int32)), .val (.ref b1), .val (.int (1 : Int32))] [])) _
    refine XS.iload X18.here hx rfl (hb hby at_250) rfl ?_
    show Steps p.tables e below (T18.setTop (mkF m 252 #[.val (.int p1), .val (.int p2), .val (.int p3), .val (.int p4), .val (.int (p1 &&& (3 : Int32))), .val (.int (2 : Int32)), .val (.ref b1), .val (.int (1 : Int32))] [(.int (1 : Int32))])) _
    refine XS.ifNo X18.here hx rfl (hb hby at_252) rfl ((if0 _ _).trans (feq (by decide : ¬ ((1 : Int32) = (0 : Int32)))).1) ?_
    show Steps p.tables e below (T18.setTop (mkF m 255 #[.val (.int p1), .val (.int p2), .val (.int p3), .val (.int p4), .val (.int (p1 &&& (3 : Int32))), .val (.int (2 : Int32)), .val (.ref b1), .val (.int (1 : Int32))] [])) _
    refine XS.aload X18.here hx rfl (hb hby at_255) rfl rfl ?_
    show Steps p.tables e below (T18.setTop (mkF m 257 #[.val (.int p1), .val (.int p2), .val (.int p3), .val (.int p4), .val (.int (p1 &&& (3 : Int32))), .val (.int (2 : Int32)), .val (.ref b1), .val (.int (1 : Int32))] [(.ref b1)])) _
    refine st26.trans ?_
    show Steps p.tables e below (T26.setTop (mkF m 260 #[.val (.int p1), .val (.int p2), .val (.int p3), .val (.int p4), .val (.int (p1 &&& (3 : Int32))), .val (.int (2 : Int32)), .val (.ref b1), .val (.int (1 : Int32))] [(.int (2 : Int32))])) _
    refine XS.iload X26.here hx rfl (hb hby at_260) rfl ?_
    show Steps p.tables e below (T26.setTop (mkF m 262 #[.val (.int p1), .val (.int p2), .val (.int p3), .val (.int p4), .val (.int (p1 &&& (3 : Int32))), .val (.int (2 : Int32)), .val (.ref b1), .val (.int (1 : Int32))] [(.int (2 : Int32)), (.int (2 : Int32))])) _
    refine XS.icmpNo X26.here hx rfl (hb hby at_262) rfl (teq (by decide : (2 : Int32) = (2 : Int32))).2 ?_
    show Steps p.tables e below (T26.setTop (mkF m 265 #[.val (.int p1), .val (.int p2), .val (.int p3), .val (.int p4), .val (.int (p1 &&& (3 : Int32))), .val (.int (2 : Int32)), .val (.ref b1), .val (.int (1 : Int32))] [])) _
    refine XS.iconst X26.here hx rfl (hb hby at_265) ?_
    show Steps p.tables e below (T26.setTop (mkF m 266 #[.val (.int p1), .val (.int p2), .val (.int p3), .val (.int p4), .val (.int (p1 &&& (3 : Int32))), .val (.int (2 : Int32)), .val (.ref b1), .val (.int (1 : Int32))] [(.int (1 : Int32))])) _
    refine XS.goto X26.here hx rfl (pc0 := 266) (pc' := 270) rfl (hb hby at_266) (by decide) (by decide) ?_
    show Steps p.tables e below (T26.setTop (mkF m 270 #[.val (.int p1), .val (.int p2), .val (.int p3), .val (.int p4), .val (.int (p1 &&& (3 : Int32))), .val (.int (2 : Int32)), .val (.ref b1), .val (.int (1 : Int32))] [(.int (1 : Int32))])) _
    exact retN X26 hx (t := .boolean) Bd.returns (by simp) (hb hby at_270) hr
  · show Q_law Z p1 p2 p3 p4 h0 n0 _ T26.heap _
    rw [e26]
    exact ⟨rfl, N27⟩
def Road_n3 (p1 : Int32) (p2 : Int32) (p3 : Int32) (p4 : Int32) : Prop := ((p2 &&& (7 : Int32)) = (3 : Int32)) ∧ (¬ ((p1 &&& (3 : Int32)) < (0 : Int32))) ∧ ((p1 &&& (3 : Int32)).toNatClampNeg ≤ 3) ∧ (own_B (0 : Int32) (p1 &&& (3 : Int32)) (List.replicate 16 (Value.int (0 : Int32))))
set_option maxRecDepth 65536 in
set_option maxHeartbeats 40000000 in
theorem rm_law_n3 (l : Launch) (Z : State) (a0 : Array Value) (hw : ∀ d ∈ tables_1, d.before a0 Z = true) (ws : List Jvm.Cond) (p1 : Int32) (p2 : Int32) (p3 : Int32) (p4 : Int32) (h0 : Heap) (n0 : Nat) (Z0 : n0 ≤ h0.size) (hroad : Road_n3 p1 p2 p3 p4) :
    MetFree l x (head1 (Jvm.Cond.code x code maxLocals ret :: ws) room_1) (fun a U => a = #[(.int p1), (.int p2), (.int p3), (.int p4)] ∧ Z.Warmed39 U.vm ∧ U.heap = h0) (fun _ _ _ _ _ => True) (fun _ U o U' => ∃ v L, o = .returned v ∧ Q_law Z p1 p2 p3 p4 h0 n0 v U'.heap L ∧ FrameEnd U o U' L room_1.cells room_1.slots) := by
  obtain ⟨hw_0, hp1, hp2, hp3⟩ := hroad
  refine MetFree.of_bodySF (plainFor_of_name pn_com_example_wellform_wellform_cli_ByteBatchAppendPinLaw) hisR ?_
  intro p e s m args below meth c s₁ Bd hml0 hP hK
  obtain ⟨rfl, hZ, hh⟩ := hP
  have hx := Bd.exec
  have hby := Bd.bytes
  have hml : c.maxLocals = 8 := hml0
  have hown : s.vm.findClass "com/example/wellform/wellform/cli/ByteBatchAppendPinLaw" = some m.cls := findClass_of_methodNamed Bd.named
  have hnm := (name_of_methodNamed Bd.named Bd.method).1
  have X0 : Stand p l e room_1 s m #[(.int p1), (.int p2), (.int p3), (.int p4)] below meth c s₁ [] 0 0 := Stand.of_body Bd
  have e0 : s₁.heap = h0 := by rw [← hh, Bd.state]; rfl
  have N0 := Fr.nil n0
  have pre0 : ∀ t, Steps p.tables e below (s₁.setTop (mkF m 0 #[.val (.int p1), .val (.int p2), .val (.int p3), .val (.int p4), .unset, .unset, .unset, .unset] [])) t → Steps p.tables e below (s₁.setTop (entryFrame m #[(.int p1), (.int p2), (.int p3), (.int p4)] maxLocals)) t := fun t k => castTop (ef_0_IIII m p1 p2 p3 p4) k
  obtain ⟨T1, h1, X1, e1, E1, A1, D1, -, st1⟩ := newO X0 hx hZ hown (hw _ (List.mem_of_getElem? (i := 0) rfl)) (hw _ (List.mem_of_getElem? (i := 1) rfl)) (hw _ (List.mem_of_getElem? (i := 2) rfl)) e0 (g := (mkF m 11 #[.val (.int p1), .val (.int p2), .val (.int p3), .val (.int p4), .val (.int (p1 &&& (3 : Int32))), .val (.int (3 : Int32)), .unset, .unset] [])) rfl (hb hby at_11) (by decide) (by decide)
  obtain ⟨b1, g1⟩ : ∃ z, z = h0.size := ⟨_, rfl⟩
  rw [← g1] at A1 D1 st1
  have g_b1 : n0 ≤ b1 := Nat.le_trans Z0 (Nat.le_of_eq g1.symm)
  have Zs2 : n0 ≤ h1.size := Nat.le_trans Z0 E1.1
  have f3 : Fld Z h1 b1 "com/example/wellform/wellform/cli/ByteBatch" "bytes" "[B" .null := D1 (Or.inl (hw _ (List.mem_of_getElem? (i := 11) rfl))) (ty := (.array .byte)) (by decide)
  have f4 : Fld Z h1 b1 "com/example/wellform/wellform/cli/ByteBatch" "size" "I" (.int (0 : Int32)) := D1 (Or.inl (hw _ (List.mem_of_getElem? (i := 22) rfl))) (ty := .int) (by decide)
  obtain ⟨_, _, ⟨T5, L5, k5, n5⟩, -, X5, ⟨Lc5, hQ5, l5, y5, z5⟩, st5⟩ := X1.specialBack hx (y := (⟨"com/example/wellform/wellform/cli/ByteBatch", "<init>", "(I)V"⟩ : MethodName)) rfl hown (mvT hZ (hw _ (List.mem_of_getElem? (i := 3) rfl))) (mvT hZ (hw _ (List.mem_of_getElem? (i := 4) rfl))) (mvT hZ (hw _ (List.mem_of_getElem? (i := 5) rfl))) (by decide) (backOf (W := 1) (rm_init l Z a0 hw [] b1 (p1 &&& (3 : Int32)) h1 n0 Zs2 A1 f3 g_b1 f4 hp1 hp2) hZ (hw _ (List.mem_of_getElem? (i := 5) rfl)) (hw _ (List.mem_of_getElem? (i := 2) rfl)) (by decide) (by decide)) (g := (mkF m 17 #[.val (.int p1), .val (.int p2), .val (.int p3), .val (.int p4), .val (.int (p1 &&& (3 : Int32))), .val (.int (3 : Int32)), .unset, .unset] [(.int (p1 &&& (3 : Int32))), (.ref b1), (.ref b1)])) rfl (by rw [hml]; rfl) (Steps.refl _) (a := b1) (argsL := [(.int (p1 &&& (3 : Int32)))]) (rest := [(.ref b1)]) (lenOf pd_2 rfl) rfl (by show 2 * 0 + _ ≤ _; exact Nat.le_of_eq rfl) (hb hby at_17) (fun _ _ => ⟨rfl, e1, (by decide : 1 + 1 ≤ _), (by decide : 2 + 3 ≤ _)⟩)
  dsimp only [Pt.U, Pt.locs, Pt.cells, Pt.slots] at X5 l5 y5 z5 st5 hQ5
  subst l5 y5 z5
  obtain ⟨b5_1, k5_2, rfl, Nq5, g_b5_1, szq_b5_1, Kc5, fq5_0, fq5_1, fq5_2, fq5_3, fq5_4⟩ := hQ5
  have ne_b1_b5_1 : b1 ≠ b5_1 := Nat.ne_of_lt (Nat.lt_of_lt_of_le A1.lt szq_b5_1)
  have f7 : Fld Z T5.heap b1 "com/example/wellform/wellform/cli/ByteBatch" "bytes" "[B" (.ref b5_1) := fq5_1
  have f8 : Fld Z T5.heap b1 "com/example/wellform/wellform/cli/ByteBatch" "size" "I" (.int (0 : Int32)) := fq5_2
  have f9 : Arv Z T5.heap b5_1 k5_2 .byte (p1 &&& (3 : Int32)) (List.replicate 16 (Value.int (0 : Int32))) (.int (0 : Int32)) := fq5_4
  have Zs10 : n0 ≤ T5.heap.size := Nat.le_trans Zs2 Kc5.1
  have N6 := Fr.app N0 Nq5
  obtain ⟨cq11, kq11, q11a, q11b, q11c⟩ := isOf hZ rfl fq5_0
  obtain ⟨_, _, ⟨T11, L11, k11, n11⟩, -, X11, ⟨Lc11, hQ11, l11, y11, z11⟩, st11⟩ := X5.virtualBack hx (y := (⟨"com/example/wellform/wellform/cli/ByteBatch", "append", "(B)Lcom/example/wellform/wellform/cli/ByteBatch;"⟩ : MethodName)) (z := (⟨"com/example/wellform/wellform/cli/ByteBatch", "append", "(B)Lcom/example/wellform/wellform/cli/ByteBatch;"⟩ : MethodName)) hown (mvT hZ (hw _ (List.mem_of_getElem? (i := 12) rfl))) (mvT hZ (hw _ (List.mem_of_getElem? (i := 13) rfl))) (notFace_of_selects (args := #[]) (mvT hZ (hw _ (List.mem_of_getElem? (i := 15) rfl)))) (mvT hZ (hw _ (List.mem_of_getElem? (i := 15) rfl))) (mvT hZ (hw _ (List.mem_of_getElem? (i := 14) rfl))) (by decide) (backOf (W := 0) (rm_append l Z a0 hw [] b1 (p3.toInt8.toInt32) b5_1 k5_2 (p1 &&& (3 : Int32)) (List.replicate 16 (Value.int (0 : Int32))) (0 : Int32) T5.heap n0 Zs10 f7 fq5_3 f9 f8 fq5_0 g_b1 g_b5_1 hp3 (by decide)) hZ (hw _ (List.mem_of_getElem? (i := 16) rfl)) (hw _ (List.mem_of_getElem? (i := 2) rfl)) (by decide) (by decide)) q11a q11c (g := (mkF m 39 #[.val (.int p1), .val (.int p2), .val (.int p3), .val (.int p4), .val (.int (p1 &&& (3 : Int32))), .val (.int (3 : Int32)), .val (.ref b1), .val (.int (1 : Int32))] [(.int (p3.toInt8.toInt32)), (.ref b1)])) rfl (by rw [hml]; rfl) (Steps.refl _) (argsL := [(.int (p3.toInt8.toInt32))]) (rest := []) (lenOf pd_4 rfl) rfl (by show 2 * 0 + _ ≤ _; exact Nat.le_of_eq rfl) (hb hby at_39) (fun _ _ => ⟨rfl, rfl, (by decide : 2 + 1 ≤ _), (by decide : 5 + 14 ≤ _)⟩)
  dsimp only [Pt.U, Pt.locs, Pt.cells, Pt.slots] at X11 l11 y11 z11 st11 hQ11
  subst l11 y11 z11
  obtain ⟨b11_1, k11_2, i11_3, us11_4, rfl, Nq11, g_b11_1, hq11_0, Kc11, fq11_0, fq11_1, fq11_2, fq11_3, fq11_4⟩ := hQ11
  have f13 : Exa Z T11.heap b5_1 "[B" := fq5_3.keep Kc11
  have f14 : Fld Z T11.heap b1 "com/example/wellform/wellform/cli/ByteBatch" "bytes" "[B" (.ref b11_1) := fq11_1
  have f15 : Fld Z T11.heap b1 "com/example/wellform/wellform/cli/ByteBatch" "size" "I" (.int (1 : Int32)) := fq11_2
  have f16 : Arv Z T11.heap b11_1 k11_2 .byte i11_3 us11_4 (.int (0 : Int32)) := fq11_4
  have Zs17 : n0 ≤ T11.heap.size := Nat.le_trans Zs10 Kc11.1
  have N12 := Fr.app N6 Nq11
  obtain ⟨cq18, kq18, q18a, q18b, q18c⟩ := isOf hZ rfl fq11_0
  obtain ⟨_, _, ⟨T18, L18, k18, n18⟩, -, X18, ⟨Lc18, hQ18, l18, y18, z18⟩, st18⟩ := X11.virtualBack hx (y := (⟨"com/example/wellform/wellform/cli/ByteBatch", "append", "(B)Lcom/example/wellform/wellform/cli/ByteBatch;"⟩ : MethodName)) (z := (⟨"com/example/wellform/wellform/cli/ByteBatch", "append", "(B)Lcom/example/wellform/wellform/cli/ByteBatch;"⟩ : MethodName)) hown (mvT hZ (hw _ (List.mem_of_getElem? (i := 12) rfl))) (mvT hZ (hw _ (List.mem_of_getElem? (i := 13) rfl))) (notFace_of_selects (args := #[]) (mvT hZ (hw _ (List.mem_of_getElem? (i := 15) rfl)))) (mvT hZ (hw _ (List.mem_of_getElem? (i := 15) rfl))) (mvT hZ (hw _ (List.mem_of_getElem? (i := 14) rfl))) (by decide) (backOf (W := 0) (rm_append l Z a0 hw [] b1 (((p3.toUInt32 >>> ((8 : Int32) &&& 31).toUInt32).toInt32).toInt8.toInt32) b11_1 k11_2 i11_3 us11_4 (1 : Int32) T11.heap n0 Zs17 f14 fq11_3 f16 f15 fq11_0 g_b1 g_b11_1 hq11_0 (by decide)) hZ (hw _ (List.mem_of_getElem? (i := 16) rfl)) (hw _ (List.mem_of_getElem? (i := 2) rfl)) (by decide) (by decide)) q18a q18c (g := (mkF m 72 #[.val (.int p1), .val (.int p2), .val (.int p3), .val (.int p4), .val (.int (p1 &&& (3 : Int32))), .val (.int (3 : Int32)), .val (.ref b1), .val (.int (1 : Int32))] [(.int (((p3.toUInt32 >>> ((8 : Int32) &&& 31).toUInt32).toInt32).toInt8.toInt32)), (.ref b1)])) rfl (by rw [hml]; rfl) (Steps.refl _) (argsL := [(.int (((p3.toUInt32 >>> ((8 : Int32) &&& 31).toUInt32).toInt32).toInt8.toInt32))]) (rest := []) (lenOf pd_4 rfl) rfl (by show 2 * 0 + _ ≤ _; exact Nat.le_of_eq rfl) (hb hby at_72) (fun _ _ => ⟨rfl, rfl, (by decide : 3 + 1 ≤ _), (by decide : 19 + 14 ≤ _)⟩)
  dsimp only [Pt.U, Pt.locs, Pt.cells, Pt.slots] at X18 l18 y18 z18 st18 hQ18
  subst l18 y18 z18
  obtain ⟨b18_1, k18_2, i18_3, us18_4, rfl, Nq18, g_b18_1, hq18_0, Kc18, fq18_0, fq18_1, fq18_2, fq18_3, fq18_4⟩ := hQ18
  have ne_b1_b11_1 : b1 ≠ b11_1 := ne_exa fq11_0 fq11_3 (by decide)
  have f20 : Exa Z T18.heap b5_1 "[B" := f13.keep Kc18
  have f21 : Exa Z T18.heap b11_1 "[B" := fq11_3.keep Kc18
  have f22 : Fld Z T18.heap b1 "com/example/wellform/wellform/cli/ByteBatch" "bytes" "[B" (.ref b18_1) := fq18_1
  have f23 : Fld Z T18.heap b1 "com/example/wellform/wellform/cli/ByteBatch" "size" "I" (.int (2 : Int32)) := fq18_2
  have f24 : Arv Z T18.heap b18_1 k18_2 .byte i18_3 us18_4 (.int (0 : Int32)) := fq18_4
  have Zs25 : n0 ≤ T18.heap.size := Nat.le_trans Zs17 Kc18.1
  have N19 := Fr.app N12 Nq18
  obtain ⟨cq26, kq26, q26a, q26b, q26c⟩ := isOf hZ rfl fq18_0
  obtain ⟨_, _, ⟨T26, L26, k26, n26⟩, -, X26, ⟨Lc26, hQ26, l26, y26, z26⟩, st26⟩ := X18.virtualBack hx (y := (⟨"com/example/wellform/wellform/cli/ByteBatch", "append", "(B)Lcom/example/wellform/wellform/cli/ByteBatch;"⟩ : MethodName)) (z := (⟨"com/example/wellform/wellform/cli/ByteBatch", "append", "(B)Lcom/example/wellform/wellform/cli/ByteBatch;"⟩ : MethodName)) hown (mvT hZ (hw _ (List.mem_of_getElem? (i := 12) rfl))) (mvT hZ (hw _ (List.mem_of_getElem? (i := 13) rfl))) (notFace_of_selects (args := #[]) (mvT hZ (hw _ (List.mem_of_getElem? (i := 15) rfl)))) (mvT hZ (hw _ (List.mem_of_getElem? (i := 15) rfl))) (mvT hZ (hw _ (List.mem_of_getElem? (i := 14) rfl))) (by decide) (backOf (W := 0) (rm_append l Z a0 hw [] b1 (((p3.toUInt32 >>> ((16 : Int32) &&& 31).toUInt32).toInt32).toInt8.toInt32) b18_1 k18_2 i18_3 us18_4 (2 : Int32) T18.heap n0 Zs25 f22 fq18_3 f24 f23 fq18_0 g_b1 g_b18_1 hq18_0 (by decide)) hZ (hw _ (List.mem_of_getElem? (i := 16) rfl)) (hw _ (List.mem_of_getElem? (i := 2) rfl)) (by decide) (by decide)) q26a q26c (g := (mkF m 105 #[.val (.int p1), .val (.int p2), .val (.int p3), .val (.int p4), .val (.int (p1 &&& (3 : Int32))), .val (.int (3 : Int32)), .val (.ref b1), .val (.int (1 : Int32))] [(.int (((p3.toUInt32 >>> ((16 : Int32) &&& 31).toUInt32).toInt32).toInt8.toInt32)), (.ref b1)])) rfl (by rw [hml]; rfl) (Steps.refl _) (argsL := [(.int (((p3.toUInt32 >>> ((16 : Int32) &&& 31).toUInt32).toInt32).toInt8.toInt32))]) (rest := []) (lenOf pd_4 rfl) rfl (by show 2 * 0 + _ ≤ _; exact Nat.le_of_eq rfl) (hb hby at_105) (fun _ _ => ⟨rfl, rfl, (by decide : 4 + 1 ≤ _), (by decide : 33 + 14 ≤ _)⟩)
  dsimp only [Pt.U, Pt.locs, Pt.cells, Pt.slots] at X26 l26 y26 z26 st26 hQ26
  subst l26 y26 z26
  obtain ⟨b26_1, k26_2, i26_3, us26_4, rfl, Nq26, g_b26_1, hq26_0, Kc26, fq26_0, fq26_1, fq26_2, fq26_3, fq26_4⟩ := hQ26
  have ne_b1_b18_1 : b1 ≠ b18_1 := ne_exa fq18_0 fq18_3 (by decide)
  have f28 : Exa Z T26.heap b5_1 "[B" := f20.keep Kc26
  have f29 : Exa Z T26.heap b11_1 "[B" := f21.keep Kc26
  have f30 : Exa Z T26.heap b18_1 "[B" := fq18_3.keep Kc26
  have f31 : Fld Z T26.heap b1 "com/example/wellform/wellform/cli/ByteBatch" "bytes" "[B" (.ref b26_1) := fq26_1
  have f32 : Fld Z T26.heap b1 "com/example/wellform/wellform/cli/ByteBatch" "size" "I" (.int (3 : Int32)) := fq26_2
  have f33 : Arv Z T26.heap b26_1 k26_2 .byte i26_3 us26_4 (.int (0 : Int32)) := fq26_4
  have Zs34 : n0 ≤ T26.heap.size := Nat.le_trans Zs25 Kc26.1
  have N27 := Fr.app N19 Nq26
  obtain ⟨cq35, kq35, q35a, q35b, q35c⟩ := isOf hZ rfl fq26_0
  obtain ⟨_, _, ⟨T35, L35, k35, n35⟩, -, X35, ⟨Lc35, hQ35, l35, y35, z35⟩, st35⟩ := X26.virtualBack hx (y := (⟨"com/example/wellform/wellform/cli/ByteBatch", "size", "()I"⟩ : MethodName)) (z := (⟨"com/example/wellform/wellform/cli/ByteBatch", "size", "()I"⟩ : MethodName)) hown (mvT hZ (hw _ (List.mem_of_getElem? (i := 38) rfl))) (mvT hZ (hw _ (List.mem_of_getElem? (i := 39) rfl))) (notFace_of_selects (args := #[]) (mvT hZ (hw _ (List.mem_of_getElem? (i := 41) rfl)))) (mvT hZ (hw _ (List.mem_of_getElem? (i := 41) rfl))) (mvT hZ (hw _ (List.mem_of_getElem? (i := 40) rfl))) (by decide) (backOf (W := 0) (rm_size l Z a0 hw [] b1 (3 : Int32) T26.heap n0 Zs34 f32) hZ (hw _ (List.mem_of_getElem? (i := 42) rfl)) (hw _ (List.mem_of_getElem? (i := 2) rfl)) (by decide) (by decide)) q35a q35c (g := (mkF m 257 #[.val (.int p1), .val (.int p2), .val (.int p3), .val (.int p4), .val (.int (p1 &&& (3 : Int32))), .val (.int (3 : Int32)), .val (.ref b1), .val (.int (1 : Int32))] [(.ref b1)])) rfl (by rw [hml]; rfl) (Steps.refl _) (argsL := []) (rest := []) (lenOf pd_3 rfl) rfl (by show 2 * 0 + _ ≤ _; exact Nat.le_of_eq rfl) (hb hby at_257) (fun _ _ => ⟨rfl, rfl, (by decide : 5 + 0 ≤ _), (by decide : 47 + 0 ≤ _)⟩)
  dsimp only [Pt.U, Pt.locs, Pt.cells, Pt.slots] at X35 l35 y35 z35 st35 hQ35
  subst l35 y35 z35
  obtain ⟨rfl, Nq35, e35⟩ := hQ35
  have N36 := Fr.app N27 Nq35
  obtain ⟨fs, hr, hrun, hended, hW, hsame⟩ := X35.leave (v := some (.int (1 : Int32))) (fun h => by rw [Bd.returns] at h; cases h) Bd.notSynchronized
  refine ⟨_, _, pre0 _ ?_, hrun, hended, _, _, rfl, ?_, ⟨_, rfl⟩, hW, hsame.mono (by decide) (by decide)⟩
  · show Steps p.tables e below (s₁.setTop (mkF m 0 #[.val (.int p1), .val (.int p2), .val (.int p3), .val (.int p4), .unset, .unset, .unset, .unset] [])) _
    refine XS.iloadN X0.here hx rfl (hb hby at_0) rfl ?_
    show Steps p.tables e below (s₁.setTop (mkF m 1 #[.val (.int p1), .val (.int p2), .val (.int p3), .val (.int p4), .unset, .unset, .unset, .unset] [(.int p1)])) _
    refine XS.iconst X0.here hx rfl (hb hby at_1) ?_
    show Steps p.tables e below (s₁.setTop (mkF m 2 #[.val (.int p1), .val (.int p2), .val (.int p3), .val (.int p4), .unset, .unset, .unset, .unset] [(.int (3 : Int32)), (.int p1)])) _
    refine XS.iand X0.here hx rfl (hb hby at_2) rfl ?_
    show Steps p.tables e below (s₁.setTop (mkF m 3 #[.val (.int p1), .val (.int p2), .val (.int p3), .val (.int p4), .unset, .unset, .unset, .unset] [(.int (p1 &&& (3 : Int32)))])) _
    refine XS.istore X0.here hx rfl (hb hby at_3) rfl (l' := #[.val (.int p1), .val (.int p2), .val (.int p3), .val (.int p4), .val (.int (p1 &&& (3 : Int32))), .unset, .unset, .unset]) rfl ?_
    show Steps p.tables e below (s₁.setTop (mkF m 5 #[.val (.int p1), .val (.int p2), .val (.int p3), .val (.int p4), .val (.int (p1 &&& (3 : Int32))), .unset, .unset, .unset] [])) _
    refine XS.iloadN X0.here hx rfl (hb hby at_5) rfl ?_
    show Steps p.tables e below (s₁.setTop (mkF m 6 #[.val (.int p1), .val (.int p2), .val (.int p3), .val (.int p4), .val (.int (p1 &&& (3 : Int32))), .unset, .unset, .unset] [(.int p2)])) _
    refine XS.bipush X0.here hx rfl (hb hby at_6) ?_
    show Steps p.tables e below (s₁.setTop (mkF m 8 #[.val (.int p1), .val (.int p2), .val (.int p3), .val (.int p4), .val (.int (p1 &&& (3 : Int32))), .unset, .unset, .unset] [(.int (7 : Int32)), (.int p2)])) _
    refine XS.iand X0.here hx rfl (hb hby at_8) rfl ?_
    show Steps p.tables e below (s₁.setTop (mkF m 9 #[.val (.int p1), .val (.int p2), .val (.int p3), .val (.int p4), .val (.int (p1 &&& (3 : Int32))), .unset, .unset, .unset] [(.int (p2 &&& (7 : Int32)))])) _
    refine XS.istore X0.here hx rfl (hb hby at_9) rfl (l' := #[.val (.int p1), .val (.int p2), .val (.int p3), .val (.int p4), .val (.int (p1 &&& (3 : Int32))), .val (.int (p2 &&& (7 : Int32))), .unset, .unset]) rfl ?_
    show Steps p.tables e below (s₁.setTop (mkF m 11 #[.val (.int p1), .val (.int p2), .val (.int p3), .val (.int p4), .val (.int (p1 &&& (3 : Int32))), .val (.int (p2 &&& (7 : Int32))), .unset, .unset] [])) _
    rw [hw_0]
    show Steps p.tables e below (s₁.setTop (mkF m 11 #[.val (.int p1), .val (.int p2), .val (.int p3), .val (.int p4), .val (.int (p1 &&& (3 : Int32))), .val (.int (3 : Int32)), .unset, .unset] [])) _
    refine st1 _ ?_
    show Steps p.tables e below (T1.setTop (mkF m 14 #[.val (.int p1), .val (.int p2), .val (.int p3), .val (.int p4), .val (.int (p1 &&& (3 : Int32))), .val (.int (3 : Int32)), .unset, .unset] [(.ref b1)])) _
    refine XS.dup X1.here hx rfl (hb hby at_14) rfl rfl ?_
    show Steps p.tables e below (T1.setTop (mkF m 15 #[.val (.int p1), .val (.int p2), .val (.int p3), .val (.int p4), .val (.int (p1 &&& (3 : Int32))), .val (.int (3 : Int32)), .unset, .unset] [(.ref b1), (.ref b1)])) _
    refine XS.iload X1.here hx rfl (hb hby at_15) rfl ?_
    show Steps p.tables e below (T1.setTop (mkF m 17 #[.val (.int p1), .val (.int p2), .val (.int p3), .val (.int p4), .val (.int (p1 &&& (3 : Int32))), .val (.int (3 : Int32)), .unset, .unset] [(.int (p1 &&& (3 : Int32))), (.ref b1), (.ref b1)])) _
    refine st5.trans ?_
    show Steps p.tables e below (T5.setTop (mkF m 20 #[.val (.int p1), .val (.int p2), .val (.int p3), .val (.int p4), .val (.int (p1 &&& (3 : Int32))), .val (.int (3 : Int32)), .unset, .unset] [(.ref b1)])) _
    refine XS.astore X5.here hx rfl (hb hby at_20) rfl rfl (l' := #[.val (.int p1), .val (.int p2), .val (.int p3), .val (.int p4), .val (.int (p1 &&& (3 : Int32))), .val (.int (3 : Int32)), .val (.ref b1), .unset]) rfl ?_
    show Steps p.tables e below (T5.setTop (mkF m 22 #[.val (.int p1), .val (.int p2), .val (.int p3), .val (.int p4), .val (.int (p1 &&& (3 : Int32))), .val (.int (3 : Int32)), .val (.ref b1), .unset] [])) _
    refine XS.iconst X5.here hx rfl (hb hby at_22) ?_
    show Steps p.tables e below (T5.setTop (mkF m 23 #[.val (.int p1), .val (.int p2), .val (.int p3), .val (.int p4), .val (.int (p1 &&& (3 : Int32))), .val (.int (3 : Int32)), .val (.ref b1), .unset] [(.int (1 : Int32))])) _
    refine XS.istore X5.here hx rfl (hb hby at_23) rfl (l' := #[.val (.int p1), .val (.int p2), .val (.int p3), .val (.int p4), .val (.int (p1 &&& (3 : Int32))), .val (.int (3 : Int32)), .val (.ref b1), .val (.int (1 : Int32))]) rfl ?_
    show Steps p.tables e below (T5.setTop (mkF m 25 #[.val (.int p1), .val (.int p2), .val (.int p3), .val (.int p4), .val (.int (p1 &&& (3 : Int32))), .val (.int (3 : Int32)), .val (.ref b1), .val (.int (1 : Int32))] [])) _
    refine XS.iload X5.here hx rfl (hb hby at_25) rfl ?_
    show Steps p.tables e below (T5.setTop (mkF m 27 #[.val (.int p1), .val (.int p2), .val (.int p3), .val (.int p4), .val (.int (p1 &&& (3 : Int32))), .val (.int (3 : Int32)), .val (.ref b1), .val (.int (1 : Int32))] [(.int (3 : Int32))])) _
    refine XS.ifNo X5.here hx rfl (hb hby at_27) rfl ((if0 _ _).trans (tlt (by decide : (0 : Int32) < (3 : Int32))).2.2.2) ?_
    show Steps p.tables e below (T5.setTop (mkF m 30 #[.val (.int p1), .val (.int p2), .val (.int p3), .val (.int p4), .val (.int (p1 &&& (3 : Int32))), .val (.int (3 : Int32)), .val (.ref b1), .val (.int (1 : Int32))] [])) _
    refine XS.iload X5.here hx rfl (hb hby at_30) rfl ?_
    show Steps p.tables e below (T5.setTop (mkF m 32 #[.val (.int p1), .val (.int p2), .val (.int p3), .val (.int p4), .val (.int (p1 &&& (3 : Int32))), .val (.int (3 : Int32)), .val (.ref b1), .val (.int (1 : Int32))] [(.int (1 : Int32))])) _
    refine XS.ifNo X5.here hx rfl (hb hby at_32) rfl ((if0 _ _).trans (feq (by decide : ¬ ((1 : Int32) = (0 : Int32)))).1) ?_
    show Steps p.tables e below (T5.setTop (mkF m 35 #[.val (.int p1), .val (.int p2), .val (.int p3), .val (.int p4), .val (.int (p1 &&& (3 : Int32))), .val (.int (3 : Int32)), .val (.ref b1), .val (.int (1 : Int32))] [])) _
    refine XS.aload X5.here hx rfl (hb hby at_35) rfl rfl ?_
    show Steps p.tables e below (T5.setTop (mkF m 37 #[.val (.int p1), .val (.int p2), .val (.int p3), .val (.int p4), .val (.int (p1 &&& (3 : Int32))), .val (.int (3 : Int32)), .val (.ref b1), .val (.int (1 : Int32))] [(.ref b1)])) _
    refine XS.iloadN X5.here hx rfl (hb hby at_37) rfl ?_
    show Steps p.tables e below (T5.setTop (mkF m 38 #[.val (.int p1), .val (.int p2), .val (.int p3), .val (.int p4), .val (.int (p1 &&& (3 : Int32))), .val (.int (3 : Int32)), .val (.ref b1), .val (.int (1 : Int32))] [(.int p3), (.ref b1)])) _
    refine XS.i2b X5.here hx rfl (hb hby at_38) rfl ?_
    show Steps p.tables e below (T5.setTop (mkF m 39 #[.val (.int p1), .val (.int p2), .val (.int p3), .val (.int p4), .val (.int (p1 &&& (3 : Int32))), .val (.int (3 : Int32)), .val (.ref b1), .val (.int (1 : Int32))] [(.int (p3.toInt8.toInt32)), (.ref b1)])) _
    refine st11.trans ?_
    show Steps p.tables e below (T11.setTop (mkF m 42 #[.val (.int p1), .val (.int p2), .val (.int p3), .val (.int p4), .val (.int (p1 &&& (3 : Int32))), .val (.int (3 : Int32)), .val (.ref b1), .val (.int (1 : Int32))] [(.ref b1)])) _
    refine XS.aload X11.here hx rfl (hb hby at_42) rfl rfl ?_
    show Steps p.tables e below (T11.setTop (mkF m 44 #[.val (.int p1), .val (.int p2), .val (.int p3), .val (.int p4), .val (.int (p1 &&& (3 : Int32))), .val (.int (3 : Int32)), .val (.ref b1), .val (.int (1 : Int32))] [(.ref b1), (.ref b1)])) _
    refine Jvm.RoadKit.acmp (g := (mkF m 44 #[.val (.int p1), .val (.int p2), .val (.int p3), .val (.int p4), .val (.int (p1 &&& (3 : Int32))), .val (.int (3 : Int32)), .val (.ref b1), .val (.int (1 : Int32))] [(.ref b1), (.ref b1)])) X11 hx rfl rfl rfl (pc0 := 44) (pc' := 47) (same := true) rfl (hb hby at_44) rfl (decide_eq_true rfl) (by decide) (by decide) ?_
    show Steps p.tables e below (T11.setTop (mkF m 47 #[.val (.int p1), .val (.int p2), .val (.int p3), .val (.int p4), .val (.int (p1 &&& (3 : Int32))), .val (.int (3 : Int32)), .val (.ref b1), .val (.int (1 : Int32))] [])) _
    refine XS.iconst X11.here hx rfl (hb hby at_47) ?_
    show Steps p.tables e below (T11.setTop (mkF m 48 #[.val (.int p1), .val (.int p2), .val (.int p3), .val (.int p4), .val (.int (p1 &&& (3 : Int32))), .val (.int (3 : Int32)), .val (.ref b1), .val (.int (1 : Int32))] [(.int (1 : Int32))])) _
    refine XS.goto X11.here hx rfl (pc0 := 48) (pc' := 52) rfl (hb hby at_48) (by decide) (by decide) ?_
    show Steps p.tables e below (T11.setTop (mkF m 52 #[.val (.int p1), .val (.int p2), .val (.int p3), .val (.int p4), .val (.int (p1 &&& (3 : Int32))), .val (.int (3 : Int32)), .val (.ref b1), .val (.int (1 : Int32))] [(.int (1 : Int32))])) _
    refine XS.istore X11.here hx rfl (hb hby at_52) rfl (l' := #[.val (.int p1), .val (.int p2), .val (.int p3), .val (.int p4), .val (.int (p1 &&& (3 : Int32))), .val (.int (3 : Int32)), .val (.ref b1), .val (.int (1 : Int32))]) rfl ?_
    show Steps p.tables e below (T11.setTop (mkF m 54 #[.val (.int p1), .val (.int p2), .val (.int p3), .val (.int p4), .val (.int (p1 &&& (3 : Int32))), .val (.int (3 : Int32)), .val (.ref b1), .val (.int (1 : Int32))] [])) _
    refine XS.iload X11.here hx rfl (hb hby at_54) rfl ?_
    show Steps p.tables e below (T11.setTop (mkF m 56 #[.val (.int p1), .val (.int p2), .val (.int p3), .val (.int p4), .val (.int (p1 &&& (3 : Int32))), .val (.int (3 : Int32)), .val (.ref b1), .val (.int (1 : Int32))] [(.int (3 : Int32))])) _
    refine XS.iconst X11.here hx rfl (hb hby at_56) ?_
    show Steps p.tables e below (T11.setTop (mkF m 57 #[.val (.int p1), .val (.int p2), .val (.int p3), .val (.int p4), .val (.int (p1 &&& (3 : Int32))), .val (.int (3 : Int32)), .val (.ref b1), .val (.int (1 : Int32))] [(.int (1 : Int32)), (.int (3 : Int32))])) _
    refine XS.icmpNo X11.here hx rfl (hb hby at_57) rfl (tlt (by decide : (1 : Int32) < (3 : Int32))).2.2.2 ?_
    show Steps p.tables e below (T11.setTop (mkF m 60 #[.val (.int p1), .val (.int p2), .val (.int p3), .val (.int p4), .val (.int (p1 &&& (3 : Int32))), .val (.int (3 : Int32)), .val (.ref b1), .val (.int (1 : Int32))] [])) _
    refine XS.iload X11.here hx rfl (hb hby at_60) rfl ?_
    show Steps p.tables e below (T11.setTop (mkF m 62 #[.val (.int p1), .val (.int p2), .val (.int p3), .val (.int p4), .val (.int (p1 &&& (3 : Int32))), .val (.int (3 : Int32)), .val (.ref b1), .val (.int (1 : Int32))] [(.int (1 : Int32))])) _
    refine XS.ifNo X11.here hx rfl (hb hby at_62) rfl ((if0 _ _).trans (feq (by decide : ¬ ((1 : Int32) = (0 : Int32)))).1) ?_
    show Steps p.tables e below (T11.setTop (mkF m 65 #[.val (.int p1), .val (.int p2), .val (.int p3), .val (.int p4), .val (.int (p1 &&& (3 : Int32))), .val (.int (3 : Int32)), .val (.ref b1), .val (.int (1 : Int32))] [])) _
    refine XS.aload X11.here hx rfl (hb hby at_65) rfl rfl ?_
    show Steps p.tables e below (T11.setTop (mkF m 67 #[.val (.int p1), .val (.int p2), .val (.int p3), .val (.int p4), .val (.int (p1 &&& (3 : Int32))), .val (.int (3 : Int32)), .val (.ref b1), .val (.int (1 : Int32))] [(.ref b1)])) _
    refine XS.iloadN X11.here hx rfl (hb hby at_67) rfl ?_
    show Steps p.tables e below (T11.setTop (mkF m 68 #[.val (.int p1), .val (.int p2), .val (.int p3), .val (.int p4), .val (.int (p1 &&& (3 : Int32))), .val (.int (3 : Int32)), .val (.ref b1), .val (.int (1 : Int32))] [(.int p3), (.ref b1)])) _
    refine XS.bipush X11.here hx rfl (hb hby at_68) ?_
    show Steps p.tables e below (T11.setTop (mkF m 70 #[.val (.int p1), .val (.int p2), .val (.int p3), .val (.int p4), .val (.int (p1 &&& (3 : Int32))), .val (.int (3 : Int32)), .val (.ref b1), .val (.int (1 : Int32))] [(.int (8 : Int32)), (.int p3), (.ref b1)])) _
    refine XS.iushr X11.here hx rfl (hb hby at_70) rfl ?_
    show Steps p.tables e below (T11.setTop (mkF m 71 #[.val (.int p1), .val (.int p2), .val (.int p3), .val (.int p4), .val (.int (p1 &&& (3 : Int32))), .val (.int (3 : Int32)), .val (.ref b1), .val (.int (1 : Int32))] [(.int ((p3.toUInt32 >>> ((8 : Int32) &&& 31).toUInt32).toInt32)), (.ref b1)])) _
    refine XS.i2b X11.here hx rfl (hb hby at_71) rfl ?_
    show Steps p.tables e below (T11.setTop (mkF m 72 #[.val (.int p1), .val (.int p2), .val (.int p3), .val (.int p4), .val (.int (p1 &&& (3 : Int32))), .val (.int (3 : Int32)), .val (.ref b1), .val (.int (1 : Int32))] [(.int (((p3.toUInt32 >>> ((8 : Int32) &&& 31).toUInt32).toInt32).toInt8.toInt32)), (.ref b1)])) _
    refine st18.trans ?_
    show Steps p.tables e below (T18.setTop (mkF m 75 #[.val (.int p1), .val (.int p2), .val (.int p3), .val (.int p4), .val (.int (p1 &&& (3 : Int32))), .val (.int (3 : Int32)), .val (.ref b1), .val (.int (1 : Int32))] [(.ref b1)])) _
    refine XS.aload X18.here hx rfl (hb hby at_75) rfl rfl ?_
    show Steps p.tables e below (T18.setTop (mkF m 77 #[.val (.int p1), .val (.int p2), .val (.int p3), .val (.int p4), .val (.int (p1 &&& (3 : Int32))), .val (.int (3 : Int32)), .val (.ref b1), .val (.int (1 : Int32))] [(.ref b1), (.ref b1)])) _
    refine Jvm.RoadKit.acmp (g := (mkF m 77 #[.val (.int p1), .val (.int p2), .val (.int p3), .val (.int p4), .val (.int (p1 &&& (3 : Int32))), .val (.int (3 : Int32)), .val (.ref b1), .val (.int (1 : Int32))] [(.ref b1), (.ref b1)])) X18 hx rfl rfl rfl (pc0 := 77) (pc' := 80) (same := true) rfl (hb hby at_77) rfl (decide_eq_true rfl) (by decide) (by decide) ?_
    show Steps p.tables e below (T18.setTop (mkF m 80 #[.val (.int p1), .val (.int p2), .val (.int p3), .val (.int p4), .val (.int (p1 &&& (3 : Int32))), .val (.int (3 : Int32)), .val (.ref b1), .val (.int (1 : Int32))] [])) _
    refine XS.iconst X18.here hx rfl (hb hby at_80) ?_
    show Steps p.tables e below (T18.setTop (mkF m 81 #[.val (.int p1), .val (.int p2), .val (.int p3), .val (.int p4), .val (.int (p1 &&& (3 : Int32))), .val (.int (3 : Int32)), .val (.ref b1), .val (.int (1 : Int32))] [(.int (1 : Int32))])) _
    refine XS.goto X18.here hx rfl (pc0 := 81) (pc' := 85) rfl (hb hby at_81) (by decide) (by decide) ?_
    show Steps p.tables e below (T18.setTop (mkF m 85 #[.val (.int p1), .val (.int p2), .val (.int p3), .val (.int p4), .val (.int (p1 &&& (3 : Int32))), .val (.int (3 : Int32)), .val (.ref b1), .val (.int (1 : Int32))] [(.int (1 : Int32))])) _
    refine XS.istore X18.here hx rfl (hb hby at_85) rfl (l' := #[.val (.int p1), .val (.int p2), .val (.int p3), .val (.int p4), .val (.int (p1 &&& (3 : Int32))), .val (.int (3 : Int32)), .val (.ref b1), .val (.int (1 : Int32))]) rfl ?_
    show Steps p.tables e below (T18.setTop (mkF m 87 #[.val (.int p1), .val (.int p2), .val (.int p3), .val (.int p4), .val (.int (p1 &&& (3 : Int32))), .val (.int (3 : Int32)), .val (.ref b1), .val (.int (1 : Int32))] [])) _
    refine XS.iload X18.here hx rfl (hb hby at_87) rfl ?_
    show Steps p.tables e below (T18.setTop (mkF m 89 #[.val (.int p1), .val (.int p2), .val (.int p3), .val (.int p4), .val (.int (p1 &&& (3 : Int32))), .val (.int (3 : Int32)), .val (.ref b1), .val (.int (1 : Int32))] [(.int (3 : Int32))])) _
    refine XS.iconst X18.here hx rfl (hb hby at_89) ?_
    show Steps p.tables e below (T18.setTop (mkF m 90 #[.val (.int p1), .val (.int p2), .val (.int p3), .val (.int p4), .val (.int (p1 &&& (3 : Int32))), .val (.int (3 : Int32)), .val (.ref b1), .val (.int (1 : Int32))] [(.int (2 : Int32)), (.int (3 : Int32))])) _
    refine XS.icmpNo X18.here hx rfl (hb hby at_90) rfl (tlt (by decide : (2 : Int32) < (3 : Int32))).2.2.2 ?_
    show Steps p.tables e below (T18.setTop (mkF m 93 #[.val (.int p1), .val (.int p2), .val (.int p3), .val (.int p4), .val (.int (p1 &&& (3 : Int32))), .val (.int (3 : Int32)), .val (.ref b1), .val (.int (1 : Int32))] [])) _
    refine XS.iload X18.here hx rfl (hb hby at_93) rfl ?_
    show Steps p.tables e below (T18.setTop (mkF m 95 #[.val (.int p1), .val (.int p2), .val (.int p3), .val (.int p4), .val (.int (p1 &&& (3 : Int32))), .val (.int (3 : Int32)), .val (.ref b1), .val (.int (1 : Int32))] [(.int (1 : Int32))])) _
    refine XS.ifNo X18.here hx rfl (hb hby at_95) rfl ((if0 _ _).trans (feq (by decide : ¬ ((1 : Int32) = (0 : Int32)))).1) ?_
    show Steps p.tables e below (T18.setTop (mkF m 98 #[.val (.int p1), .val (.int p2), .val (.int p3), .val (.int p4), .val (.int (p1 &&& (3 : Int32))), .val (.int (3 : Int32)), .val (.ref b1), .val (.int (1 : Int32))] [])) _
    refine XS.aload X18.here hx rfl (hb hby at_98) rfl rfl ?_
    show Steps p.tables e below (T18.setTop (mkF m 100 #[.val (.int p1), .val (.int p2), .val (.int p3), .val (.int p4), .val (.int (p1 &&& (3 : Int32))), .val (.int (3 : Int32)), .val (.ref b1), .val (.int (1 : Int32))] [(.ref b1)])) _
    refine XS.iloadN X18.here hx rfl (hb hby at_100) rfl ?_
    show Steps p.tables e below (T18.setTop (mkF m 101 #[.val (.int p1), .val (.int p2), .val (.int p3), .val (.int p4), .val (.int (p1 &&& (3 : Int32))), .val (.int (3 : Int32)), .val (.ref b1), .val (.int (1 : Int32))] [(.int p3), (.ref b1)])) _
    refine XS.bipush X18.here hx rfl (hb hby at_101) ?_
    show Steps p.tables e below (T18.setTop (mkF m 103 #[.val (.int p1), .val (.int p2), .val (.int p3), .val (.int p4), .val (.int (p1 &&& (3 : Int32))), .val (.int (3 : Int32)), .val (.ref b1), .val (.int (1 : Int32))] [(.int (16 : Int32)), (.int p3), (.ref b1)])) _
    refine XS.iushr X18.here hx rfl (hb hby at_103) rfl ?_
    show Steps p.tables e below (T18.setTop (mkF m 104 #[.val (.int p1), .val (.int p2), .val (.int p3), .val (.int p4), .val (.int (p1 &&& (3 : Int32))), .val (.int (3 : Int32)), .val (.ref b1), .val (.int (1 : Int32))] [(.int ((p3.toUInt32 >>> ((16 : Int32) &&& 31).toUInt32).toInt32)), (.ref b1)])) _
    refine XS.i2b X18.here hx rfl (hb hby at_104) rfl ?_
    show Steps p.tables e below (T18.setTop (mkF m 105 #[.val (.int p1), .val (.int p2), .val (.int p3), .val (.int p4), .val (.int (p1 &&& (3 : Int32))), .val (.int (3 : Int32)), .val (.ref b1), .val (.int (1 : Int32))] [(.int (((p3.toUInt32 >>> ((16 : Int32) &&& 31).toUInt32).toInt32).toInt8.toInt32)), (.ref b1)])) _
    refine st26.trans ?_
    show Steps p.tables e below (T26.setTop (mkF m 108 #[.val (.int p1), .val (.int p2), .val (.int p3), .val (.int p4), .val (.int (p1 &&& (3 : Int32))), .val (.int (3 : Int32)), .val (.ref b1), .val (.int (1 : Int32))] [(.ref b1)])) _
    refine XS.aload X26.here hx rfl (hb hby at_108) rfl rfl ?_
    show Steps p.tables e below (T26.setTop (mkF m 110 #[.val (.int p1), .val (.int p2), .val (.int p3), .val (.int p4), .val (.int (p1 &&& (3 : Int32))), .val (.int (3 : Int32)), .val (.ref b1), .val (.int (1 : Int32))] [(.ref b1), (.ref b1)])) _
    refine Jvm.RoadKit.acmp (g := (mkF m 110 #[.val (.int p1), .val (.int p2), .val (.int p3), .val (.int p4), .val (.int (p1 &&& (3 : Int32))), .val (.int (3 : Int32)), .val (.ref b1), .val (.int (1 : Int32))] [(.ref b1), (.ref b1)])) X26 hx rfl rfl rfl (pc0 := 110) (pc' := 113) (same := true) rfl (hb hby at_110) rfl (decide_eq_true rfl) (by decide) (by decide) ?_
    show Steps p.tables e below (T26.setTop (mkF m 113 #[.val (.int p1), .val (.int p2), .val (.int p3), .val (.int p4), .val (.int (p1 &&& (3 : Int32))), .val (.int (3 : Int32)), .val (.ref b1), .val (.int (1 : Int32))] [])) _
    refine XS.iconst X26.here hx rfl (hb hby at_113) ?_
    show Steps p.tables e below (T26.setTop (mkF m 114 #[.val (.int p1), .val (.int p2), .val (.int p3), .val (.int p4), .val (.int (p1 &&& (3 : Int32))), .val (.int (3 : Int32)), .val (.ref b1), .val (.int (1 : Int32))] [(.int (1 : Int32))])) _
    refine XS.goto X26.here hx rfl (pc0 := 114) (pc' := 118) rfl (hb hby at_114) (by decide) (by decide) ?_
    show Steps p.tables e below (T26.setTop (mkF m 118 #[.val (.int p1), .val (.int p2), .val (.int p3), .val (.int p4), .val (.int (p1 &&& (3 : Int32))), .val (.int (3 : Int32)), .val (.ref b1), .val (.int (1 : Int32))] [(.int (1 : Int32))])) _
    refine XS.istore X26.here hx rfl (hb hby at_118) rfl (l' := #[.val (.int p1), .val (.int p2), .val (.int p3), .val (.int p4), .val (.int (p1 &&& (3 : Int32))), .val (.int (3 : Int32)), .val (.ref b1), .val (.int (1 : Int32))]) rfl ?_
    show Steps p.tables e below (T26.setTop (mkF m 120 #[.val (.int p1), .val (.int p2), .val (.int p3), .val (.int p4), .val (.int (p1 &&& (3 : Int32))), .val (.int (3 : Int32)), .val (.ref b1), .val (.int (1 : Int32))] [])) _
    refine XS.iload X26.here hx rfl (hb hby at_120) rfl ?_
    show Steps p.tables e below (T26.setTop (mkF m 122 #[.val (.int p1), .val (.int p2), .val (.int p3), .val (.int p4), .val (.int (p1 &&& (3 : Int32))), .val (.int (3 : Int32)), .val (.ref b1), .val (.int (1 : Int32))] [(.int (3 : Int32))])) _
    refine XS.iconst X26.here hx rfl (hb hby at_122) ?_
    show Steps p.tables e below (T26.setTop (mkF m 123 #[.val (.int p1), .val (.int p2), .val (.int p3), .val (.int p4), .val (.int (p1 &&& (3 : Int32))), .val (.int (3 : Int32)), .val (.ref b1), .val (.int (1 : Int32))] [(.int (3 : Int32)), (.int (3 : Int32))])) _
    refine XS.icmpYes X26.here hx rfl (pc0 := 123) (pc' := 153) rfl (hb hby at_123) rfl (flt (by decide : ¬ ((3 : Int32) < (3 : Int32)))).2.2.2 (by decide) (by decide) ?_
    show Steps p.tables e below (T26.setTop (mkF m 153 #[.val (.int p1), .val (.int p2), .val (.int p3), .val (.int p4), .val (.int (p1 &&& (3 : Int32))), .val (.int (3 : Int32)), .val (.ref b1), .val (.int (1 : Int32))] [])) _
    refine XS.iload X26.here hx rfl (hb hby at_153) rfl ?_
    show Steps p.tables e below (T26.setTop (mkF m 155 #[.val (.int p1), .val (.int p2), .val (.int p3), .val (.int p4), .val (.int (p1 &&& (3 : Int32))), .val (.int (3 : Int32)), .val (.ref b1), .val (.int (1 : Int32))] [(.int (3 : Int32))])) _
    refine XS.iconst X26.here hx rfl (hb hby at_155) ?_
    show Steps p.tables e below (T26.setTop (mkF m 156 #[.val (.int p1), .val (.int p2), .val (.int p3), .val (.int p4), .val (.int (p1 &&& (3 : Int32))), .val (.int (3 : Int32)), .val (.ref b1), .val (.int (1 : Int32))] [(.int (4 : Int32)), (.int (3 : Int32))])) _
    refine XS.icmpYes X26.here hx rfl (pc0 := 156) (pc' := 183) rfl (hb hby at_156) rfl (flt (by decide : ¬ ((4 : Int32) < (3 : Int32)))).2.2.2 (by decide) (by decide) ?_
    show Steps p.tables e below (T26.setTop (mkF m 183 #[.val (.int p1), .val (.int p2), .val (.int p3), .val (.int p4), .val (.int (p1 &&& (3 : Int32))), .val (.int (3 : Int32)), .val (.ref b1), .val (.int (1 : Int32))] [])) _
    refine XS.iload X26.here hx rfl (hb hby at_183) rfl ?_
    show Steps p.tables e below (T26.setTop (mkF m 185 #[.val (.int p1), .val (.int p2), .val (.int p3), .val (.int p4), .val (.int (p1 &&& (3 : Int32))), .val (.int (3 : Int32)), .val (.ref b1), .val (.int (1 : Int32))] [(.int (3 : Int32))])) _
    refine XS.iconst X26.here hx rfl (hb hby at_185) ?_
    show Steps p.tables e below (T26.setTop (mkF m 186 #[.val (.int p1), .val (.int p2), .val (.int p3), .val (.int p4), .val (.int (p1 &&& (3 : Int32))), .val (.int (3 : Int32)), .val (.ref b1), .val (.int (1 : Int32))] [(.int (5 : Int32)), (.int (3 : Int32))])) _
    refine XS.icmpYes X26.here hx rfl (pc0 := 186) (pc' := 216) rfl (hb hby at_186) rfl (flt (by decide : ¬ ((5 : Int32) < (3 : Int32)))).2.2.2 (by decide) (by decide) ?_
    show Steps p.tables e below (T26.setTop (mkF m 216 #[.val (.int p1), .val (.int p2), .val (.int p3), .val (.int p4), .val (.int (p1 &&& (3 : Int32))), .val (.int (3 : Int32)), .val (.ref b1), .val (.int (1 : Int32))] [])) _
    refine XS.iload X26.here hx rfl (hb hby at_216) rfl ?_
    show Steps p.tables e below (T26.setTop (mkF m 218 #[.val (.int p1), .val (.int p2), .val (.int p3), .val (.int p4), .val (.int (p1 &&& (3 : Int32))), .val (.int (3 : Int32)), .val (.ref b1), .val (.int (1 : Int32))] [(.int (3 : Int32))])) _
    refine XS.bipush X26.here hx rfl (hb hby at_218) ?_
    show Steps p.tables e below (T26.setTop (mkF m 220 #[.val (.int p1), .val (.int p2), .val (.int p3), .val (.int p4), .val (.int (p1 &&& (3 : Int32))), .val (.int (3 : Int32)), .val (.ref b1), .val (.int (1 : Int32))] [(.int (6 : Int32)), (.int (3 : Int32))])) _
    refine XS.icmpYes X26.here hx rfl (pc0 := 220) (pc' := 250) rfl (hb hby at_220) rfl (flt (by decide : ¬ ((6 : Int32) < (3 : Int32)))).2.2.2 (by decide) (by decide) ?_
    show Steps p.tables e below (T26.setTop (mkF m 250 #[.val (.int p1), .val (.int p2), .val (.int p3), .val (.int p4), .val (.int (p1 &&& (3 : Int32))), .val (.int (3 : Int32)), .val (.ref b1), .val (.int (1 : Int32))] [])) _
    refine XS.iload X26.here hx rfl (hb hby at_250) rfl ?_
    show Steps p.tables e below (T26.setTop (mkF m 252 #[.val (.int p1), .val (.int p2), .val (.int p3), .val (.int p4), .val (.int (p1 &&& (3 : Int32))), .val (.int (3 : Int32)), .val (.ref b1), .val (.int (1 : Int32))] [(.int (1 : Int32))])) _
    refine XS.ifNo X26.here hx rfl (hb hby at_252) rfl ((if0 _ _).trans (feq (by decide : ¬ ((1 : Int32) = (0 : Int32)))).1) ?_
    show Steps p.tables e below (T26.setTop (mkF m 255 #[.val (.int p1), .val (.int p2), .val (.int p3), .val (.int p4), .val (.int (p1 &&& (3 : Int32))), .val (.int (3 : Int32)), .val (.ref b1), .val (.int (1 : Int32))] [])) _
    refine XS.aload X26.here hx rfl (hb hby at_255) rfl rfl ?_
    show Steps p.tables e below (T26.setTop (mkF m 257 #[.val (.int p1), .val (.int p2), .val (.int p3), .val (.int p4), .val (.int (p1 &&& (3 : Int32))), .val (.int (3 : Int32)), .val (.ref b1), .val (.int (1 : Int32))] [(.ref b1)])) _
    refine st35.trans ?_
    show Steps p.tables e below (T35.setTop (mkF m 260 #[.val (.int p1), .val (.int p2), .val (.int p3), .val (.int p4), .val (.int (p1 &&& (3 : Int32))), .val (.int (3 : Int32)), .val (.ref b1), .val (.int (1 : Int32))] [(.int (3 : Int32))])) _
    refine XS.iload X35.here hx rfl (hb hby at_260) rfl ?_
    show Steps p.tables e below (T35.setTop (mkF m 262 #[.val (.int p1), .val (.int p2), .val (.int p3), .val (.int p4), .val (.int (p1 &&& (3 : Int32))), .val (.int (3 : Int32)), .val (.ref b1), .val (.int (1 : Int32))] [(.int (3 : Int32)), (.int (3 : Int32))])) _
    refine XS.icmpNo X35.here hx rfl (hb hby at_262) rfl (teq (by decide : (3 : Int32) = (3 : Int32))).2 ?_
    show Steps p.tables e below (T35.setTop (mkF m 265 #[.val (.int p1), .val (.int p2), .val (.int p3), .val (.int p4), .val (.int (p1 &&& (3 : Int32))), .val (.int (3 : Int32)), .val (.ref b1), .val (.int (1 : Int32))] [])) _
    refine XS.iconst X35.here hx rfl (hb hby at_265) ?_
    show Steps p.tables e below (T35.setTop (mkF m 266 #[.val (.int p1), .val (.int p2), .val (.int p3), .val (.int p4), .val (.int (p1 &&& (3 : Int32))), .val (.int (3 : Int32)), .val (.ref b1), .val (.int (1 : Int32))] [(.int (1 : Int32))])) _
    refine XS.goto X35.here hx rfl (pc0 := 266) (pc' := 270) rfl (hb hby at_266) (by decide) (by decide) ?_
    show Steps p.tables e below (T35.setTop (mkF m 270 #[.val (.int p1), .val (.int p2), .val (.int p3), .val (.int p4), .val (.int (p1 &&& (3 : Int32))), .val (.int (3 : Int32)), .val (.ref b1), .val (.int (1 : Int32))] [(.int (1 : Int32))])) _
    exact retN X35 hx (t := .boolean) Bd.returns (by simp) (hb hby at_270) hr
  · show Q_law Z p1 p2 p3 p4 h0 n0 _ T35.heap _
    rw [e35]
    exact ⟨rfl, N36⟩
def Road_n4 (p1 : Int32) (p2 : Int32) (p3 : Int32) (p4 : Int32) : Prop := ((p2 &&& (7 : Int32)) = (4 : Int32)) ∧ (¬ ((p1 &&& (3 : Int32)) < (0 : Int32))) ∧ ((p1 &&& (3 : Int32)).toNatClampNeg ≤ 3) ∧ (own_B (0 : Int32) (p1 &&& (3 : Int32)) (List.replicate 16 (Value.int (0 : Int32))))
set_option maxRecDepth 65536 in
set_option maxHeartbeats 40000000 in
theorem rm_law_n4 (l : Launch) (Z : State) (a0 : Array Value) (hw : ∀ d ∈ tables_1, d.before a0 Z = true) (ws : List Jvm.Cond) (p1 : Int32) (p2 : Int32) (p3 : Int32) (p4 : Int32) (h0 : Heap) (n0 : Nat) (Z0 : n0 ≤ h0.size) (hroad : Road_n4 p1 p2 p3 p4) :
    MetFree l x (head1 (Jvm.Cond.code x code maxLocals ret :: ws) room_1) (fun a U => a = #[(.int p1), (.int p2), (.int p3), (.int p4)] ∧ Z.Warmed39 U.vm ∧ U.heap = h0) (fun _ _ _ _ _ => True) (fun _ U o U' => ∃ v L, o = .returned v ∧ Q_law Z p1 p2 p3 p4 h0 n0 v U'.heap L ∧ FrameEnd U o U' L room_1.cells room_1.slots) := by
  obtain ⟨hw_0, hp1, hp2, hp3⟩ := hroad
  refine MetFree.of_bodySF (plainFor_of_name pn_com_example_wellform_wellform_cli_ByteBatchAppendPinLaw) hisR ?_
  intro p e s m args below meth c s₁ Bd hml0 hP hK
  obtain ⟨rfl, hZ, hh⟩ := hP
  have hx := Bd.exec
  have hby := Bd.bytes
  have hml : c.maxLocals = 8 := hml0
  have hown : s.vm.findClass "com/example/wellform/wellform/cli/ByteBatchAppendPinLaw" = some m.cls := findClass_of_methodNamed Bd.named
  have hnm := (name_of_methodNamed Bd.named Bd.method).1
  have X0 : Stand p l e room_1 s m #[(.int p1), (.int p2), (.int p3), (.int p4)] below meth c s₁ [] 0 0 := Stand.of_body Bd
  have e0 : s₁.heap = h0 := by rw [← hh, Bd.state]; rfl
  have N0 := Fr.nil n0
  have pre0 : ∀ t, Steps p.tables e below (s₁.setTop (mkF m 0 #[.val (.int p1), .val (.int p2), .val (.int p3), .val (.int p4), .unset, .unset, .unset, .unset] [])) t → Steps p.tables e below (s₁.setTop (entryFrame m #[(.int p1), (.int p2), (.int p3), (.int p4)] maxLocals)) t := fun t k => castTop (ef_0_IIII m p1 p2 p3 p4) k
  obtain ⟨T1, h1, X1, e1, E1, A1, D1, -, st1⟩ := newO X0 hx hZ hown (hw _ (List.mem_of_getElem? (i := 0) rfl)) (hw _ (List.mem_of_getElem? (i := 1) rfl)) (hw _ (List.mem_of_getElem? (i := 2) rfl)) e0 (g := (mkF m 11 #[.val (.int p1), .val (.int p2), .val (.int p3), .val (.int p4), .val (.int (p1 &&& (3 : Int32))), .val (.int (4 : Int32)), .unset, .unset] [])) rfl (hb hby at_11) (by decide) (by decide)
  obtain ⟨b1, g1⟩ : ∃ z, z = h0.size := ⟨_, rfl⟩
  rw [← g1] at A1 D1 st1
  have g_b1 : n0 ≤ b1 := Nat.le_trans Z0 (Nat.le_of_eq g1.symm)
  have Zs2 : n0 ≤ h1.size := Nat.le_trans Z0 E1.1
  have f3 : Fld Z h1 b1 "com/example/wellform/wellform/cli/ByteBatch" "bytes" "[B" .null := D1 (Or.inl (hw _ (List.mem_of_getElem? (i := 11) rfl))) (ty := (.array .byte)) (by decide)
  have f4 : Fld Z h1 b1 "com/example/wellform/wellform/cli/ByteBatch" "size" "I" (.int (0 : Int32)) := D1 (Or.inl (hw _ (List.mem_of_getElem? (i := 22) rfl))) (ty := .int) (by decide)
  obtain ⟨_, _, ⟨T5, L5, k5, n5⟩, -, X5, ⟨Lc5, hQ5, l5, y5, z5⟩, st5⟩ := X1.specialBack hx (y := (⟨"com/example/wellform/wellform/cli/ByteBatch", "<init>", "(I)V"⟩ : MethodName)) rfl hown (mvT hZ (hw _ (List.mem_of_getElem? (i := 3) rfl))) (mvT hZ (hw _ (List.mem_of_getElem? (i := 4) rfl))) (mvT hZ (hw _ (List.mem_of_getElem? (i := 5) rfl))) (by decide) (backOf (W := 1) (rm_init l Z a0 hw [] b1 (p1 &&& (3 : Int32)) h1 n0 Zs2 A1 f3 g_b1 f4 hp1 hp2) hZ (hw _ (List.mem_of_getElem? (i := 5) rfl)) (hw _ (List.mem_of_getElem? (i := 2) rfl)) (by decide) (by decide)) (g := (mkF m 17 #[.val (.int p1), .val (.int p2), .val (.int p3), .val (.int p4), .val (.int (p1 &&& (3 : Int32))), .val (.int (4 : Int32)), .unset, .unset] [(.int (p1 &&& (3 : Int32))), (.ref b1), (.ref b1)])) rfl (by rw [hml]; rfl) (Steps.refl _) (a := b1) (argsL := [(.int (p1 &&& (3 : Int32)))]) (rest := [(.ref b1)]) (lenOf pd_2 rfl) rfl (by show 2 * 0 + _ ≤ _; exact Nat.le_of_eq rfl) (hb hby at_17) (fun _ _ => ⟨rfl, e1, (by decide : 1 + 1 ≤ _), (by decide : 2 + 3 ≤ _)⟩)
  dsimp only [Pt.U, Pt.locs, Pt.cells, Pt.slots] at X5 l5 y5 z5 st5 hQ5
  subst l5 y5 z5
  obtain ⟨b5_1, k5_2, rfl, Nq5, g_b5_1, szq_b5_1, Kc5, fq5_0, fq5_1, fq5_2, fq5_3, fq5_4⟩ := hQ5
  have ne_b1_b5_1 : b1 ≠ b5_1 := Nat.ne_of_lt (Nat.lt_of_lt_of_le A1.lt szq_b5_1)
  have f7 : Fld Z T5.heap b1 "com/example/wellform/wellform/cli/ByteBatch" "bytes" "[B" (.ref b5_1) := fq5_1
  have f8 : Fld Z T5.heap b1 "com/example/wellform/wellform/cli/ByteBatch" "size" "I" (.int (0 : Int32)) := fq5_2
  have f9 : Arv Z T5.heap b5_1 k5_2 .byte (p1 &&& (3 : Int32)) (List.replicate 16 (Value.int (0 : Int32))) (.int (0 : Int32)) := fq5_4
  have Zs10 : n0 ≤ T5.heap.size := Nat.le_trans Zs2 Kc5.1
  have N6 := Fr.app N0 Nq5
  obtain ⟨cq11, kq11, q11a, q11b, q11c⟩ := isOf hZ rfl fq5_0
  obtain ⟨_, _, ⟨T11, L11, k11, n11⟩, -, X11, ⟨Lc11, hQ11, l11, y11, z11⟩, st11⟩ := X5.virtualBack hx (y := (⟨"com/example/wellform/wellform/cli/ByteBatch", "append", "(B)Lcom/example/wellform/wellform/cli/ByteBatch;"⟩ : MethodName)) (z := (⟨"com/example/wellform/wellform/cli/ByteBatch", "append", "(B)Lcom/example/wellform/wellform/cli/ByteBatch;"⟩ : MethodName)) hown (mvT hZ (hw _ (List.mem_of_getElem? (i := 12) rfl))) (mvT hZ (hw _ (List.mem_of_getElem? (i := 13) rfl))) (notFace_of_selects (args := #[]) (mvT hZ (hw _ (List.mem_of_getElem? (i := 15) rfl)))) (mvT hZ (hw _ (List.mem_of_getElem? (i := 15) rfl))) (mvT hZ (hw _ (List.mem_of_getElem? (i := 14) rfl))) (by decide) (backOf (W := 0) (rm_append l Z a0 hw [] b1 (p3.toInt8.toInt32) b5_1 k5_2 (p1 &&& (3 : Int32)) (List.replicate 16 (Value.int (0 : Int32))) (0 : Int32) T5.heap n0 Zs10 f7 fq5_3 f9 f8 fq5_0 g_b1 g_b5_1 hp3 (by decide)) hZ (hw _ (List.mem_of_getElem? (i := 16) rfl)) (hw _ (List.mem_of_getElem? (i := 2) rfl)) (by decide) (by decide)) q11a q11c (g := (mkF m 39 #[.val (.int p1), .val (.int p2), .val (.int p3), .val (.int p4), .val (.int (p1 &&& (3 : Int32))), .val (.int (4 : Int32)), .val (.ref b1), .val (.int (1 : Int32))] [(.int (p3.toInt8.toInt32)), (.ref b1)])) rfl (by rw [hml]; rfl) (Steps.refl _) (argsL := [(.int (p3.toInt8.toInt32))]) (rest := []) (lenOf pd_4 rfl) rfl (by show 2 * 0 + _ ≤ _; exact Nat.le_of_eq rfl) (hb hby at_39) (fun _ _ => ⟨rfl, rfl, (by decide : 2 + 1 ≤ _), (by decide : 5 + 14 ≤ _)⟩)
  dsimp only [Pt.U, Pt.locs, Pt.cells, Pt.slots] at X11 l11 y11 z11 st11 hQ11
  subst l11 y11 z11
  obtain ⟨b11_1, k11_2, i11_3, us11_4, rfl, Nq11, g_b11_1, hq11_0, Kc11, fq11_0, fq11_1, fq11_2, fq11_3, fq11_4⟩ := hQ11
  have f13 : Exa Z T11.heap b5_1 "[B" := fq5_3.keep Kc11
  have f14 : Fld Z T11.heap b1 "com/example/wellform/wellform/cli/ByteBatch" "bytes" "[B" (.ref b11_1) := fq11_1
  have f15 : Fld Z T11.heap b1 "com/example/wellform/wellform/cli/ByteBatch" "size" "I" (.int (1 : Int32)) := fq11_2
  have f16 : Arv Z T11.heap b11_1 k11_2 .byte i11_3 us11_4 (.int (0 : Int32)) := fq11_4
  have Zs17 : n0 ≤ T11.heap.size := Nat.le_trans Zs10 Kc11.1
  have N12 := Fr.app N6 Nq11
  obtain ⟨cq18, kq18, q18a, q18b, q18c⟩ := isOf hZ rfl fq11_0
  obtain ⟨_, _, ⟨T18, L18, k18, n18⟩, -, X18, ⟨Lc18, hQ18, l18, y18, z18⟩, st18⟩ := X11.virtualBack hx (y := (⟨"com/example/wellform/wellform/cli/ByteBatch", "append", "(B)Lcom/example/wellform/wellform/cli/ByteBatch;"⟩ : MethodName)) (z := (⟨"com/example/wellform/wellform/cli/ByteBatch", "append", "(B)Lcom/example/wellform/wellform/cli/ByteBatch;"⟩ : MethodName)) hown (mvT hZ (hw _ (List.mem_of_getElem? (i := 12) rfl))) (mvT hZ (hw _ (List.mem_of_getElem? (i := 13) rfl))) (notFace_of_selects (args := #[]) (mvT hZ (hw _ (List.mem_of_getElem? (i := 15) rfl)))) (mvT hZ (hw _ (List.mem_of_getElem? (i := 15) rfl))) (mvT hZ (hw _ (List.mem_of_getElem? (i := 14) rfl))) (by decide) (backOf (W := 0) (rm_append l Z a0 hw [] b1 (((p3.toUInt32 >>> ((8 : Int32) &&& 31).toUInt32).toInt32).toInt8.toInt32) b11_1 k11_2 i11_3 us11_4 (1 : Int32) T11.heap n0 Zs17 f14 fq11_3 f16 f15 fq11_0 g_b1 g_b11_1 hq11_0 (by decide)) hZ (hw _ (List.mem_of_getElem? (i := 16) rfl)) (hw _ (List.mem_of_getElem? (i := 2) rfl)) (by decide) (by decide)) q18a q18c (g := (mkF m 72 #[.val (.int p1), .val (.int p2), .val (.int p3), .val (.int p4), .val (.int (p1 &&& (3 : Int32))), .val (.int (4 : Int32)), .val (.ref b1), .val (.int (1 : Int32))] [(.int (((p3.toUInt32 >>> ((8 : Int32) &&& 31).toUInt32).toInt32).toInt8.toInt32)), (.ref b1)])) rfl (by rw [hml]; rfl) (Steps.refl _) (argsL := [(.int (((p3.toUInt32 >>> ((8 : Int32) &&& 31).toUInt32).toInt32).toInt8.toInt32))]) (rest := []) (lenOf pd_4 rfl) rfl (by show 2 * 0 + _ ≤ _; exact Nat.le_of_eq rfl) (hb hby at_72) (fun _ _ => ⟨rfl, rfl, (by decide : 3 + 1 ≤ _), (by decide : 19 + 14 ≤ _)⟩)
  dsimp only [Pt.U, Pt.locs, Pt.cells, Pt.slots] at X18 l18 y18 z18 st18 hQ18
  subst l18 y18 z18
  obtain ⟨b18_1, k18_2, i18_3, us18_4, rfl, Nq18, g_b18_1, hq18_0, Kc18, fq18_0, fq18_1, fq18_2, fq18_3, fq18_4⟩ := hQ18
  have ne_b1_b11_1 : b1 ≠ b11_1 := ne_exa fq11_0 fq11_3 (by decide)
  have f20 : Exa Z T18.heap b5_1 "[B" := f13.keep Kc18
  have f21 : Exa Z T18.heap b11_1 "[B" := fq11_3.keep Kc18
  have f22 : Fld Z T18.heap b1 "com/example/wellform/wellform/cli/ByteBatch" "bytes" "[B" (.ref b18_1) := fq18_1
  have f23 : Fld Z T18.heap b1 "com/example/wellform/wellform/cli/ByteBatch" "size" "I" (.int (2 : Int32)) := fq18_2
  have f24 : Arv Z T18.heap b18_1 k18_2 .byte i18_3 us18_4 (.int (0 : Int32)) := fq18_4
  have Zs25 : n0 ≤ T18.heap.size := Nat.le_trans Zs17 Kc18.1
  have N19 := Fr.app N12 Nq18
  obtain ⟨cq26, kq26, q26a, q26b, q26c⟩ := isOf hZ rfl fq18_0
  obtain ⟨_, _, ⟨T26, L26, k26, n26⟩, -, X26, ⟨Lc26, hQ26, l26, y26, z26⟩, st26⟩ := X18.virtualBack hx (y := (⟨"com/example/wellform/wellform/cli/ByteBatch", "append", "(B)Lcom/example/wellform/wellform/cli/ByteBatch;"⟩ : MethodName)) (z := (⟨"com/example/wellform/wellform/cli/ByteBatch", "append", "(B)Lcom/example/wellform/wellform/cli/ByteBatch;"⟩ : MethodName)) hown (mvT hZ (hw _ (List.mem_of_getElem? (i := 12) rfl))) (mvT hZ (hw _ (List.mem_of_getElem? (i := 13) rfl))) (notFace_of_selects (args := #[]) (mvT hZ (hw _ (List.mem_of_getElem? (i := 15) rfl)))) (mvT hZ (hw _ (List.mem_of_getElem? (i := 15) rfl))) (mvT hZ (hw _ (List.mem_of_getElem? (i := 14) rfl))) (by decide) (backOf (W := 0) (rm_append l Z a0 hw [] b1 (((p3.toUInt32 >>> ((16 : Int32) &&& 31).toUInt32).toInt32).toInt8.toInt32) b18_1 k18_2 i18_3 us18_4 (2 : Int32) T18.heap n0 Zs25 f22 fq18_3 f24 f23 fq18_0 g_b1 g_b18_1 hq18_0 (by decide)) hZ (hw _ (List.mem_of_getElem? (i := 16) rfl)) (hw _ (List.mem_of_getElem? (i := 2) rfl)) (by decide) (by decide)) q26a q26c (g := (mkF m 105 #[.val (.int p1), .val (.int p2), .val (.int p3), .val (.int p4), .val (.int (p1 &&& (3 : Int32))), .val (.int (4 : Int32)), .val (.ref b1), .val (.int (1 : Int32))] [(.int (((p3.toUInt32 >>> ((16 : Int32) &&& 31).toUInt32).toInt32).toInt8.toInt32)), (.ref b1)])) rfl (by rw [hml]; rfl) (Steps.refl _) (argsL := [(.int (((p3.toUInt32 >>> ((16 : Int32) &&& 31).toUInt32).toInt32).toInt8.toInt32))]) (rest := []) (lenOf pd_4 rfl) rfl (by show 2 * 0 + _ ≤ _; exact Nat.le_of_eq rfl) (hb hby at_105) (fun _ _ => ⟨rfl, rfl, (by decide : 4 + 1 ≤ _), (by decide : 33 + 14 ≤ _)⟩)
  dsimp only [Pt.U, Pt.locs, Pt.cells, Pt.slots] at X26 l26 y26 z26 st26 hQ26
  subst l26 y26 z26
  obtain ⟨b26_1, k26_2, i26_3, us26_4, rfl, Nq26, g_b26_1, hq26_0, Kc26, fq26_0, fq26_1, fq26_2, fq26_3, fq26_4⟩ := hQ26
  have ne_b1_b18_1 : b1 ≠ b18_1 := ne_exa fq18_0 fq18_3 (by decide)
  have f28 : Exa Z T26.heap b5_1 "[B" := f20.keep Kc26
  have f29 : Exa Z T26.heap b11_1 "[B" := f21.keep Kc26
  have f30 : Exa Z T26.heap b18_1 "[B" := fq18_3.keep Kc26
  have f31 : Fld Z T26.heap b1 "com/example/wellform/wellform/cli/ByteBatch" "bytes" "[B" (.ref b26_1) := fq26_1
  have f32 : Fld Z T26.heap b1 "com/example/wellform/wellform/cli/ByteBatch" "size" "I" (.int (3 : Int32)) := fq26_2
  have f33 : Arv Z T26.heap b26_1 k26_2 .byte i26_3 us26_4 (.int (0 : Int32)) := fq26_4
  have Zs34 : n0 ≤ T26.heap.size := Nat.le_trans Zs25 Kc26.1
  have N27 := Fr.app N19 Nq26
  obtain ⟨cq35, kq35, q35a, q35b, q35c⟩ := isOf hZ rfl fq26_0
  obtain ⟨_, _, ⟨T35, L35, k35, n35⟩, -, X35, ⟨Lc35, hQ35, l35, y35, z35⟩, st35⟩ := X26.virtualBack hx (y := (⟨"com/example/wellform/wellform/cli/ByteBatch", "append", "(B)Lcom/example/wellform/wellform/cli/ByteBatch;"⟩ : MethodName)) (z := (⟨"com/example/wellform/wellform/cli/ByteBatch", "append", "(B)Lcom/example/wellform/wellform/cli/ByteBatch;"⟩ : MethodName)) hown (mvT hZ (hw _ (List.mem_of_getElem? (i := 12) rfl))) (mvT hZ (hw _ (List.mem_of_getElem? (i := 13) rfl))) (notFace_of_selects (args := #[]) (mvT hZ (hw _ (List.mem_of_getElem? (i := 15) rfl)))) (mvT hZ (hw _ (List.mem_of_getElem? (i := 15) rfl))) (mvT hZ (hw _ (List.mem_of_getElem? (i := 14) rfl))) (by decide) (backOf (W := 0) (rm_append l Z a0 hw [] b1 (((p3.toUInt32 >>> ((24 : Int32) &&& 31).toUInt32).toInt32).toInt8.toInt32) b26_1 k26_2 i26_3 us26_4 (3 : Int32) T26.heap n0 Zs34 f31 fq26_3 f33 f32 fq26_0 g_b1 g_b26_1 hq26_0 (by decide)) hZ (hw _ (List.mem_of_getElem? (i := 16) rfl)) (hw _ (List.mem_of_getElem? (i := 2) rfl)) (by decide) (by decide)) q35a q35c (g := (mkF m 138 #[.val (.int p1), .val (.int p2), .val (.int p3), .val (.int p4), .val (.int (p1 &&& (3 : Int32))), .val (.int (4 : Int32)), .val (.ref b1), .val (.int (1 : Int32))] [(.int (((p3.toUInt32 >>> ((24 : Int32) &&& 31).toUInt32).toInt32).toInt8.toInt32)), (.ref b1)])) rfl (by rw [hml]; rfl) (Steps.refl _) (argsL := [(.int (((p3.toUInt32 >>> ((24 : Int32) &&& 31).toUInt32).toInt32).toInt8.toInt32))]) (rest := []) (lenOf pd_4 rfl) rfl (by show 2 * 0 + _ ≤ _; exact Nat.le_of_eq rfl) (hb hby at_138) (fun _ _ => ⟨rfl, rfl, (by decide : 5 + 1 ≤ _), (by decide : 47 + 14 ≤ _)⟩)
  dsimp only [Pt.U, Pt.locs, Pt.cells, Pt.slots] at X35 l35 y35 z35 st35 hQ35
  subst l35 y35 z35
  obtain ⟨b35_1, k35_2, i35_3, us35_4, rfl, Nq35, g_b35_1, hq35_0, Kc35, fq35_0, fq35_1, fq35_2, fq35_3, fq35_4⟩ := hQ35
  have ne_b1_b26_1 : b1 ≠ b26_1 := ne_exa fq26_0 fq26_3 (by decide)
  have f37 : Exa Z T35.heap b5_1 "[B" := f28.keep Kc35
  have f38 : Exa Z T35.heap b11_1 "[B" := f29.keep Kc35
  have f39 : Exa Z T35.heap b18_1 "[B" := f30.keep Kc35
  have f40 : Exa Z T35.heap b26_1 "[B" := fq26_3.keep Kc35
  have f41 : Fld Z T35.heap b1 "com/example/wellform/wellform/cli/ByteBatch" "bytes" "[B" (.ref b35_1) := fq35_1
  have f42 : Fld Z T35.heap b1 "com/example/wellform/wellform/cli/ByteBatch" "size" "I" (.int (4 : Int32)) := fq35_2
  have f43 : Arv Z T35.heap b35_1 k35_2 .byte i35_3 us35_4 (.int (0 : Int32)) := fq35_4
  have Zs44 : n0 ≤ T35.heap.size := Nat.le_trans Zs34 Kc35.1
  have N36 := Fr.app N27 Nq35
  obtain ⟨cq45, kq45, q45a, q45b, q45c⟩ := isOf hZ rfl fq35_0
  obtain ⟨_, _, ⟨T45, L45, k45, n45⟩, -, X45, ⟨Lc45, hQ45, l45, y45, z45⟩, st45⟩ := X35.virtualBack hx (y := (⟨"com/example/wellform/wellform/cli/ByteBatch", "size", "()I"⟩ : MethodName)) (z := (⟨"com/example/wellform/wellform/cli/ByteBatch", "size", "()I"⟩ : MethodName)) hown (mvT hZ (hw _ (List.mem_of_getElem? (i := 38) rfl))) (mvT hZ (hw _ (List.mem_of_getElem? (i := 39) rfl))) (notFace_of_selects (args := #[]) (mvT hZ (hw _ (List.mem_of_getElem? (i := 41) rfl)))) (mvT hZ (hw _ (List.mem_of_getElem? (i := 41) rfl))) (mvT hZ (hw _ (List.mem_of_getElem? (i := 40) rfl))) (by decide) (backOf (W := 0) (rm_size l Z a0 hw [] b1 (4 : Int32) T35.heap n0 Zs44 f42) hZ (hw _ (List.mem_of_getElem? (i := 42) rfl)) (hw _ (List.mem_of_getElem? (i := 2) rfl)) (by decide) (by decide)) q45a q45c (g := (mkF m 257 #[.val (.int p1), .val (.int p2), .val (.int p3), .val (.int p4), .val (.int (p1 &&& (3 : Int32))), .val (.int (4 : Int32)), .val (.ref b1), .val (.int (1 : Int32))] [(.ref b1)])) rfl (by rw [hml]; rfl) (Steps.refl _) (argsL := []) (rest := []) (lenOf pd_3 rfl) rfl (by show 2 * 0 + _ ≤ _; exact Nat.le_of_eq rfl) (hb hby at_257) (fun _ _ => ⟨rfl, rfl, (by decide : 6 + 0 ≤ _), (by decide : 61 + 0 ≤ _)⟩)
  dsimp only [Pt.U, Pt.locs, Pt.cells, Pt.slots] at X45 l45 y45 z45 st45 hQ45
  subst l45 y45 z45
  obtain ⟨rfl, Nq45, e45⟩ := hQ45
  have N46 := Fr.app N36 Nq45
  obtain ⟨fs, hr, hrun, hended, hW, hsame⟩ := X45.leave (v := some (.int (1 : Int32))) (fun h => by rw [Bd.returns] at h; cases h) Bd.notSynchronized
  refine ⟨_, _, pre0 _ ?_, hrun, hended, _, _, rfl, ?_, ⟨_, rfl⟩, hW, hsame.mono (by decide) (by decide)⟩
  · show Steps p.tables e below (s₁.setTop (mkF m 0 #[.val (.int p1), .val (.int p2), .val (.int p3), .val (.int p4), .unset, .unset, .unset, .unset] [])) _
    refine XS.iloadN X0.here hx rfl (hb hby at_0) rfl ?_
    show Steps p.tables e below (s₁.setTop (mkF m 1 #[.val (.int p1), .val (.int p2), .val (.int p3), .val (.int p4), .unset, .unset, .unset, .unset] [(.int p1)])) _
    refine XS.iconst X0.here hx rfl (hb hby at_1) ?_
    show Steps p.tables e below (s₁.setTop (mkF m 2 #[.val (.int p1), .val (.int p2), .val (.int p3), .val (.int p4), .unset, .unset, .unset, .unset] [(.int (3 : Int32)), (.int p1)])) _
    refine XS.iand X0.here hx rfl (hb hby at_2) rfl ?_
    show Steps p.tables e below (s₁.setTop (mkF m 3 #[.val (.int p1), .val (.int p2), .val (.int p3), .val (.int p4), .unset, .unset, .unset, .unset] [(.int (p1 &&& (3 : Int32)))])) _
    refine XS.istore X0.here hx rfl (hb hby at_3) rfl (l' := #[.val (.int p1), .val (.int p2), .val (.int p3), .val (.int p4), .val (.int (p1 &&& (3 : Int32))), .unset, .unset, .unset]) rfl ?_
    show Steps p.tables e below (s₁.setTop (mkF m 5 #[.val (.int p1), .val (.int p2), .val (.int p3), .val (.int p4), .val (.int (p1 &&& (3 : Int32))), .unset, .unset, .unset] [])) _
    refine XS.iloadN X0.here hx rfl (hb hby at_5) rfl ?_
    show Steps p.tables e below (s₁.setTop (mkF m 6 #[.val (.int p1), .val (.int p2), .val (.int p3), .val (.int p4), .val (.int (p1 &&& (3 : Int32))), .unset, .unset, .unset] [(.int p2)])) _
    refine XS.bipush X0.here hx rfl (hb hby at_6) ?_
    show Steps p.tables e below (s₁.setTop (mkF m 8 #[.val (.int p1), .val (.int p2), .val (.int p3), .val (.int p4), .val (.int (p1 &&& (3 : Int32))), .unset, .unset, .unset] [(.int (7 : Int32)), (.int p2)])) _
    refine XS.iand X0.here hx rfl (hb hby at_8) rfl ?_
    show Steps p.tables e below (s₁.setTop (mkF m 9 #[.val (.int p1), .val (.int p2), .val (.int p3), .val (.int p4), .val (.int (p1 &&& (3 : Int32))), .unset, .unset, .unset] [(.int (p2 &&& (7 : Int32)))])) _
    refine XS.istore X0.here hx rfl (hb hby at_9) rfl (l' := #[.val (.int p1), .val (.int p2), .val (.int p3), .val (.int p4), .val (.int (p1 &&& (3 : Int32))), .val (.int (p2 &&& (7 : Int32))), .unset, .unset]) rfl ?_
    show Steps p.tables e below (s₁.setTop (mkF m 11 #[.val (.int p1), .val (.int p2), .val (.int p3), .val (.int p4), .val (.int (p1 &&& (3 : Int32))), .val (.int (p2 &&& (7 : Int32))), .unset, .unset] [])) _
    rw [hw_0]
    show Steps p.tables e below (s₁.setTop (mkF m 11 #[.val (.int p1), .val (.int p2), .val (.int p3), .val (.int p4), .val (.int (p1 &&& (3 : Int32))), .val (.int (4 : Int32)), .unset, .unset] [])) _
    refine st1 _ ?_
    show Steps p.tables e below (T1.setTop (mkF m 14 #[.val (.int p1), .val (.int p2), .val (.int p3), .val (.int p4), .val (.int (p1 &&& (3 : Int32))), .val (.int (4 : Int32)), .unset, .unset] [(.ref b1)])) _
    refine XS.dup X1.here hx rfl (hb hby at_14) rfl rfl ?_
    show Steps p.tables e below (T1.setTop (mkF m 15 #[.val (.int p1), .val (.int p2), .val (.int p3), .val (.int p4), .val (.int (p1 &&& (3 : Int32))), .val (.int (4 : Int32)), .unset, .unset] [(.ref b1), (.ref b1)])) _
    refine XS.iload X1.here hx rfl (hb hby at_15) rfl ?_
    show Steps p.tables e below (T1.setTop (mkF m 17 #[.val (.int p1), .val (.int p2), .val (.int p3), .val (.int p4), .val (.int (p1 &&& (3 : Int32))), .val (.int (4 : Int32)), .unset, .unset] [(.int (p1 &&& (3 : Int32))), (.ref b1), (.ref b1)])) _
    refine st5.trans ?_
    show Steps p.tables e below (T5.setTop (mkF m 20 #[.val (.int p1), .val (.int p2), .val (.int p3), .val (.int p4), .val (.int (p1 &&& (3 : Int32))), .val (.int (4 : Int32)), .unset, .unset] [(.ref b1)])) _
    refine XS.astore X5.here hx rfl (hb hby at_20) rfl rfl (l' := #[.val (.int p1), .val (.int p2), .val (.int p3), .val (.int p4), .val (.int (p1 &&& (3 : Int32))), .val (.int (4 : Int32)), .val (.ref b1), .unset]) rfl ?_
    show Steps p.tables e below (T5.setTop (mkF m 22 #[.val (.int p1), .val (.int p2), .val (.int p3), .val (.int p4), .val (.int (p1 &&& (3 : Int32))), .val (.int (4 : Int32)), .val (.ref b1), .unset] [])) _
    refine XS.iconst X5.here hx rfl (hb hby at_22) ?_
    show Steps p.tables e below (T5.setTop (mkF m 23 #[.val (.int p1), .val (.int p2), .val (.int p3), .val (.int p4), .val (.int (p1 &&& (3 : Int32))), .val (.int (4 : Int32)), .val (.ref b1), .unset] [(.int (1 : Int32))])) _
    refine XS.istore X5.here hx rfl (hb hby at_23) rfl (l' := #[.val (.int p1), .val (.int p2), .val (.int p3), .val (.int p4), .val (.int (p1 &&& (3 : Int32))), .val (.int (4 : Int32)), .val (.ref b1), .val (.int (1 : Int32))]) rfl ?_
    show Steps p.tables e below (T5.setTop (mkF m 25 #[.val (.int p1), .val (.int p2), .val (.int p3), .val (.int p4), .val (.int (p1 &&& (3 : Int32))), .val (.int (4 : Int32)), .val (.ref b1), .val (.int (1 : Int32))] [])) _
    refine XS.iload X5.here hx rfl (hb hby at_25) rfl ?_
    show Steps p.tables e below (T5.setTop (mkF m 27 #[.val (.int p1), .val (.int p2), .val (.int p3), .val (.int p4), .val (.int (p1 &&& (3 : Int32))), .val (.int (4 : Int32)), .val (.ref b1), .val (.int (1 : Int32))] [(.int (4 : Int32))])) _
    refine XS.ifNo X5.here hx rfl (hb hby at_27) rfl ((if0 _ _).trans (tlt (by decide : (0 : Int32) < (4 : Int32))).2.2.2) ?_
    show Steps p.tables e below (T5.setTop (mkF m 30 #[.val (.int p1), .val (.int p2), .val (.int p3), .val (.int p4), .val (.int (p1 &&& (3 : Int32))), .val (.int (4 : Int32)), .val (.ref b1), .val (.int (1 : Int32))] [])) _
    refine XS.iload X5.here hx rfl (hb hby at_30) rfl ?_
    show Steps p.tables e below (T5.setTop (mkF m 32 #[.val (.int p1), .val (.int p2), .val (.int p3), .val (.int p4), .val (.int (p1 &&& (3 : Int32))), .val (.int (4 : Int32)), .val (.ref b1), .val (.int (1 : Int32))] [(.int (1 : Int32))])) _
    refine XS.ifNo X5.here hx rfl (hb hby at_32) rfl ((if0 _ _).trans (feq (by decide : ¬ ((1 : Int32) = (0 : Int32)))).1) ?_
    show Steps p.tables e below (T5.setTop (mkF m 35 #[.val (.int p1), .val (.int p2), .val (.int p3), .val (.int p4), .val (.int (p1 &&& (3 : Int32))), .val (.int (4 : Int32)), .val (.ref b1), .val (.int (1 : Int32))] [])) _
    refine XS.aload X5.here hx rfl (hb hby at_35) rfl rfl ?_
    show Steps p.tables e below (T5.setTop (mkF m 37 #[.val (.int p1), .val (.int p2), .val (.int p3), .val (.int p4), .val (.int (p1 &&& (3 : Int32))), .val (.int (4 : Int32)), .val (.ref b1), .val (.int (1 : Int32))] [(.ref b1)])) _
    refine XS.iloadN X5.here hx rfl (hb hby at_37) rfl ?_
    show Steps p.tables e below (T5.setTop (mkF m 38 #[.val (.int p1), .val (.int p2), .val (.int p3), .val (.int p4), .val (.int (p1 &&& (3 : Int32))), .val (.int (4 : Int32)), .val (.ref b1), .val (.int (1 : Int32))] [(.int p3), (.ref b1)])) _
    refine XS.i2b X5.here hx rfl (hb hby at_38) rfl ?_
    show Steps p.tables e below (T5.setTop (mkF m 39 #[.val (.int p1), .val (.int p2), .val (.int p3), .val (.int p4), .val (.int (p1 &&& (3 : Int32))), .val (.int (4 : Int32)), .val (.ref b1), .val (.int (1 : Int32))] [(.int (p3.toInt8.toInt32)), (.ref b1)])) _
    refine st11.trans ?_
    show Steps p.tables e below (T11.setTop (mkF m 42 #[.val (.int p1), .val (.int p2), .val (.int p3), .val (.int p4), .val (.int (p1 &&& (3 : Int32))), .val (.int (4 : Int32)), .val (.ref b1), .val (.int (1 : Int32))] [(.ref b1)])) _
    refine XS.aload X11.here hx rfl (hb hby at_42) rfl rfl ?_
    show Steps p.tables e below (T11.setTop (mkF m 44 #[.val (.int p1), .val (.int p2), .val (.int p3), .val (.int p4), .val (.int (p1 &&& (3 : Int32))), .val (.int (4 : Int32)), .val (.ref b1), .val (.int (1 : Int32))] [(.ref b1), (.ref b1)])) _
    refine Jvm.RoadKit.acmp (g := (mkF m 44 #[.val (.int p1), .val (.int p2), .val (.int p3), .val (.int p4), .val (.int (p1 &&& (3 : Int32))), .val (.int (4 : Int32)), .val (.ref b1), .val (.int (1 : Int32))] [(.ref b1), (.ref b1)])) X11 hx rfl rfl rfl (pc0 := 44) (pc' := 47) (same := true) rfl (hb hby at_44) rfl (decide_eq_true rfl) (by decide) (by decide) ?_
    show Steps p.tables e below (T11.setTop (mkF m 47 #[.val (.int p1), .val (.int p2), .val (.int p3), .val (.int p4), .val (.int (p1 &&& (3 : Int32))), .val (.int (4 : Int32)), .val (.ref b1), .val (.int (1 : Int32))] [])) _
    refine XS.iconst X11.here hx rfl (hb hby at_47) ?_
    show Steps p.tables e below (T11.setTop (mkF m 48 #[.val (.int p1), .val (.int p2), .val (.int p3), .val (.int p4), .val (.int (p1 &&& (3 : Int32))), .val (.int (4 : Int32)), .val (.ref b1), .val (.int (1 : Int32))] [(.int (1 : Int32))])) _
    refine XS.goto X11.here hx rfl (pc0 := 48) (pc' := 52) rfl (hb hby at_48) (by decide) (by decide) ?_
    show Steps p.tables e below (T11.setTop (mkF m 52 #[.val (.int p1), .val (.int p2), .val (.int p3), .val (.int p4), .val (.int (p1 &&& (3 : Int32))), .val (.int (4 : Int32)), .val (.ref b1), .val (.int (1 : Int32))] [(.int (1 : Int32))])) _
    refine XS.istore X11.here hx rfl (hb hby at_52) rfl (l' := #[.val (.int p1), .val (.int p2), .val (.int p3), .val (.int p4), .val (.int (p1 &&& (3 : Int32))), .val (.int (4 : Int32)), .val (.ref b1), .val (.int (1 : Int32))]) rfl ?_
    show Steps p.tables e below (T11.setTop (mkF m 54 #[.val (.int p1), .val (.int p2), .val (.int p3), .val (.int p4), .val (.int (p1 &&& (3 : Int32))), .val (.int (4 : Int32)), .val (.ref b1), .val (.int (1 : Int32))] [])) _
    refine XS.iload X11.here hx rfl (hb hby at_54) rfl ?_
    show Steps p.tables e below (T11.setTop (mkF m 56 #[.val (.int p1), .val (.int p2), .val (.int p3), .val (.int p4), .val (.int (p1 &&& (3 : Int32))), .val (.int (4 : Int32)), .val (.ref b1), .val (.int (1 : Int32))] [(.int (4 : Int32))])) _
    refine XS.iconst X11.here hx rfl (hb hby at_56) ?_
    show Steps p.tables e below (T11.setTop (mkF m 57 #[.val (.int p1), .val (.int p2), .val (.int p3), .val (.int p4), .val (.int (p1 &&& (3 : Int32))), .val (.int (4 : Int32)), .val (.ref b1), .val (.int (1 : Int32))] [(.int (1 : Int32)), (.int (4 : Int32))])) _
    refine XS.icmpNo X11.here hx rfl (hb hby at_57) rfl (tlt (by decide : (1 : Int32) < (4 : Int32))).2.2.2 ?_
    show Steps p.tables e below (T11.setTop (mkF m 60 #[.val (.int p1), .val (.int p2), .val (.int p3), .val (.int p4), .val (.int (p1 &&& (3 : Int32))), .val (.int (4 : Int32)), .val (.ref b1), .val (.int (1 : Int32))] [])) _
    refine XS.iload X11.here hx rfl (hb hby at_60) rfl ?_
    show Steps p.tables e below (T11.setTop (mkF m 62 #[.val (.int p1), .val (.int p2), .val (.int p3), .val (.int p4), .val (.int (p1 &&& (3 : Int32))), .val (.int (4 : Int32)), .val (.ref b1), .val (.int (1 : Int32))] [(.int (1 : Int32))])) _
    refine XS.ifNo X11.here hx rfl (hb hby at_62) rfl ((if0 _ _).trans (feq (by decide : ¬ ((1 : Int32) = (0 : Int32)))).1) ?_
    show Steps p.tables e below (T11.setTop (mkF m 65 #[.val (.int p1), .val (.int p2), .val (.int p3), .val (.int p4), .val (.int (p1 &&& (3 : Int32))), .val (.int (4 : Int32)), .val (.ref b1), .val (.int (1 : Int32))] [])) _
    refine XS.aload X11.here hx rfl (hb hby at_65) rfl rfl ?_
    show Steps p.tables e below (T11.setTop (mkF m 67 #[.val (.int p1), .val (.int p2), .val (.int p3), .val (.int p4), .val (.int (p1 &&& (3 : Int32))), .val (.int (4 : Int32)), .val (.ref b1), .val (.int (1 : Int32))] [(.ref b1)])) _
    refine XS.iloadN X11.here hx rfl (hb hby at_67) rfl ?_
    show Steps p.tables e below (T11.setTop (mkF m 68 #[.val (.int p1), .val (.int p2), .val (.int p3), .val (.int p4), .val (.int (p1 &&& (3 : Int32))), .val (.int (4 : Int32)), .val (.ref b1), .val (.int (1 : Int32))] [(.int p3), (.ref b1)])) _
    refine XS.bipush X11.here hx rfl (hb hby at_68) ?_
    show Steps p.tables e below (T11.setTop (mkF m 70 #[.val (.int p1), .val (.int p2), .val (.int p3), .val (.int p4), .val (.int (p1 &&& (3 : Int32))), .val (.int (4 : Int32)), .val (.ref b1), .val (.int (1 : Int32))] [(.int (8 : Int32)), (.int p3), (.ref b1)])) _
    refine XS.iushr X11.here hx rfl (hb hby at_70) rfl ?_
    show Steps p.tables e below (T11.setTop (mkF m 71 #[.val (.int p1), .val (.int p2), .val (.int p3), .val (.int p4), .val (.int (p1 &&& (3 : Int32))), .val (.int (4 : Int32)), .val (.ref b1), .val (.int (1 : Int32))] [(.int ((p3.toUInt32 >>> ((8 : Int32) &&& 31).toUInt32).toInt32)), (.ref b1)])) _
    refine XS.i2b X11.here hx rfl (hb hby at_71) rfl ?_
    show Steps p.tables e below (T11.setTop (mkF m 72 #[.val (.int p1), .val (.int p2), .val (.int p3), .val (.int p4), .val (.int (p1 &&& (3 : Int32))), .val (.int (4 : Int32)), .val (.ref b1), .val (.int (1 : Int32))] [(.int (((p3.toUInt32 >>> ((8 : Int32) &&& 31).toUInt32).toInt32).toInt8.toInt32)), (.ref b1)])) _
    refine st18.trans ?_
    show Steps p.tables e below (T18.setTop (mkF m 75 #[.val (.int p1), .val (.int p2), .val (.int p3), .val (.int p4), .val (.int (p1 &&& (3 : Int32))), .val (.int (4 : Int32)), .val (.ref b1), .val (.int (1 : Int32))] [(.ref b1)])) _
    refine XS.aload X18.here hx rfl (hb hby at_75) rfl rfl ?_
    show Steps p.tables e below (T18.setTop (mkF m 77 #[.val (.int p1), .val (.int p2), .val (.int p3), .val (.int p4), .val (.int (p1 &&& (3 : Int32))), .val (.int (4 : Int32)), .val (.ref b1), .val (.int (1 : Int32))] [(.ref b1), (.ref b1)])) _
    refine Jvm.RoadKit.acmp (g := (mkF m 77 #[.val (.int p1), .val (.int p2), .val (.int p3), .val (.int p4), .val (.int (p1 &&& (3 : Int32))), .val (.int (4 : Int32)), .val (.ref b1), .val (.int (1 : Int32))] [(.ref b1), (.ref b1)])) X18 hx rfl rfl rfl (pc0 := 77) (pc' := 80) (same := true) rfl (hb hby at_77) rfl (decide_eq_true rfl) (by decide) (by decide) ?_
    show Steps p.tables e below (T18.setTop (mkF m 80 #[.val (.int p1), .val (.int p2), .val (.int p3), .val (.int p4), .val (.int (p1 &&& (3 : Int32))), .val (.int (4 : Int32)), .val (.ref b1), .val (.int (1 : Int32))] [])) _
    refine XS.iconst X18.here hx rfl (hb hby at_80) ?_
    show Steps p.tables e below (T18.setTop (mkF m 81 #[.val (.int p1), .val (.int p2), .val (.int p3), .val (.int p4), .val (.int (p1 &&& (3 : Int32))), .val (.int (4 : Int32)), .val (.ref b1), .val (.int (1 : Int32))] [(.int (1 : Int32))])) _
    refine XS.goto X18.here hx rfl (pc0 := 81) (pc' := 85) rfl (hb hby at_81) (by decide) (by decide) ?_
    show Steps p.tables e below (T18.setTop (mkF m 85 #[.val (.int p1), .val (.int p2), .val (.int p3), .val (.int p4), .val (.int (p1 &&& (3 : Int32))), .val (.int (4 : Int32)), .val (.ref b1), .val (.int (1 : Int32))] [(.int (1 : Int32))])) _
    refine XS.istore X18.here hx rfl (hb hby at_85) rfl (l' := #[.val (.int p1), .val (.int p2), .val (.int p3), .val (.int p4), .val (.int (p1 &&& (3 : Int32))), .val (.int (4 : Int32)), .val (.ref b1), .val (.int (1 : Int32))]) rfl ?_
    show Steps p.tables e below (T18.setTop (mkF m 87 #[.val (.int p1), .val (.int p2), .val (.int p3), .val (.int p4), .val (.int (p1 &&& (3 : Int32))), .val (.int (4 : Int32)), .val (.ref b1), .val (.int (1 : Int32))] [])) _
    refine XS.iload X18.here hx rfl (hb hby at_87) rfl ?_
    show Steps p.tables e below (T18.setTop (mkF m 89 #[.val (.int p1), .val (.int p2), .val (.int p3), .val (.int p4), .val (.int (p1 &&& (3 : Int32))), .val (.int (4 : Int32)), .val (.ref b1), .val (.int (1 : Int32))] [(.int (4 : Int32))])) _
    refine XS.iconst X18.here hx rfl (hb hby at_89) ?_
    show Steps p.tables e below (T18.setTop (mkF m 90 #[.val (.int p1), .val (.int p2), .val (.int p3), .val (.int p4), .val (.int (p1 &&& (3 : Int32))), .val (.int (4 : Int32)), .val (.ref b1), .val (.int (1 : Int32))] [(.int (2 : Int32)), (.int (4 : Int32))])) _
    refine XS.icmpNo X18.here hx rfl (hb hby at_90) rfl (tlt (by decide : (2 : Int32) < (4 : Int32))).2.2.2 ?_
    show Steps p.tables e below (T18.setTop (mkF m 93 #[.val (.int p1), .val (.int p2), .val (.int p3), .val (.int p4), .val (.int (p1 &&& (3 : Int32))), .val (.int (4 : Int32)), .val (.ref b1), .val (.int (1 : Int32))] [])) _
    refine XS.iload X18.here hx rfl (hb hby at_93) rfl ?_
    show Steps p.tables e below (T18.setTop (mkF m 95 #[.val (.int p1), .val (.int p2), .val (.int p3), .val (.int p4), .val (.int (p1 &&& (3 : Int32))), .val (.int (4 : Int32)), .val (.ref b1), .val (.int (1 : Int32))] [(.int (1 : Int32))])) _
    refine XS.ifNo X18.here hx rfl (hb hby at_95) rfl ((if0 _ _).trans (feq (by decide : ¬ ((1 : Int32) = (0 : Int32)))).1) ?_
    show Steps p.tables e below (T18.setTop (mkF m 98 #[.val (.int p1), .val (.int p2), .val (.int p3), .val (.int p4), .val (.int (p1 &&& (3 : Int32))), .val (.int (4 : Int32)), .val (.ref b1), .val (.int (1 : Int32))] [])) _
    refine XS.aload X18.here hx rfl (hb hby at_98) rfl rfl ?_
    show Steps p.tables e below (T18.setTop (mkF m 100 #[.val (.int p1), .val (.int p2), .val (.int p3), .val (.int p4), .val (.int (p1 &&& (3 : Int32))), .val (.int (4 : Int32)), .val (.ref b1), .val (.int (1 : Int32))] [(.ref b1)])) _
    refine XS.iloadN X18.here hx rfl (hb hby at_100) rfl ?_
    show Steps p.tables e below (T18.setTop (mkF m 101 #[.val (.int p1), .val (.int p2), .val (.int p3), .val (.int p4), .val (.int (p1 &&& (3 : Int32))), .val (.int (4 : Int32)), .val (.ref b1), .val (.int (1 : Int32))] [(.int p3), (.ref b1)])) _
    refine XS.bipush X18.here hx rfl (hb hby at_101) ?_
    show Steps p.tables e below (T18.setTop (mkF m 103 #[.val (.int p1), .val (.int p2), .val (.int p3), .val (.int p4), .val (.int (p1 &&& (3 : Int32))), .val (.int (4 : Int32)), .val (.ref b1), .val (.int (1 : Int32))] [(.int (16 : Int32)), (.int p3), (.ref b1)])) _
    refine XS.iushr X18.here hx rfl (hb hby at_103) rfl ?_
    show Steps p.tables e below (T18.setTop (mkF m 104 #[.val (.int p1), .val (.int p2), .val (.int p3), .val (.int p4), .val (.int (p1 &&& (3 : Int32))), .val (.int (4 : Int32)), .val (.ref b1), .val (.int (1 : Int32))] [(.int ((p3.toUInt32 >>> ((16 : Int32) &&& 31).toUInt32).toInt32)), (.ref b1)])) _
    refine XS.i2b X18.here hx rfl (hb hby at_104) rfl ?_
    show Steps p.tables e below (T18.setTop (mkF m 105 #[.val (.int p1), .val (.int p2), .val (.int p3), .val (.int p4), .val (.int (p1 &&& (3 : Int32))), .val (.int (4 : Int32)), .val (.ref b1), .val (.int (1 : Int32))] [(.int (((p3.toUInt32 >>> ((16 : Int32) &&& 31).toUInt32).toInt32).toInt8.toInt32)), (.ref b1)])) _
    refine st26.trans ?_
    show Steps p.tables e below (T26.setTop (mkF m 108 #[.val (.int p1), .val (.int p2), .val (.int p3), .val (.int p4), .val (.int (p1 &&& (3 : Int32))), .val (.int (4 : Int32)), .val (.ref b1), .val (.int (1 : Int32))] [(.ref b1)])) _
    refine XS.aload X26.here hx rfl (hb hby at_108) rfl rfl ?_
    show Steps p.tables e below (T26.setTop (mkF m 110 #[.val (.int p1), .val (.int p2), .val (.int p3), .val (.int p4), .val (.int (p1 &&& (3 : Int32))), .val (.int (4 : Int32)), .val (.ref b1), .val (.int (1 : Int32))] [(.ref b1), (.ref b1)])) _
    refine Jvm.RoadKit.acmp (g := (mkF m 110 #[.val (.int p1), .val (.int p2), .val (.int p3), .val (.int p4), .val (.int (p1 &&& (3 : Int32))), .val (.int (4 : Int32)), .val (.ref b1), .val (.int (1 : Int32))] [(.ref b1), (.ref b1)])) X26 hx rfl rfl rfl (pc0 := 110) (pc' := 113) (same := true) rfl (hb hby at_110) rfl (decide_eq_true rfl) (by decide) (by decide) ?_
    show Steps p.tables e below (T26.setTop (mkF m 113 #[.val (.int p1), .val (.int p2), .val (.int p3), .val (.int p4), .val (.int (p1 &&& (3 : Int32))), .val (.int (4 : Int32)), .val (.ref b1), .val (.int (1 : Int32))] [])) _
    refine XS.iconst X26.here hx rfl (hb hby at_113) ?_
    show Steps p.tables e below (T26.setTop (mkF m 114 #[.val (.int p1), .val (.int p2), .val (.int p3), .val (.int p4), .val (.int (p1 &&& (3 : Int32))), .val (.int (4 : Int32)), .val (.ref b1), .val (.int (1 : Int32))] [(.int (1 : Int32))])) _
    refine XS.goto X26.here hx rfl (pc0 := 114) (pc' := 118) rfl (hb hby at_114) (by decide) (by decide) ?_
    show Steps p.tables e below (T26.setTop (mkF m 118 #[.val (.int p1), .val (.int p2), .val (.int p3), .val (.int p4), .val (.int (p1 &&& (3 : Int32))), .val (.int (4 : Int32)), .val (.ref b1), .val (.int (1 : Int32))] [(.int (1 : Int32))])) _
    refine XS.istore X26.here hx rfl (hb hby at_118) rfl (l' := #[.val (.int p1), .val (.int p2), .val (.int p3), .val (.int p4), .val (.int (p1 &&& (3 : Int32))), .val (.int (4 : Int32)), .val (.ref b1), .val (.int (1 : Int32))]) rfl ?_
    show Steps p.tables e below (T26.setTop (mkF m 120 #[.val (.int p1), .val (.int p2), .val (.int p3), .val (.int p4), .val (.int (p1 &&& (3 : Int32))), .val (.int (4 : Int32)), .val (.ref b1), .val (.int (1 : Int32))] [])) _
    refine XS.iload X26.here hx rfl (hb hby at_120) rfl ?_
    show Steps p.tables e below (T26.setTop (mkF m 122 #[.val (.int p1), .val (.int p2), .val (.int p3), .val (.int p4), .val (.int (p1 &&& (3 : Int32))), .val (.int (4 : Int32)), .val (.ref b1), .val (.int (1 : Int32))] [(.int (4 : Int32))])) _
    refine XS.iconst X26.here hx rfl (hb hby at_122) ?_
    show Steps p.tables e below (T26.setTop (mkF m 123 #[.val (.int p1), .val (.int p2), .val (.int p3), .val (.int p4), .val (.int (p1 &&& (3 : Int32))), .val (.int (4 : Int32)), .val (.ref b1), .val (.int (1 : Int32))] [(.int (3 : Int32)), (.int (4 : Int32))])) _
    refine XS.icmpNo X26.here hx rfl (hb hby at_123) rfl (tlt (by decide : (3 : Int32) < (4 : Int32))).2.2.2 ?_
    show Steps p.tables e below (T26.setTop (mkF m 126 #[.val (.int p1), .val (.int p2), .val (.int p3), .val (.int p4), .val (.int (p1 &&& (3 : Int32))), .val (.int (4 : Int32)), .val (.ref b1), .val (.int (1 : Int32))] [])) _
    refine XS.iload X26.here hx rfl (hb hby at_126) rfl ?_
    show Steps p.tables e below (T26.setTop (mkF m 128 #[.val (.int p1), .val (.int p2), .val (.int p3), .val (.int p4), .val (.int (p1 &&& (3 : Int32))), .val (.int (4 : Int32)), .val (.ref b1), .val (.int (1 : Int32))] [(.int (1 : Int32))])) _
    refine XS.ifNo X26.here hx rfl (hb hby at_128) rfl ((if0 _ _).trans (feq (by decide : ¬ ((1 : Int32) = (0 : Int32)))).1) ?_
    show Steps p.tables e below (T26.setTop (mkF m 131 #[.val (.int p1), .val (.int p2), .val (.int p3), .val (.int p4), .val (.int (p1 &&& (3 : Int32))), .val (.int (4 : Int32)), .val (.ref b1), .val (.int (1 : Int32))] [])) _
    refine XS.aload X26.here hx rfl (hb hby at_131) rfl rfl ?_
    show Steps p.tables e below (T26.setTop (mkF m 133 #[.val (.int p1), .val (.int p2), .val (.int p3), .val (.int p4), .val (.int (p1 &&& (3 : Int32))), .val (.int (4 : Int32)), .val (.ref b1), .val (.int (1 : Int32))] [(.ref b1)])) _
    refine XS.iloadN X26.here hx rfl (hb hby at_133) rfl ?_
    show Steps p.tables e below (T26.setTop (mkF m 134 #[.val (.int p1), .val (.int p2), .val (.int p3), .val (.int p4), .val (.int (p1 &&& (3 : Int32))), .val (.int (4 : Int32)), .val (.ref b1), .val (.int (1 : Int32))] [(.int p3), (.ref b1)])) _
    refine XS.bipush X26.here hx rfl (hb hby at_134) ?_
    show Steps p.tables e below (T26.setTop (mkF m 136 #[.val (.int p1), .val (.int p2), .val (.int p3), .val (.int p4), .val (.int (p1 &&& (3 : Int32))), .val (.int (4 : Int32)), .val (.ref b1), .val (.int (1 : Int32))] [(.int (24 : Int32)), (.int p3), (.ref b1)])) _
    refine XS.iushr X26.here hx rfl (hb hby at_136) rfl ?_
    show Steps p.tables e below (T26.setTop (mkF m 137 #[.val (.int p1), .val (.int p2), .val (.int p3), .val (.int p4), .val (.int (p1 &&& (3 : Int32))), .val (.int (4 : Int32)), .val (.ref b1), .val (.int (1 : Int32))] [(.int ((p3.toUInt32 >>> ((24 : Int32) &&& 31).toUInt32).toInt32)), (.ref b1)])) _
    refine XS.i2b X26.here hx rfl (hb hby at_137) rfl ?_
    show Steps p.tables e below (T26.setTop (mkF m 138 #[.val (.int p1), .val (.int p2), .val (.int p3), .val (.int p4), .val (.int (p1 &&& (3 : Int32))), .val (.int (4 : Int32)), .val (.ref b1), .val (.int (1 : Int32))] [(.int (((p3.toUInt32 >>> ((24 : Int32) &&& 31).toUInt32).toInt32).toInt8.toInt32)), (.ref b1)])) _
    refine st35.trans ?_
    show Steps p.tables e below (T35.setTop (mkF m 141 #[.val (.int p1), .val (.int p2), .val (.int p3), .val (.int p4), .val (.int (p1 &&& (3 : Int32))), .val (.int (4 : Int32)), .val (.ref b1), .val (.int (1 : Int32))] [(.ref b1)])) _
    refine XS.aload X35.here hx rfl (hb hby at_141) rfl rfl ?_
    show Steps p.tables e below (T35.setTop (mkF m 143 #[.val (.int p1), .val (.int p2), .val (.int p3), .val (.int p4), .val (.int (p1 &&& (3 : Int32))), .val (.int (4 : Int32)), .val (.ref b1), .val (.int (1 : Int32))] [(.ref b1), (.ref b1)])) _
    refine Jvm.RoadKit.acmp (g := (mkF m 143 #[.val (.int p1), .val (.int p2), .val (.int p3), .val (.int p4), .val (.int (p1 &&& (3 : Int32))), .val (.int (4 : Int32)), .val (.ref b1), .val (.int (1 : Int32))] [(.ref b1), (.ref b1)])) X35 hx rfl rfl rfl (pc0 := 143) (pc' := 146) (same := true) rfl (hb hby at_143) rfl (decide_eq_true rfl) (by decide) (by decide) ?_
    show Steps p.tables e below (T35.setTop (mkF m 146 #[.val (.int p1), .val (.int p2), .val (.int p3), .val (.int p4), .val (.int (p1 &&& (3 : Int32))), .val (.int (4 : Int32)), .val (.ref b1), .val (.int (1 : Int32))] [])) _
    refine XS.iconst X35.here hx rfl (hb hby at_146) ?_
    show Steps p.tables e below (T35.setTop (mkF m 147 #[.val (.int p1), .val (.int p2), .val (.int p3), .val (.int p4), .val (.int (p1 &&& (3 : Int32))), .val (.int (4 : Int32)), .val (.ref b1), .val (.int (1 : Int32))] [(.int (1 : Int32))])) _
    refine XS.goto X35.here hx rfl (pc0 := 147) (pc' := 151) rfl (hb hby at_147) (by decide) (by decide) ?_
    show Steps p.tables e below (T35.setTop (mkF m 151 #[.val (.int p1), .val (.int p2), .val (.int p3), .val (.int p4), .val (.int (p1 &&& (3 : Int32))), .val (.int (4 : Int32)), .val (.ref b1), .val (.int (1 : Int32))] [(.int (1 : Int32))])) _
    refine XS.istore X35.here hx rfl (hb hby at_151) rfl (l' := #[.val (.int p1), .val (.int p2), .val (.int p3), .val (.int p4), .val (.int (p1 &&& (3 : Int32))), .val (.int (4 : Int32)), .val (.ref b1), .val (.int (1 : Int32))]) rfl ?_
    show Steps p.tables e below (T35.setTop (mkF m 153 #[.val (.int p1), .val (.int p2), .val (.int p3), .val (.int p4), .val (.int (p1 &&& (3 : Int32))), .val (.int (4 : Int32)), .val (.ref b1), .val (.int (1 : Int32))] [])) _
    refine XS.iload X35.here hx rfl (hb hby at_153) rfl ?_
    show Steps p.tables e below (T35.setTop (mkF m 155 #[.val (.int p1), .val (.int p2), .val (.int p3), .val (.int p4), .val (.int (p1 &&& (3 : Int32))), .val (.int (4 : Int32)), .val (.ref b1), .val (.int (1 : Int32))] [(.int (4 : Int32))])) _
    refine XS.iconst X35.here hx rfl (hb hby at_155) ?_
    show Steps p.tables e below (T35.setTop (mkF m 156 #[.val (.int p1), .val (.int p2), .val (.int p3), .val (.int p4), .val (.int (p1 &&& (3 : Int32))), .val (.int (4 : Int32)), .val (.ref b1), .val (.int (1 : Int32))] [(.int (4 : Int32)), (.int (4 : Int32))])) _
    refine XS.icmpYes X35.here hx rfl (pc0 := 156) (pc' := 183) rfl (hb hby at_156) rfl (flt (by decide : ¬ ((4 : Int32) < (4 : Int32)))).2.2.2 (by decide) (by decide) ?_
    show Steps p.tables e below (T35.setTop (mkF m 183 #[.val (.int p1), .val (.int p2), .val (.int p3), .val (.int p4), .val (.int (p1 &&& (3 : Int32))), .val (.int (4 : Int32)), .val (.ref b1), .val (.int (1 : Int32))] [])) _
    refine XS.iload X35.here hx rfl (hb hby at_183) rfl ?_
    show Steps p.tables e below (T35.setTop (mkF m 185 #[.val (.int p1), .val (.int p2), .val (.int p3), .val (.int p4), .val (.int (p1 &&& (3 : Int32))), .val (.int (4 : Int32)), .val (.ref b1), .val (.int (1 : Int32))] [(.int (4 : Int32))])) _
    refine XS.iconst X35.here hx rfl (hb hby at_185) ?_
    show Steps p.tables e below (T35.setTop (mkF m 186 #[.val (.int p1), .val (.int p2), .val (.int p3), .val (.int p4), .val (.int (p1 &&& (3 : Int32))), .val (.int (4 : Int32)), .val (.ref b1), .val (.int (1 : Int32))] [(.int (5 : Int32)), (.int (4 : Int32))])) _
    refine XS.icmpYes X35.here hx rfl (pc0 := 186) (pc' := 216) rfl (hb hby at_186) rfl (flt (by decide : ¬ ((5 : Int32) < (4 : Int32)))).2.2.2 (by decide) (by decide) ?_
    show Steps p.tables e below (T35.setTop (mkF m 216 #[.val (.int p1), .val (.int p2), .val (.int p3), .val (.int p4), .val (.int (p1 &&& (3 : Int32))), .val (.int (4 : Int32)), .val (.ref b1), .val (.int (1 : Int32))] [])) _
    refine XS.iload X35.here hx rfl (hb hby at_216) rfl ?_
    show Steps p.tables e below (T35.setTop (mkF m 218 #[.val (.int p1), .val (.int p2), .val (.int p3), .val (.int p4), .val (.int (p1 &&& (3 : Int32))), .val (.int (4 : Int32)), .val (.ref b1), .val (.int (1 : Int32))] [(.int (4 : Int32))])) _
    refine XS.bipush X35.here hx rfl (hb hby at_218) ?_
    show Steps p.tables e below (T35.setTop (mkF m 220 #[.val (.int p1), .val (.int p2), .val (.int p3), .val (.int p4), .val (.int (p1 &&& (3 : Int32))), .val (.int (4 : Int32)), .val (.ref b1), .val (.int (1 : Int32))] [(.int (6 : Int32)), (.int (4 : Int32))])) _
    refine XS.icmpYes X35.here hx rfl (pc0 := 220) (pc' := 250) rfl (hb hby at_220) rfl (flt (by decide : ¬ ((6 : Int32) < (4 : Int32)))).2.2.2 (by decide) (by decide) ?_
    show Steps p.tables e below (T35.setTop (mkF m 250 #[.val (.int p1), .val (.int p2), .val (.int p3), .val (.int p4), .val (.int (p1 &&& (3 : Int32))), .val (.int (4 : Int32)), .val (.ref b1), .val (.int (1 : Int32))] [])) _
    refine XS.iload X35.here hx rfl (hb hby at_250) rfl ?_
    show Steps p.tables e below (T35.setTop (mkF m 252 #[.val (.int p1), .val (.int p2), .val (.int p3), .val (.int p4), .val (.int (p1 &&& (3 : Int32))), .val (.int (4 : Int32)), .val (.ref b1), .val (.int (1 : Int32))] [(.int (1 : Int32))])) _
    refine XS.ifNo X35.here hx rfl (hb hby at_252) rfl ((if0 _ _).trans (feq (by decide : ¬ ((1 : Int32) = (0 : Int32)))).1) ?_
    show Steps p.tables e below (T35.setTop (mkF m 255 #[.val (.int p1), .val (.int p2), .val (.int p3), .val (.int p4), .val (.int (p1 &&& (3 : Int32))), .val (.int (4 : Int32)), .val (.ref b1), .val (.int (1 : Int32))] [])) _
    refine XS.aload X35.here hx rfl (hb hby at_255) rfl rfl ?_
    show Steps p.tables e below (T35.setTop (mkF m 257 #[.val (.int p1), .val (.int p2), .val (.int p3), .val (.int p4), .val (.int (p1 &&& (3 : Int32))), .val (.int (4 : Int32)), .val (.ref b1), .val (.int (1 : Int32))] [(.ref b1)])) _
    refine st45.trans ?_
    show Steps p.tables e below (T45.setTop (mkF m 260 #[.val (.int p1), .val (.int p2), .val (.int p3), .val (.int p4), .val (.int (p1 &&& (3 : Int32))), .val (.int (4 : Int32)), .val (.ref b1), .val (.int (1 : Int32))] [(.int (4 : Int32))])) _
    refine XS.iload X45.here hx rfl (hb hby at_260) rfl ?_
    show Steps p.tables e below (T45.setTop (mkF m 262 #[.val (.int p1), .val (.int p2), .val (.int p3), .val (.int p4), .val (.int (p1 &&& (3 : Int32))), .val (.int (4 : Int32)), .val (.ref b1), .val (.int (1 : Int32))] [(.int (4 : Int32)), (.int (4 : Int32))])) _
    refine XS.icmpNo X45.here hx rfl (hb hby at_262) rfl (teq (by decide : (4 : Int32) = (4 : Int32))).2 ?_
    show Steps p.tables e below (T45.setTop (mkF m 265 #[.val (.int p1), .val (.int p2), .val (.int p3), .val (.int p4), .val (.int (p1 &&& (3 : Int32))), .val (.int (4 : Int32)), .val (.ref b1), .val (.int (1 : Int32))] [])) _
    refine XS.iconst X45.here hx rfl (hb hby at_265) ?_
    show Steps p.tables e below (T45.setTop (mkF m 266 #[.val (.int p1), .val (.int p2), .val (.int p3), .val (.int p4), .val (.int (p1 &&& (3 : Int32))), .val (.int (4 : Int32)), .val (.ref b1), .val (.int (1 : Int32))] [(.int (1 : Int32))])) _
    refine XS.goto X45.here hx rfl (pc0 := 266) (pc' := 270) rfl (hb hby at_266) (by decide) (by decide) ?_
    show Steps p.tables e below (T45.setTop (mkF m 270 #[.val (.int p1), .val (.int p2), .val (.int p3), .val (.int p4), .val (.int (p1 &&& (3 : Int32))), .val (.int (4 : Int32)), .val (.ref b1), .val (.int (1 : Int32))] [(.int (1 : Int32))])) _
    exact retN X45 hx (t := .boolean) Bd.returns (by simp) (hb hby at_270) hr
  · show Q_law Z p1 p2 p3 p4 h0 n0 _ T45.heap _
    rw [e45]
    exact ⟨rfl, N46⟩
def Road_n5 (p1 : Int32) (p2 : Int32) (p3 : Int32) (p4 : Int32) : Prop := ((p2 &&& (7 : Int32)) = (5 : Int32)) ∧ (¬ ((p1 &&& (3 : Int32)) < (0 : Int32))) ∧ ((p1 &&& (3 : Int32)).toNatClampNeg ≤ 3) ∧ (own_B (0 : Int32) (p1 &&& (3 : Int32)) (List.replicate 16 (Value.int (0 : Int32))))
set_option maxRecDepth 65536 in
set_option maxHeartbeats 40000000 in
theorem rm_law_n5 (l : Launch) (Z : State) (a0 : Array Value) (hw : ∀ d ∈ tables_1, d.before a0 Z = true) (ws : List Jvm.Cond) (p1 : Int32) (p2 : Int32) (p3 : Int32) (p4 : Int32) (h0 : Heap) (n0 : Nat) (Z0 : n0 ≤ h0.size) (hroad : Road_n5 p1 p2 p3 p4) :
    MetFree l x (head1 (Jvm.Cond.code x code maxLocals ret :: ws) room_1) (fun a U => a = #[(.int p1), (.int p2), (.int p3), (.int p4)] ∧ Z.Warmed39 U.vm ∧ U.heap = h0) (fun _ _ _ _ _ => True) (fun _ U o U' => ∃ v L, o = .returned v ∧ Q_law Z p1 p2 p3 p4 h0 n0 v U'.heap L ∧ FrameEnd U o U' L room_1.cells room_1.slots) := by
  obtain ⟨hw_0, hp1, hp2, hp3⟩ := hroad
  refine MetFree.of_bodySF (plainFor_of_name pn_com_example_wellform_wellform_cli_ByteBatchAppendPinLaw) hisR ?_
  intro p e s m args below meth c s₁ Bd hml0 hP hK
  obtain ⟨rfl, hZ, hh⟩ := hP
  have hx := Bd.exec
  have hby := Bd.bytes
  have hml : c.maxLocals = 8 := hml0
  have hown : s.vm.findClass "com/example/wellform/wellform/cli/ByteBatchAppendPinLaw" = some m.cls := findClass_of_methodNamed Bd.named
  have hnm := (name_of_methodNamed Bd.named Bd.method).1
  have X0 : Stand p l e room_1 s m #[(.int p1), (.int p2), (.int p3), (.int p4)] below meth c s₁ [] 0 0 := Stand.of_body Bd
  have e0 : s₁.heap = h0 := by rw [← hh, Bd.state]; rfl
  have N0 := Fr.nil n0
  have pre0 : ∀ t, Steps p.tables e below (s₁.setTop (mkF m 0 #[.val (.int p1), .val (.int p2), .val (.int p3), .val (.int p4), .unset, .unset, .unset, .unset] [])) t → Steps p.tables e below (s₁.setTop (entryFrame m #[(.int p1), (.int p2), (.int p3), (.int p4)] maxLocals)) t := fun t k => castTop (ef_0_IIII m p1 p2 p3 p4) k
  obtain ⟨T1, h1, X1, e1, E1, A1, D1, -, st1⟩ := newO X0 hx hZ hown (hw _ (List.mem_of_getElem? (i := 0) rfl)) (hw _ (List.mem_of_getElem? (i := 1) rfl)) (hw _ (List.mem_of_getElem? (i := 2) rfl)) e0 (g := (mkF m 11 #[.val (.int p1), .val (.int p2), .val (.int p3), .val (.int p4), .val (.int (p1 &&& (3 : Int32))), .val (.int (5 : Int32)), .unset, .unset] [])) rfl (hb hby at_11) (by decide) (by decide)
  obtain ⟨b1, g1⟩ : ∃ z, z = h0.size := ⟨_, rfl⟩
  rw [← g1] at A1 D1 st1
  have g_b1 : n0 ≤ b1 := Nat.le_trans Z0 (Nat.le_of_eq g1.symm)
  have Zs2 : n0 ≤ h1.size := Nat.le_trans Z0 E1.1
  have f3 : Fld Z h1 b1 "com/example/wellform/wellform/cli/ByteBatch" "bytes" "[B" .null := D1 (Or.inl (hw _ (List.mem_of_getElem? (i := 11) rfl))) (ty := (.array .byte)) (by decide)
  have f4 : Fld Z h1 b1 "com/example/wellform/wellform/cli/ByteBatch" "size" "I" (.int (0 : Int32)) := D1 (Or.inl (hw _ (List.mem_of_getElem? (i := 22) rfl))) (ty := .int) (by decide)
  obtain ⟨_, _, ⟨T5, L5, k5, n5⟩, -, X5, ⟨Lc5, hQ5, l5, y5, z5⟩, st5⟩ := X1.specialBack hx (y := (⟨"com/example/wellform/wellform/cli/ByteBatch", "<init>", "(I)V"⟩ : MethodName)) rfl hown (mvT hZ (hw _ (List.mem_of_getElem? (i := 3) rfl))) (mvT hZ (hw _ (List.mem_of_getElem? (i := 4) rfl))) (mvT hZ (hw _ (List.mem_of_getElem? (i := 5) rfl))) (by decide) (backOf (W := 1) (rm_init l Z a0 hw [] b1 (p1 &&& (3 : Int32)) h1 n0 Zs2 A1 f3 g_b1 f4 hp1 hp2) hZ (hw _ (List.mem_of_getElem? (i := 5) rfl)) (hw _ (List.mem_of_getElem? (i := 2) rfl)) (by decide) (by decide)) (g := (mkF m 17 #[.val (.int p1), .val (.int p2), .val (.int p3), .val (.int p4), .val (.int (p1 &&& (3 : Int32))), .val (.int (5 : Int32)), .unset, .unset] [(.int (p1 &&& (3 : Int32))), (.ref b1), (.ref b1)])) rfl (by rw [hml]; rfl) (Steps.refl _) (a := b1) (argsL := [(.int (p1 &&& (3 : Int32)))]) (rest := [(.ref b1)]) (lenOf pd_2 rfl) rfl (by show 2 * 0 + _ ≤ _; exact Nat.le_of_eq rfl) (hb hby at_17) (fun _ _ => ⟨rfl, e1, (by decide : 1 + 1 ≤ _), (by decide : 2 + 3 ≤ _)⟩)
  dsimp only [Pt.U, Pt.locs, Pt.cells, Pt.slots] at X5 l5 y5 z5 st5 hQ5
  subst l5 y5 z5
  obtain ⟨b5_1, k5_2, rfl, Nq5, g_b5_1, szq_b5_1, Kc5, fq5_0, fq5_1, fq5_2, fq5_3, fq5_4⟩ := hQ5
  have ne_b1_b5_1 : b1 ≠ b5_1 := Nat.ne_of_lt (Nat.lt_of_lt_of_le A1.lt szq_b5_1)
  have f7 : Fld Z T5.heap b1 "com/example/wellform/wellform/cli/ByteBatch" "bytes" "[B" (.ref b5_1) := fq5_1
  have f8 : Fld Z T5.heap b1 "com/example/wellform/wellform/cli/ByteBatch" "size" "I" (.int (0 : Int32)) := fq5_2
  have f9 : Arv Z T5.heap b5_1 k5_2 .byte (p1 &&& (3 : Int32)) (List.replicate 16 (Value.int (0 : Int32))) (.int (0 : Int32)) := fq5_4
  have Zs10 : n0 ≤ T5.heap.size := Nat.le_trans Zs2 Kc5.1
  have N6 := Fr.app N0 Nq5
  obtain ⟨cq11, kq11, q11a, q11b, q11c⟩ := isOf hZ rfl fq5_0
  obtain ⟨_, _, ⟨T11, L11, k11, n11⟩, -, X11, ⟨Lc11, hQ11, l11, y11, z11⟩, st11⟩ := X5.virtualBack hx (y := (⟨"com/example/wellform/wellform/cli/ByteBatch", "append", "(B)Lcom/example/wellform/wellform/cli/ByteBatch;"⟩ : MethodName)) (z := (⟨"com/example/wellform/wellform/cli/ByteBatch", "append", "(B)Lcom/example/wellform/wellform/cli/ByteBatch;"⟩ : MethodName)) hown (mvT hZ (hw _ (List.mem_of_getElem? (i := 12) rfl))) (mvT hZ (hw _ (List.mem_of_getElem? (i := 13) rfl))) (notFace_of_selects (args := #[]) (mvT hZ (hw _ (List.mem_of_getElem? (i := 15) rfl)))) (mvT hZ (hw _ (List.mem_of_getElem? (i := 15) rfl))) (mvT hZ (hw _ (List.mem_of_getElem? (i := 14) rfl))) (by decide) (backOf (W := 0) (rm_append l Z a0 hw [] b1 (p3.toInt8.toInt32) b5_1 k5_2 (p1 &&& (3 : Int32)) (List.replicate 16 (Value.int (0 : Int32))) (0 : Int32) T5.heap n0 Zs10 f7 fq5_3 f9 f8 fq5_0 g_b1 g_b5_1 hp3 (by decide)) hZ (hw _ (List.mem_of_getElem? (i := 16) rfl)) (hw _ (List.mem_of_getElem? (i := 2) rfl)) (by decide) (by decide)) q11a q11c (g := (mkF m 39 #[.val (.int p1), .val (.int p2), .val (.int p3), .val (.int p4), .val (.int (p1 &&& (3 : Int32))), .val (.int (5 : Int32)), .val (.ref b1), .val (.int (1 : Int32))] [(.int (p3.toInt8.toInt32)), (.ref b1)])) rfl (by rw [hml]; rfl) (Steps.refl _) (argsL := [(.int (p3.toInt8.toInt32))]) (rest := []) (lenOf pd_4 rfl) rfl (by show 2 * 0 + _ ≤ _; exact Nat.le_of_eq rfl) (hb hby at_39) (fun _ _ => ⟨rfl, rfl, (by decide : 2 + 1 ≤ _), (by decide : 5 + 14 ≤ _)⟩)
  dsimp only [Pt.U, Pt.locs, Pt.cells, Pt.slots] at X11 l11 y11 z11 st11 hQ11
  subst l11 y11 z11
  obtain ⟨b11_1, k11_2, i11_3, us11_4, rfl, Nq11, g_b11_1, hq11_0, Kc11, fq11_0, fq11_1, fq11_2, fq11_3, fq11_4⟩ := hQ11
  have f13 : Exa Z T11.heap b5_1 "[B" := fq5_3.keep Kc11
  have f14 : Fld Z T11.heap b1 "com/example/wellform/wellform/cli/ByteBatch" "bytes" "[B" (.ref b11_1) := fq11_1
  have f15 : Fld Z T11.heap b1 "com/example/wellform/wellform/cli/ByteBatch" "size" "I" (.int (1 : Int32)) := fq11_2
  have f16 : Arv Z T11.heap b11_1 k11_2 .byte i11_3 us11_4 (.int (0 : Int32)) := fq11_4
  have Zs17 : n0 ≤ T11.heap.size := Nat.le_trans Zs10 Kc11.1
  have N12 := Fr.app N6 Nq11
  obtain ⟨cq18, kq18, q18a, q18b, q18c⟩ := isOf hZ rfl fq11_0
  obtain ⟨_, _, ⟨T18, L18, k18, n18⟩, -, X18, ⟨Lc18, hQ18, l18, y18, z18⟩, st18⟩ := X11.virtualBack hx (y := (⟨"com/example/wellform/wellform/cli/ByteBatch", "append", "(B)Lcom/example/wellform/wellform/cli/ByteBatch;"⟩ : MethodName)) (z := (⟨"com/example/wellform/wellform/cli/ByteBatch", "append", "(B)Lcom/example/wellform/wellform/cli/ByteBatch;"⟩ : MethodName)) hown (mvT hZ (hw _ (List.mem_of_getElem? (i := 12) rfl))) (mvT hZ (hw _ (List.mem_of_getElem? (i := 13) rfl))) (notFace_of_selects (args := #[]) (mvT hZ (hw _ (List.mem_of_getElem? (i := 15) rfl)))) (mvT hZ (hw _ (List.mem_of_getElem? (i := 15) rfl))) (mvT hZ (hw _ (List.mem_of_getElem? (i := 14) rfl))) (by decide) (backOf (W := 0) (rm_append l Z a0 hw [] b1 (((p3.toUInt32 >>> ((8 : Int32) &&& 31).toUInt32).toInt32).toInt8.toInt32) b11_1 k11_2 i11_3 us11_4 (1 : Int32) T11.heap n0 Zs17 f14 fq11_3 f16 f15 fq11_0 g_b1 g_b11_1 hq11_0 (by decide)) hZ (hw _ (List.mem_of_getElem? (i := 16) rfl)) (hw _ (List.mem_of_getElem? (i := 2) rfl)) (by decide) (by decide)) q18a q18c (g := (mkF m 72 #[.val (.int p1), .val (.int p2), .val (.int p3), .val (.int p4), .val (.int (p1 &&& (3 : Int32))), .val (.int (5 : Int32)), .val (.ref b1), .val (.int (1 : Int32))] [(.int (((p3.toUInt32 >>> ((8 : Int32) &&& 31).toUInt32).toInt32).toInt8.toInt32)), (.ref b1)])) rfl (by rw [hml]; rfl) (Steps.refl _) (argsL := [(.int (((p3.toUInt32 >>> ((8 : Int32) &&& 31).toUInt32).toInt32).toInt8.toInt32))]) (rest := []) (lenOf pd_4 rfl) rfl (by show 2 * 0 + _ ≤ _; exact Nat.le_of_eq rfl) (hb hby at_72) (fun _ _ => ⟨rfl, rfl, (by decide : 3 + 1 ≤ _), (by decide : 19 + 14 ≤ _)⟩)
  dsimp only [Pt.U, Pt.locs, Pt.cells, Pt.slots] at X18 l18 y18 z18 st18 hQ18
  subst l18 y18 z18
  obtain ⟨b18_1, k18_2, i18_3, us18_4, rfl, Nq18, g_b18_1, hq18_0, Kc18, fq18_0, fq18_1, fq18_2, fq18_3, fq18_4⟩ := hQ18
  have ne_b1_b11_1 : b1 ≠ b11_1 := ne_exa fq11_0 fq11_3 (by decide)
  have f20 : Exa Z T18.heap b5_1 "[B" := f13.keep Kc18
  have f21 : Exa Z T18.heap b11_1 "[B" := fq11_3.keep Kc18
  have f22 : Fld Z T18.heap b1 "com/example/wellform/wellform/cli/ByteBatch" "bytes" "[B" (.ref b18_1) := fq18_1
  have f23 : Fld Z T18.heap b1 "com/example/wellform/wellform/cli/ByteBatch" "size" "I" (.int (2 : Int32)) := fq18_2
  have f24 : Arv Z T18.heap b18_1 k18_2 .byte i18_3 us18_4 (.int (0 : Int32)) := fq18_4
  have Zs25 : n0 ≤ T18.heap.size := Nat.le_trans Zs17 Kc18.1
  have N19 := Fr.app N12 Nq18
  obtain ⟨cq26, kq26, q26a, q26b, q26c⟩ := isOf hZ rfl fq18_0
  obtain ⟨_, _, ⟨T26, L26, k26, n26⟩, -, X26, ⟨Lc26, hQ26, l26, y26, z26⟩, st26⟩ := X18.virtualBack hx (y := (⟨"com/example/wellform/wellform/cli/ByteBatch", "append", "(B)Lcom/example/wellform/wellform/cli/ByteBatch;"⟩ : MethodName)) (z := (⟨"com/example/wellform/wellform/cli/ByteBatch", "append", "(B)Lcom/example/wellform/wellform/cli/ByteBatch;"⟩ : MethodName)) hown (mvT hZ (hw _ (List.mem_of_getElem? (i := 12) rfl))) (mvT hZ (hw _ (List.mem_of_getElem? (i := 13) rfl))) (notFace_of_selects (args := #[]) (mvT hZ (hw _ (List.mem_of_getElem? (i := 15) rfl)))) (mvT hZ (hw _ (List.mem_of_getElem? (i := 15) rfl))) (mvT hZ (hw _ (List.mem_of_getElem? (i := 14) rfl))) (by decide) (backOf (W := 0) (rm_append l Z a0 hw [] b1 (((p3.toUInt32 >>> ((16 : Int32) &&& 31).toUInt32).toInt32).toInt8.toInt32) b18_1 k18_2 i18_3 us18_4 (2 : Int32) T18.heap n0 Zs25 f22 fq18_3 f24 f23 fq18_0 g_b1 g_b18_1 hq18_0 (by decide)) hZ (hw _ (List.mem_of_getElem? (i := 16) rfl)) (hw _ (List.mem_of_getElem? (i := 2) rfl)) (by decide) (by decide)) q26a q26c (g := (mkF m 105 #[.val (.int p1), .val (.int p2), .val (.int p3), .val (.int p4), .val (.int (p1 &&& (3 : Int32))), .val (.int (5 : Int32)), .val (.ref b1), .val (.int (1 : Int32))] [(.int (((p3.toUInt32 >>> ((16 : Int32) &&& 31).toUInt32).toInt32).toInt8.toInt32)), (.ref b1)])) rfl (by rw [hml]; rfl) (Steps.refl _) (argsL := [(.int (((p3.toUInt32 >>> ((16 : Int32) &&& 31).toUInt32).toInt32).toInt8.toInt32))]) (rest := []) (lenOf pd_4 rfl) rfl (by show 2 * 0 + _ ≤ _; exact Nat.le_of_eq rfl) (hb hby at_105) (fun _ _ => ⟨rfl, rfl, (by decide : 4 + 1 ≤ _), (by decide : 33 + 14 ≤ _)⟩)
  dsimp only [Pt.U, Pt.locs, Pt.cells, Pt.slots] at X26 l26 y26 z26 st26 hQ26
  subst l26 y26 z26
  obtain ⟨b26_1, k26_2, i26_3, us26_4, rfl, Nq26, g_b26_1, hq26_0, Kc26, fq26_0, fq26_1, fq26_2, fq26_3, fq26_4⟩ := hQ26
  have ne_b1_b18_1 : b1 ≠ b18_1 := ne_exa fq18_0 fq18_3 (by decide)
  have f28 : Exa Z T26.heap b5_1 "[B" := f20.keep Kc26
  have f29 : Exa Z T26.heap b11_1 "[B" := f21.keep Kc26
  have f30 : Exa Z T26.heap b18_1 "[B" := fq18_3.keep Kc26
  have f31 : Fld Z T26.heap b1 "com/example/wellform/wellform/cli/ByteBatch" "bytes" "[B" (.ref b26_1) := fq26_1
  have f32 : Fld Z T26.heap b1 "com/example/wellform/wellform/cli/ByteBatch" "size" "I" (.int (3 : Int32)) := fq26_2
  have f33 : Arv Z T26.heap b26_1 k26_2 .byte i26_3 us26_4 (.int (0 : Int32)) := fq26_4
  have Zs34 : n0 ≤ T26.heap.size := Nat.le_trans Zs25 Kc26.1
  have N27 := Fr.app N19 Nq26
  obtain ⟨cq35, kq35, q35a, q35b, q35c⟩ := isOf hZ rfl fq26_0
  obtain ⟨_, _, ⟨T35, L35, k35, n35⟩, -, X35, ⟨Lc35, hQ35, l35, y35, z35⟩, st35⟩ := X26.virtualBack hx (y := (⟨"com/example/wellform/wellform/cli/ByteBatch", "append", "(B)Lcom/example/wellform/wellform/cli/ByteBatch;"⟩ : MethodName)) (z := (⟨"com/example/wellform/wellform/cli/ByteBatch", "append", "(B)Lcom/example/wellform/wellform/cli/ByteBatch;"⟩ : MethodName)) hown (mvT hZ (hw _ (List.mem_of_getElem? (i := 12) rfl))) (mvT hZ (hw _ (List.mem_of_getElem? (i := 13) rfl))) (notFace_of_selects (args := #[]) (mvT hZ (hw _ (List.mem_of_getElem? (i := 15) rfl)))) (mvT hZ (hw _ (List.mem_of_getElem? (i := 15) rfl))) (mvT hZ (hw _ (List.mem_of_getElem? (i := 14) rfl))) (by decide) (backOf (W := 0) (rm_append l Z a0 hw [] b1 (((p3.toUInt32 >>> ((24 : Int32) &&& 31).toUInt32).toInt32).toInt8.toInt32) b26_1 k26_2 i26_3 us26_4 (3 : Int32) T26.heap n0 Zs34 f31 fq26_3 f33 f32 fq26_0 g_b1 g_b26_1 hq26_0 (by decide)) hZ (hw _ (List.mem_of_getElem? (i := 16) rfl)) (hw _ (List.mem_of_getElem? (i := 2) rfl)) (by decide) (by decide)) q35a q35c (g := (mkF m 138 #[.val (.int p1), .val (.int p2), .val (.int p3), .val (.int p4), .val (.int (p1 &&& (3 : Int32))), .val (.int (5 : Int32)), .val (.ref b1), .val (.int (1 : Int32))] [(.int (((p3.toUInt32 >>> ((24 : Int32) &&& 31).toUInt32).toInt32).toInt8.toInt32)), (.ref b1)])) rfl (by rw [hml]; rfl) (Steps.refl _) (argsL := [(.int (((p3.toUInt32 >>> ((24 : Int32) &&& 31).toUInt32).toInt32).toInt8.toInt32))]) (rest := []) (lenOf pd_4 rfl) rfl (by show 2 * 0 + _ ≤ _; exact Nat.le_of_eq rfl) (hb hby at_138) (fun _ _ => ⟨rfl, rfl, (by decide : 5 + 1 ≤ _), (by decide : 47 + 14 ≤ _)⟩)
  dsimp only [Pt.U, Pt.locs, Pt.cells, Pt.slots] at X35 l35 y35 z35 st35 hQ35
  subst l35 y35 z35
  obtain ⟨b35_1, k35_2, i35_3, us35_4, rfl, Nq35, g_b35_1, hq35_0, Kc35, fq35_0, fq35_1, fq35_2, fq35_3, fq35_4⟩ := hQ35
  have ne_b1_b26_1 : b1 ≠ b26_1 := ne_exa fq26_0 fq26_3 (by decide)
  have f37 : Exa Z T35.heap b5_1 "[B" := f28.keep Kc35
  have f38 : Exa Z T35.heap b11_1 "[B" := f29.keep Kc35
  have f39 : Exa Z T35.heap b18_1 "[B" := f30.keep Kc35
  have f40 : Exa Z T35.heap b26_1 "[B" := fq26_3.keep Kc35
  have f41 : Fld Z T35.heap b1 "com/example/wellform/wellform/cli/ByteBatch" "bytes" "[B" (.ref b35_1) := fq35_1
  have f42 : Fld Z T35.heap b1 "com/example/wellform/wellform/cli/ByteBatch" "size" "I" (.int (4 : Int32)) := fq35_2
  have f43 : Arv Z T35.heap b35_1 k35_2 .byte i35_3 us35_4 (.int (0 : Int32)) := fq35_4
  have Zs44 : n0 ≤ T35.heap.size := Nat.le_trans Zs34 Kc35.1
  have N36 := Fr.app N27 Nq35
  obtain ⟨cq45, kq45, q45a, q45b, q45c⟩ := isOf hZ rfl fq35_0
  obtain ⟨_, _, ⟨T45, L45, k45, n45⟩, -, X45, ⟨Lc45, hQ45, l45, y45, z45⟩, st45⟩ := X35.virtualBack hx (y := (⟨"com/example/wellform/wellform/cli/ByteBatch", "append", "(B)Lcom/example/wellform/wellform/cli/ByteBatch;"⟩ : MethodName)) (z := (⟨"com/example/wellform/wellform/cli/ByteBatch", "append", "(B)Lcom/example/wellform/wellform/cli/ByteBatch;"⟩ : MethodName)) hown (mvT hZ (hw _ (List.mem_of_getElem? (i := 12) rfl))) (mvT hZ (hw _ (List.mem_of_getElem? (i := 13) rfl))) (notFace_of_selects (args := #[]) (mvT hZ (hw _ (List.mem_of_getElem? (i := 15) rfl)))) (mvT hZ (hw _ (List.mem_of_getElem? (i := 15) rfl))) (mvT hZ (hw _ (List.mem_of_getElem? (i := 14) rfl))) (by decide) (backOf (W := 0) (rm_append l Z a0 hw [] b1 (p4.toInt8.toInt32) b35_1 k35_2 i35_3 us35_4 (4 : Int32) T35.heap n0 Zs44 f41 fq35_3 f43 f42 fq35_0 g_b1 g_b35_1 hq35_0 (by decide)) hZ (hw _ (List.mem_of_getElem? (i := 16) rfl)) (hw _ (List.mem_of_getElem? (i := 2) rfl)) (by decide) (by decide)) q45a q45c (g := (mkF m 168 #[.val (.int p1), .val (.int p2), .val (.int p3), .val (.int p4), .val (.int (p1 &&& (3 : Int32))), .val (.int (5 : Int32)), .val (.ref b1), .val (.int (1 : Int32))] [(.int (p4.toInt8.toInt32)), (.ref b1)])) rfl (by rw [hml]; rfl) (Steps.refl _) (argsL := [(.int (p4.toInt8.toInt32))]) (rest := []) (lenOf pd_4 rfl) rfl (by show 2 * 0 + _ ≤ _; exact Nat.le_of_eq rfl) (hb hby at_168) (fun _ _ => ⟨rfl, rfl, (by decide : 6 + 1 ≤ _), (by decide : 61 + 14 ≤ _)⟩)
  dsimp only [Pt.U, Pt.locs, Pt.cells, Pt.slots] at X45 l45 y45 z45 st45 hQ45
  subst l45 y45 z45
  obtain ⟨b45_1, k45_2, i45_3, us45_4, rfl, Nq45, g_b45_1, hq45_0, Kc45, fq45_0, fq45_1, fq45_2, fq45_3, fq45_4⟩ := hQ45
  have ne_b1_b35_1 : b1 ≠ b35_1 := ne_exa fq35_0 fq35_3 (by decide)
  have f47 : Exa Z T45.heap b5_1 "[B" := f37.keep Kc45
  have f48 : Exa Z T45.heap b11_1 "[B" := f38.keep Kc45
  have f49 : Exa Z T45.heap b18_1 "[B" := f39.keep Kc45
  have f50 : Exa Z T45.heap b26_1 "[B" := f40.keep Kc45
  have f51 : Exa Z T45.heap b35_1 "[B" := fq35_3.keep Kc45
  have f52 : Fld Z T45.heap b1 "com/example/wellform/wellform/cli/ByteBatch" "bytes" "[B" (.ref b45_1) := fq45_1
  have f53 : Fld Z T45.heap b1 "com/example/wellform/wellform/cli/ByteBatch" "size" "I" (.int (5 : Int32)) := fq45_2
  have f54 : Arv Z T45.heap b45_1 k45_2 .byte i45_3 us45_4 (.int (0 : Int32)) := fq45_4
  have Zs55 : n0 ≤ T45.heap.size := Nat.le_trans Zs44 Kc45.1
  have N46 := Fr.app N36 Nq45
  obtain ⟨cq56, kq56, q56a, q56b, q56c⟩ := isOf hZ rfl fq45_0
  obtain ⟨_, _, ⟨T56, L56, k56, n56⟩, -, X56, ⟨Lc56, hQ56, l56, y56, z56⟩, st56⟩ := X45.virtualBack hx (y := (⟨"com/example/wellform/wellform/cli/ByteBatch", "size", "()I"⟩ : MethodName)) (z := (⟨"com/example/wellform/wellform/cli/ByteBatch", "size", "()I"⟩ : MethodName)) hown (mvT hZ (hw _ (List.mem_of_getElem? (i := 38) rfl))) (mvT hZ (hw _ (List.mem_of_getElem? (i := 39) rfl))) (notFace_of_selects (args := #[]) (mvT hZ (hw _ (List.mem_of_getElem? (i := 41) rfl)))) (mvT hZ (hw _ (List.mem_of_getElem? (i := 41) rfl))) (mvT hZ (hw _ (List.mem_of_getElem? (i := 40) rfl))) (by decide) (backOf (W := 0) (rm_size l Z a0 hw [] b1 (5 : Int32) T45.heap n0 Zs55 f53) hZ (hw _ (List.mem_of_getElem? (i := 42) rfl)) (hw _ (List.mem_of_getElem? (i := 2) rfl)) (by decide) (by decide)) q56a q56c (g := (mkF m 257 #[.val (.int p1), .val (.int p2), .val (.int p3), .val (.int p4), .val (.int (p1 &&& (3 : Int32))), .val (.int (5 : Int32)), .val (.ref b1), .val (.int (1 : Int32))] [(.ref b1)])) rfl (by rw [hml]; rfl) (Steps.refl _) (argsL := []) (rest := []) (lenOf pd_3 rfl) rfl (by show 2 * 0 + _ ≤ _; exact Nat.le_of_eq rfl) (hb hby at_257) (fun _ _ => ⟨rfl, rfl, (by decide : 7 + 0 ≤ _), (by decide : 75 + 0 ≤ _)⟩)
  dsimp only [Pt.U, Pt.locs, Pt.cells, Pt.slots] at X56 l56 y56 z56 st56 hQ56
  subst l56 y56 z56
  obtain ⟨rfl, Nq56, e56⟩ := hQ56
  have N57 := Fr.app N46 Nq56
  obtain ⟨fs, hr, hrun, hended, hW, hsame⟩ := X56.leave (v := some (.int (1 : Int32))) (fun h => by rw [Bd.returns] at h; cases h) Bd.notSynchronized
  refine ⟨_, _, pre0 _ ?_, hrun, hended, _, _, rfl, ?_, ⟨_, rfl⟩, hW, hsame.mono (by decide) (by decide)⟩
  · show Steps p.tables e below (s₁.setTop (mkF m 0 #[.val (.int p1), .val (.int p2), .val (.int p3), .val (.int p4), .unset, .unset, .unset, .unset] [])) _
    refine XS.iloadN X0.here hx rfl (hb hby at_0) rfl ?_
    show Steps p.tables e below (s₁.setTop (mkF m 1 #[.val (.int p1), .val (.int p2), .val (.int p3), .val (.int p4), .unset, .unset, .unset, .unset] [(.int p1)])) _
    refine XS.iconst X0.here hx rfl (hb hby at_1) ?_
    show Steps p.tables e below (s₁.setTop (mkF m 2 #[.val (.int p1), .val (.int p2), .val (.int p3), .val (.int p4), .unset, .unset, .unset, .unset] [(.int (3 : Int32)), (.int p1)])) _
    refine XS.iand X0.here hx rfl (hb hby at_2) rfl ?_
    show Steps p.tables e below (s₁.setTop (mkF m 3 #[.val (.int p1), .val (.int p2), .val (.int p3), .val (.int p4), .unset, .unset, .unset, .unset] [(.int (p1 &&& (3 : Int32)))])) _
    refine XS.istore X0.here hx rfl (hb hby at_3) rfl (l' := #[.val (.int p1), .val (.int p2), .val (.int p3), .val (.int p4), .val (.int (p1 &&& (3 : Int32))), .unset, .unset, .unset]) rfl ?_
    show Steps p.tables e below (s₁.setTop (mkF m 5 #[.val (.int p1), .val (.int p2), .val (.int p3), .val (.int p4), .val (.int (p1 &&& (3 : Int32))), .unset, .unset, .unset] [])) _
    refine XS.iloadN X0.here hx rfl (hb hby at_5) rfl ?_
    show Steps p.tables e below (s₁.setTop (mkF m 6 #[.val (.int p1), .val (.int p2), .val (.int p3), .val (.int p4), .val (.int (p1 &&& (3 : Int32))), .unset, .unset, .unset] [(.int p2)])) _
    refine XS.bipush X0.here hx rfl (hb hby at_6) ?_
    show Steps p.tables e below (s₁.setTop (mkF m 8 #[.val (.int p1), .val (.int p2), .val (.int p3), .val (.int p4), .val (.int (p1 &&& (3 : Int32))), .unset, .unset, .unset] [(.int (7 : Int32)), (.int p2)])) _
    refine XS.iand X0.here hx rfl (hb hby at_8) rfl ?_
    show Steps p.tables e below (s₁.setTop (mkF m 9 #[.val (.int p1), .val (.int p2), .val (.int p3), .val (.int p4), .val (.int (p1 &&& (3 : Int32))), .unset, .unset, .unset] [(.int (p2 &&& (7 : Int32)))])) _
    refine XS.istore X0.here hx rfl (hb hby at_9) rfl (l' := #[.val (.int p1), .val (.int p2), .val (.int p3), .val (.int p4), .val (.int (p1 &&& (3 : Int32))), .val (.int (p2 &&& (7 : Int32))), .unset, .unset]) rfl ?_
    show Steps p.tables e below (s₁.setTop (mkF m 11 #[.val (.int p1), .val (.int p2), .val (.int p3), .val (.int p4), .val (.int (p1 &&& (3 : Int32))), .val (.int (p2 &&& (7 : Int32))), .unset, .unset] [])) _
    rw [hw_0]
    show Steps p.tables e below (s₁.setTop (mkF m 11 #[.val (.int p1), .val (.int p2), .val (.int p3), .val (.int p4), .val (.int (p1 &&& (3 : Int32))), .val (.int (5 : Int32)), .unset, .unset] [])) _
    refine st1 _ ?_
    show Steps p.tables e below (T1.setTop (mkF m 14 #[.val (.int p1), .val (.int p2), .val (.int p3), .val (.int p4), .val (.int (p1 &&& (3 : Int32))), .val (.int (5 : Int32)), .unset, .unset] [(.ref b1)])) _
    refine XS.dup X1.here hx rfl (hb hby at_14) rfl rfl ?_
    show Steps p.tables e below (T1.setTop (mkF m 15 #[.val (.int p1), .val (.int p2), .val (.int p3), .val (.int p4), .val (.int (p1 &&& (3 : Int32))), .val (.int (5 : Int32)), .unset, .unset] [(.ref b1), (.ref b1)])) _
    refine XS.iload X1.here hx rfl (hb hby at_15) rfl ?_
    show Steps p.tables e below (T1.setTop (mkF m 17 #[.val (.int p1), .val (.int p2), .val (.int p3), .val (.int p4), .val (.int (p1 &&& (3 : Int32))), .val (.int (5 : Int32)), .unset, .unset] [(.int (p1 &&& (3 : Int32))), (.ref b1), (.ref b1)])) _
    refine st5.trans ?_
    show Steps p.tables e below (T5.setTop (mkF m 20 #[.val (.int p1), .val (.int p2), .val (.int p3), .val (.int p4), .val (.int (p1 &&& (3 : Int32))), .val (.int (5 : Int32)), .unset, .unset] [(.ref b1)])) _
    refine XS.astore X5.here hx rfl (hb hby at_20) rfl rfl (l' := #[.val (.int p1), .val (.int p2), .val (.int p3), .val (.int p4), .val (.int (p1 &&& (3 : Int32))), .val (.int (5 : Int32)), .val (.ref b1), .unset]) rfl ?_
    show Steps p.tables e below (T5.setTop (mkF m 22 #[.val (.int p1), .val (.int p2), .val (.int p3), .val (.int p4), .val (.int (p1 &&& (3 : Int32))), .val (.int (5 : Int32)), .val (.ref b1), .unset] [])) _
    refine XS.iconst X5.here hx rfl (hb hby at_22) ?_
    show Steps p.tables e below (T5.setTop (mkF m 23 #[.val (.int p1), .val (.int p2), .val (.int p3), .val (.int p4), .val (.int (p1 &&& (3 : Int32))), .val (.int (5 : Int32)), .val (.ref b1), .unset] [(.int (1 : Int32))])) _
    refine XS.istore X5.here hx rfl (hb hby at_23) rfl (l' := #[.val (.int p1), .val (.int p2), .val (.int p3), .val (.int p4), .val (.int (p1 &&& (3 : Int32))), .val (.int (5 : Int32)), .val (.ref b1), .val (.int (1 : Int32))]) rfl ?_
    show Steps p.tables e below (T5.setTop (mkF m 25 #[.val (.int p1), .val (.int p2), .val (.int p3), .val (.int p4), .val (.int (p1 &&& (3 : Int32))), .val (.int (5 : Int32)), .val (.ref b1), .val (.int (1 : Int32))] [])) _
    refine XS.iload X5.here hx rfl (hb hby at_25) rfl ?_
    show Steps p.tables e below (T5.setTop (mkF m 27 #[.val (.int p1), .val (.int p2), .val (.int p3), .val (.int p4), .val (.int (p1 &&& (3 : Int32))), .val (.int (5 : Int32)), .val (.ref b1), .val (.int (1 : Int32))] [(.int (5 : Int32))])) _
    refine XS.ifNo X5.here hx rfl (hb hby at_27) rfl ((if0 _ _).trans (tlt (by decide : (0 : Int32) < (5 : Int32))).2.2.2) ?_
    show Steps p.tables e below (T5.setTop (mkF m 30 #[.val (.int p1), .val (.int p2), .val (.int p3), .val (.int p4), .val (.int (p1 &&& (3 : Int32))), .val (.int (5 : Int32)), .val (.ref b1), .val (.int (1 : Int32))] [])) _
    refine XS.iload X5.here hx rfl (hb hby at_30) rfl ?_
    show Steps p.tables e below (T5.setTop (mkF m 32 #[.val (.int p1), .val (.int p2), .val (.int p3), .val (.int p4), .val (.int (p1 &&& (3 : Int32))), .val (.int (5 : Int32)), .val (.ref b1), .val (.int (1 : Int32))] [(.int (1 : Int32))])) _
    refine XS.ifNo X5.here hx rfl (hb hby at_32) rfl ((if0 _ _).trans (feq (by decide : ¬ ((1 : Int32) = (0 : Int32)))).1) ?_
    show Steps p.tables e below (T5.setTop (mkF m 35 #[.val (.int p1), .val (.int p2), .val (.int p3), .val (.int p4), .val (.int (p1 &&& (3 : Int32))), .val (.int (5 : Int32)), .val (.ref b1), .val (.int (1 : Int32))] [])) _
    refine XS.aload X5.here hx rfl (hb hby at_35) rfl rfl ?_
    show Steps p.tables e below (T5.setTop (mkF m 37 #[.val (.int p1), .val (.int p2), .val (.int p3), .val (.int p4), .val (.int (p1 &&& (3 : Int32))), .val (.int (5 : Int32)), .val (.ref b1), .val (.int (1 : Int32))] [(.ref b1)])) _
    refine XS.iloadN X5.here hx rfl (hb hby at_37) rfl ?_
    show Steps p.tables e below (T5.setTop (mkF m 38 #[.val (.int p1), .val (.int p2), .val (.int p3), .val (.int p4), .val (.int (p1 &&& (3 : Int32))), .val (.int (5 : Int32)), .val (.ref b1), .val (.int (1 : Int32))] [(.int p3), (.ref b1)])) _
    refine XS.i2b X5.here hx rfl (hb hby at_38) rfl ?_
    show Steps p.tables e below (T5.setTop (mkF m 39 #[.val (.int p1), .val (.int p2), .val (.int p3), .val (.int p4), .val (.int (p1 &&& (3 : Int32))), .val (.int (5 : Int32)), .val (.ref b1), .val (.int (1 : Int32))] [(.int (p3.toInt8.toInt32)), (.ref b1)])) _
    refine st11.trans ?_
    show Steps p.tables e below (T11.setTop (mkF m 42 #[.val (.int p1), .val (.int p2), .val (.int p3), .val (.int p4), .val (.int (p1 &&& (3 : Int32))), .val (.int (5 : Int32)), .val (.ref b1), .val (.int (1 : Int32))] [(.ref b1)])) _
    refine XS.aload X11.here hx rfl (hb hby at_42) rfl rfl ?_
    show Steps p.tables e below (T11.setTop (mkF m 44 #[.val (.int p1), .val (.int p2), .val (.int p3), .val (.int p4), .val (.int (p1 &&& (3 : Int32))), .val (.int (5 : Int32)), .val (.ref b1), .val (.int (1 : Int32))] [(.ref b1), (.ref b1)])) _
    refine Jvm.RoadKit.acmp (g := (mkF m 44 #[.val (.int p1), .val (.int p2), .val (.int p3), .val (.int p4), .val (.int (p1 &&& (3 : Int32))), .val (.int (5 : Int32)), .val (.ref b1), .val (.int (1 : Int32))] [(.ref b1), (.ref b1)])) X11 hx rfl rfl rfl (pc0 := 44) (pc' := 47) (same := true) rfl (hb hby at_44) rfl (decide_eq_true rfl) (by decide) (by decide) ?_
    show Steps p.tables e below (T11.setTop (mkF m 47 #[.val (.int p1), .val (.int p2), .val (.int p3), .val (.int p4), .val (.int (p1 &&& (3 : Int32))), .val (.int (5 : Int32)), .val (.ref b1), .val (.int (1 : Int32))] [])) _
    refine XS.iconst X11.here hx rfl (hb hby at_47) ?_
    show Steps p.tables e below (T11.setTop (mkF m 48 #[.val (.int p1), .val (.int p2), .val (.int p3), .val (.int p4), .val (.int (p1 &&& (3 : Int32))), .val (.int (5 : Int32)), .val (.ref b1), .val (.int (1 : Int32))] [(.int (1 : Int32))])) _
    refine XS.goto X11.here hx rfl (pc0 := 48) (pc' := 52) rfl (hb hby at_48) (by decide) (by decide) ?_
    show Steps p.tables e below (T11.setTop (mkF m 52 #[.val (.int p1), .val (.int p2), .val (.int p3), .val (.int p4), .val (.int (p1 &&& (3 : Int32))), .val (.int (5 : Int32)), .val (.ref b1), .val (.int (1 : Int32))] [(.int (1 : Int32))])) _
    refine XS.istore X11.here hx rfl (hb hby at_52) rfl (l' := #[.val (.int p1), .val (.int p2), .val (.int p3), .val (.int p4), .val (.int (p1 &&& (3 : Int32))), .val (.int (5 : Int32)), .val (.ref b1), .val (.int (1 : Int32))]) rfl ?_
    show Steps p.tables e below (T11.setTop (mkF m 54 #[.val (.int p1), .val (.int p2), .val (.int p3), .val (.int p4), .val (.int (p1 &&& (3 : Int32))), .val (.int (5 : Int32)), .val (.ref b1), .val (.int (1 : Int32))] [])) _
    refine XS.iload X11.here hx rfl (hb hby at_54) rfl ?_
    show Steps p.tables e below (T11.setTop (mkF m 56 #[.val (.int p1), .val (.int p2), .val (.int p3), .val (.int p4), .val (.int (p1 &&& (3 : Int32))), .val (.int (5 : Int32)), .val (.ref b1), .val (.int (1 : Int32))] [(.int (5 : Int32))])) _
    refine XS.iconst X11.here hx rfl (hb hby at_56) ?_
    show Steps p.tables e below (T11.setTop (mkF m 57 #[.val (.int p1), .val (.int p2), .val (.int p3), .val (.int p4), .val (.int (p1 &&& (3 : Int32))), .val (.int (5 : Int32)), .val (.ref b1), .val (.int (1 : Int32))] [(.int (1 : Int32)), (.int (5 : Int32))])) _
    refine XS.icmpNo X11.here hx rfl (hb hby at_57) rfl (tlt (by decide : (1 : Int32) < (5 : Int32))).2.2.2 ?_
    show Steps p.tables e below (T11.setTop (mkF m 60 #[.val (.int p1), .val (.int p2), .val (.int p3), .val (.int p4), .val (.int (p1 &&& (3 : Int32))), .val (.int (5 : Int32)), .val (.ref b1), .val (.int (1 : Int32))] [])) _
    refine XS.iload X11.here hx rfl (hb hby at_60) rfl ?_
    show Steps p.tables e below (T11.setTop (mkF m 62 #[.val (.int p1), .val (.int p2), .val (.int p3), .val (.int p4), .val (.int (p1 &&& (3 : Int32))), .val (.int (5 : Int32)), .val (.ref b1), .val (.int (1 : Int32))] [(.int (1 : Int32))])) _
    refine XS.ifNo X11.here hx rfl (hb hby at_62) rfl ((if0 _ _).trans (feq (by decide : ¬ ((1 : Int32) = (0 : Int32)))).1) ?_
    show Steps p.tables e below (T11.setTop (mkF m 65 #[.val (.int p1), .val (.int p2), .val (.int p3), .val (.int p4), .val (.int (p1 &&& (3 : Int32))), .val (.int (5 : Int32)), .val (.ref b1), .val (.int (1 : Int32))] [])) _
    refine XS.aload X11.here hx rfl (hb hby at_65) rfl rfl ?_
    show Steps p.tables e below (T11.setTop (mkF m 67 #[.val (.int p1), .val (.int p2), .val (.int p3), .val (.int p4), .val (.int (p1 &&& (3 : Int32))), .val (.int (5 : Int32)), .val (.ref b1), .val (.int (1 : Int32))] [(.ref b1)])) _
    refine XS.iloadN X11.here hx rfl (hb hby at_67) rfl ?_
    show Steps p.tables e below (T11.setTop (mkF m 68 #[.val (.int p1), .val (.int p2), .val (.int p3), .val (.int p4), .val (.int (p1 &&& (3 : Int32))), .val (.int (5 : Int32)), .val (.ref b1), .val (.int (1 : Int32))] [(.int p3), (.ref b1)])) _
    refine XS.bipush X11.here hx rfl (hb hby at_68) ?_
    show Steps p.tables e below (T11.setTop (mkF m 70 #[.val (.int p1), .val (.int p2), .val (.int p3), .val (.int p4), .val (.int (p1 &&& (3 : Int32))), .val (.int (5 : Int32)), .val (.ref b1), .val (.int (1 : Int32))] [(.int (8 : Int32)), (.int p3), (.ref b1)])) _
    refine XS.iushr X11.here hx rfl (hb hby at_70) rfl ?_
    show Steps p.tables e below (T11.setTop (mkF m 71 #[.val (.int p1), .val (.int p2), .val (.int p3), .val (.int p4), .val (.int (p1 &&& (3 : Int32))), .val (.int (5 : Int32)), .val (.ref b1), .val (.int (1 : Int32))] [(.int ((p3.toUInt32 >>> ((8 : Int32) &&& 31).toUInt32).toInt32)), (.ref b1)])) _
    refine XS.i2b X11.here hx rfl (hb hby at_71) rfl ?_
    show Steps p.tables e below (T11.setTop (mkF m 72 #[.val (.int p1), .val (.int p2), .val (.int p3), .val (.int p4), .val (.int (p1 &&& (3 : Int32))), .val (.int (5 : Int32)), .val (.ref b1), .val (.int (1 : Int32))] [(.int (((p3.toUInt32 >>> ((8 : Int32) &&& 31).toUInt32).toInt32).toInt8.toInt32)), (.ref b1)])) _
    refine st18.trans ?_
    show Steps p.tables e below (T18.setTop (mkF m 75 #[.val (.int p1), .val (.int p2), .val (.int p3), .val (.int p4), .val (.int (p1 &&& (3 : Int32))), .val (.int (5 : Int32)), .val (.ref b1), .val (.int (1 : Int32))] [(.ref b1)])) _
    refine XS.aload X18.here hx rfl (hb hby at_75) rfl rfl ?_
    show Steps p.tables e below (T18.setTop (mkF m 77 #[.val (.int p1), .val (.int p2), .val (.int p3), .val (.int p4), .val (.int (p1 &&& (3 : Int32))), .val (.int (5 : Int32)), .val (.ref b1), .val (.int (1 : Int32))] [(.ref b1), (.ref b1)])) _
    refine Jvm.RoadKit.acmp (g := (mkF m 77 #[.val (.int p1), .val (.int p2), .val (.int p3), .val (.int p4), .val (.int (p1 &&& (3 : Int32))), .val (.int (5 : Int32)), .val (.ref b1), .val (.int (1 : Int32))] [(.ref b1), (.ref b1)])) X18 hx rfl rfl rfl (pc0 := 77) (pc' := 80) (same := true) rfl (hb hby at_77) rfl (decide_eq_true rfl) (by decide) (by decide) ?_
    show Steps p.tables e below (T18.setTop (mkF m 80 #[.val (.int p1), .val (.int p2), .val (.int p3), .val (.int p4), .val (.int (p1 &&& (3 : Int32))), .val (.int (5 : Int32)), .val (.ref b1), .val (.int (1 : Int32))] [])) _
    refine XS.iconst X18.here hx rfl (hb hby at_80) ?_
    show Steps p.tables e below (T18.setTop (mkF m 81 #[.val (.int p1), .val (.int p2), .val (.int p3), .val (.int p4), .val (.int (p1 &&& (3 : Int32))), .val (.int (5 : Int32)), .val (.ref b1), .val (.int (1 : Int32))] [(.int (1 : Int32))])) _
    refine XS.goto X18.here hx rfl (pc0 := 81) (pc' := 85) rfl (hb hby at_81) (by decide) (by decide) ?_
    show Steps p.tables e below (T18.setTop (mkF m 85 #[.val (.int p1), .val (.int p2), .val (.int p3), .val (.int p4), .val (.int (p1 &&& (3 : Int32))), .val (.int (5 : Int32)), .val (.ref b1), .val (.int (1 : Int32))] [(.int (1 : Int32))])) _
    refine XS.istore X18.here hx rfl (hb hby at_85) rfl (l' := #[.val (.int p1), .val (.int p2), .val (.int p3), .val (.int p4), .val (.int (p1 &&& (3 : Int32))), .val (.int (5 : Int32)), .val (.ref b1), .val (.int (1 : Int32))]) rfl ?_
    show Steps p.tables e below (T18.setTop (mkF m 87 #[.val (.int p1), .val (.int p2), .val (.int p3), .val (.int p4), .val (.int (p1 &&& (3 : Int32))), .val (.int (5 : Int32)), .val (.ref b1), .val (.int (1 : Int32))] [])) _
    refine XS.iload X18.here hx rfl (hb hby at_87) rfl ?_
    show Steps p.tables e below (T18.setTop (mkF m 89 #[.val (.int p1), .val (.int p2), .val (.int p3), .val (.int p4), .val (.int (p1 &&& (3 : Int32))), .val (.int (5 : Int32)), .val (.ref b1), .val (.int (1 : Int32))] [(.int (5 : Int32))])) _
    refine XS.iconst X18.here hx rfl (hb hby at_89) ?_
    show Steps p.tables e below (T18.setTop (mkF m 90 #[.val (.int p1), .val (.int p2), .val (.int p3), .val (.int p4), .val (.int (p1 &&& (3 : Int32))), .val (.int (5 : Int32)), .val (.ref b1), .val (.int (1 : Int32))] [(.int (2 : Int32)), (.int (5 : Int32))])) _
    refine XS.icmpNo X18.here hx rfl (hb hby at_90) rfl (tlt (by decide : (2 : Int32) < (5 : Int32))).2.2.2 ?_
    show Steps p.tables e below (T18.setTop (mkF m 93 #[.val (.int p1), .val (.int p2), .val (.int p3), .val (.int p4), .val (.int (p1 &&& (3 : Int32))), .val (.int (5 : Int32)), .val (.ref b1), .val (.int (1 : Int32))] [])) _
    refine XS.iload X18.here hx rfl (hb hby at_93) rfl ?_
    show Steps p.tables e below (T18.setTop (mkF m 95 #[.val (.int p1), .val (.int p2), .val (.int p3), .val (.int p4), .val (.int (p1 &&& (3 : Int32))), .val (.int (5 : Int32)), .val (.ref b1), .val (.int (1 : Int32))] [(.int (1 : Int32))])) _
    refine XS.ifNo X18.here hx rfl (hb hby at_95) rfl ((if0 _ _).trans (feq (by decide : ¬ ((1 : Int32) = (0 : Int32)))).1) ?_
    show Steps p.tables e below (T18.setTop (mkF m 98 #[.val (.int p1), .val (.int p2), .val (.int p3), .val (.int p4), .val (.int (p1 &&& (3 : Int32))), .val (.int (5 : Int32)), .val (.ref b1), .val (.int (1 : Int32))] [])) _
    refine XS.aload X18.here hx rfl (hb hby at_98) rfl rfl ?_
    show Steps p.tables e below (T18.setTop (mkF m 100 #[.val (.int p1), .val (.int p2), .val (.int p3), .val (.int p4), .val (.int (p1 &&& (3 : Int32))), .val (.int (5 : Int32)), .val (.ref b1), .val (.int (1 : Int32))] [(.ref b1)])) _
    refine XS.iloadN X18.here hx rfl (hb hby at_100) rfl ?_
    show Steps p.tables e below (T18.setTop (mkF m 101 #[.val (.int p1), .val (.int p2), .val (.int p3), .val (.int p4), .val (.int (p1 &&& (3 : Int32))), .val (.int (5 : Int32)), .val (.ref b1), .val (.int (1 : Int32))] [(.int p3), (.ref b1)])) _
    refine XS.bipush X18.here hx rfl (hb hby at_101) ?_
    show Steps p.tables e below (T18.setTop (mkF m 103 #[.val (.int p1), .val (.int p2), .val (.int p3), .val (.int p4), .val (.int (p1 &&& (3 : Int32))), .val (.int (5 : Int32)), .val (.ref b1), .val (.int (1 : Int32))] [(.int (16 : Int32)), (.int p3), (.ref b1)])) _
    refine XS.iushr X18.here hx rfl (hb hby at_103) rfl ?_
    show Steps p.tables e below (T18.setTop (mkF m 104 #[.val (.int p1), .val (.int p2), .val (.int p3), .val (.int p4), .val (.int (p1 &&& (3 : Int32))), .val (.int (5 : Int32)), .val (.ref b1), .val (.int (1 : Int32))] [(.int ((p3.toUInt32 >>> ((16 : Int32) &&& 31).toUInt32).toInt32)), (.ref b1)])) _
    refine XS.i2b X18.here hx rfl (hb hby at_104) rfl ?_
    show Steps p.tables e below (T18.setTop (mkF m 105 #[.val (.int p1), .val (.int p2), .val (.int p3), .val (.int p4), .val (.int (p1 &&& (3 : Int32))), .val (.int (5 : Int32)), .val (.ref b1), .val (.int (1 : Int32))] [(.int (((p3.toUInt32 >>> ((16 : Int32) &&& 31).toUInt32).toInt32).toInt8.toInt32)), (.ref b1)])) _
    refine st26.trans ?_
    show Steps p.tables e below (T26.setTop (mkF m 108 #[.val (.int p1), .val (.int p2), .val (.int p3), .val (.int p4), .val (.int (p1 &&& (3 : Int32))), .val (.int (5 : Int32)), .val (.ref b1), .val (.int (1 : Int32))] [(.ref b1)])) _
    refine XS.aload X26.here hx rfl (hb hby at_108) rfl rfl ?_
    show Steps p.tables e below (T26.setTop (mkF m 110 #[.val (.int p1), .val (.int p2), .val (.int p3), .val (.int p4), .val (.int (p1 &&& (3 : Int32))), .val (.int (5 : Int32)), .val (.ref b1), .val (.int (1 : Int32))] [(.ref b1), (.ref b1)])) _
    refine Jvm.RoadKit.acmp (g := (mkF m 110 #[.val (.int p1), .val (.int p2), .val (.int p3), .val (.int p4), .val (.int (p1 &&& (3 : Int32))), .val (.int (5 : Int32)), .val (.ref b1), .val (.int (1 : Int32))] [(.ref b1), (.ref b1)])) X26 hx rfl rfl rfl (pc0 := 110) (pc' := 113) (same := true) rfl (hb hby at_110) rfl (decide_eq_true rfl) (by decide) (by decide) ?_
    show Steps p.tables e below (T26.setTop (mkF m 113 #[.val (.int p1), .val (.int p2), .val (.int p3), .val (.int p4), .val (.int (p1 &&& (3 : Int32))), .val (.int (5 : Int32)), .val (.ref b1), .val (.int (1 : Int32))] [])) _
    refine XS.iconst X26.here hx rfl (hb hby at_113) ?_
    show Steps p.tables e below (T26.setTop (mkF m 114 #[.val (.int p1), .val (.int p2), .val (.int p3), .val (.int p4), .val (.int (p1 &&& (3 : Int32))), .val (.int (5 : Int32)), .val (.ref b1), .val (.int (1 : Int32))] [(.int (1 : Int32))])) _
    refine XS.goto X26.here hx rfl (pc0 := 114) (pc' := 118) rfl (hb hby at_114) (by decide) (by decide) ?_
    show Steps p.tables e below (T26.setTop (mkF m 118 #[.val (.int p1), .val (.int p2), .val (.int p3), .val (.int p4), .val (.int (p1 &&& (3 : Int32))), .val (.int (5 : Int32)), .val (.ref b1), .val (.int (1 : Int32))] [(.int (1 : Int32))])) _
    refine XS.istore X26.here hx rfl (hb hby at_118) rfl (l' := #[.val (.int p1), .val (.int p2), .val (.int p3), .val (.int p4), .val (.int (p1 &&& (3 : Int32))), .val (.int (5 : Int32)), .val (.ref b1), .val (.int (1 : Int32))]) rfl ?_
    show Steps p.tables e below (T26.setTop (mkF m 120 #[.val (.int p1), .val (.int p2), .val (.int p3), .val (.int p4), .val (.int (p1 &&& (3 : Int32))), .val (.int (5 : Int32)), .val (.ref b1), .val (.int (1 : Int32))] [])) _
    refine XS.iload X26.here hx rfl (hb hby at_120) rfl ?_
    show Steps p.tables e below (T26.setTop (mkF m 122 #[.val (.int p1), .val (.int p2), .val (.int p3), .val (.int p4), .val (.int (p1 &&& (3 : Int32))), .val (.int (5 : Int32)), .val (.ref b1), .val (.int (1 : Int32))] [(.int (5 : Int32))])) _
    refine XS.iconst X26.here hx rfl (hb hby at_122) ?_
    show Steps p.tables e below (T26.setTop (mkF m 123 #[.val (.int p1), .val (.int p2), .val (.int p3), .val (.int p4), .val (.int (p1 &&& (3 : Int32))), .val (.int (5 : Int32)), .val (.ref b1), .val (.int (1 : Int32))] [(.int (3 : Int32)), (.int (5 : Int32))])) _
    refine XS.icmpNo X26.here hx rfl (hb hby at_123) rfl (tlt (by decide : (3 : Int32) < (5 : Int32))).2.2.2 ?_
    show Steps p.tables e below (T26.setTop (mkF m 126 #[.val (.int p1), .val (.int p2), .val (.int p3), .val (.int p4), .val (.int (p1 &&& (3 : Int32))), .val (.int (5 : Int32)), .val (.ref b1), .val (.int (1 : Int32))] [])) _
    refine XS.iload X26.here hx rfl (hb hby at_126) rfl ?_
    show Steps p.tables e below (T26.setTop (mkF m 128 #[.val (.int p1), .val (.int p2), .val (.int p3), .val (.int p4), .val (.int (p1 &&& (3 : Int32))), .val (.int (5 : Int32)), .val (.ref b1), .val (.int (1 : Int32))] [(.int (1 : Int32))])) _
    refine XS.ifNo X26.here hx rfl (hb hby at_128) rfl ((if0 _ _).trans (feq (by decide : ¬ ((1 : Int32) = (0 : Int32)))).1) ?_
    show Steps p.tables e below (T26.setTop (mkF m 131 #[.val (.int p1), .val (.int p2), .val (.int p3), .val (.int p4), .val (.int (p1 &&& (3 : Int32))), .val (.int (5 : Int32)), .val (.ref b1), .val (.int (1 : Int32))] [])) _
    refine XS.aload X26.here hx rfl (hb hby at_131) rfl rfl ?_
    show Steps p.tables e below (T26.setTop (mkF m 133 #[.val (.int p1), .val (.int p2), .val (.int p3), .val (.int p4), .val (.int (p1 &&& (3 : Int32))), .val (.int (5 : Int32)), .val (.ref b1), .val (.int (1 : Int32))] [(.ref b1)])) _
    refine XS.iloadN X26.here hx rfl (hb hby at_133) rfl ?_
    show Steps p.tables e below (T26.setTop (mkF m 134 #[.val (.int p1), .val (.int p2), .val (.int p3), .val (.int p4), .val (.int (p1 &&& (3 : Int32))), .val (.int (5 : Int32)), .val (.ref b1), .val (.int (1 : Int32))] [(.int p3), (.ref b1)])) _
    refine XS.bipush X26.here hx rfl (hb hby at_134) ?_
    show Steps p.tables e below (T26.setTop (mkF m 136 #[.val (.int p1), .val (.int p2), .val (.int p3), .val (.int p4), .val (.int (p1 &&& (3 : Int32))), .val (.int (5 : Int32)), .val (.ref b1), .val (.int (1 : Int32))] [(.int (24 : Int32)), (.int p3), (.ref b1)])) _
    refine XS.iushr X26.here hx rfl (hb hby at_136) rfl ?_
    show Steps p.tables e below (T26.setTop (mkF m 137 #[.val (.int p1), .val (.int p2), .val (.int p3), .val (.int p4), .val (.int (p1 &&& (3 : Int32))), .val (.int (5 : Int32)), .val (.ref b1), .val (.int (1 : Int32))] [(.int ((p3.toUInt32 >>> ((24 : Int32) &&& 31).toUInt32).toInt32)), (.ref b1)])) _
    refine XS.i2b X26.here hx rfl (hb hby at_137) rfl ?_
    show Steps p.tables e below (T26.setTop (mkF m 138 #[.val (.int p1), .val (.int p2), .val (.int p3), .val (.int p4), .val (.int (p1 &&& (3 : Int32))), .val (.int (5 : Int32)), .val (.ref b1), .val (.int (1 : Int32))] [(.int (((p3.toUInt32 >>> ((24 : Int32) &&& 31).toUInt32).toInt32).toInt8.toInt32)), (.ref b1)])) _
    refine st35.trans ?_
    show Steps p.tables e below (T35.setTop (mkF m 141 #[.val (.int p1), .val (.int p2), .val (.int p3), .val (.int p4), .val (.int (p1 &&& (3 : Int32))), .val (.int (5 : Int32)), .val (.ref b1), .val (.int (1 : Int32))] [(.ref b1)])) _
    refine XS.aload X35.here hx rfl (hb hby at_141) rfl rfl ?_
    show Steps p.tables e below (T35.setTop (mkF m 143 #[.val (.int p1), .val (.int p2), .val (.int p3), .val (.int p4), .val (.int (p1 &&& (3 : Int32))), .val (.int (5 : Int32)), .val (.ref b1), .val (.int (1 : Int32))] [(.ref b1), (.ref b1)])) _
    refine Jvm.RoadKit.acmp (g := (mkF m 143 #[.val (.int p1), .val (.int p2), .val (.int p3), .val (.int p4), .val (.int (p1 &&& (3 : Int32))), .val (.int (5 : Int32)), .val (.ref b1), .val (.int (1 : Int32))] [(.ref b1), (.ref b1)])) X35 hx rfl rfl rfl (pc0 := 143) (pc' := 146) (same := true) rfl (hb hby at_143) rfl (decide_eq_true rfl) (by decide) (by decide) ?_
    show Steps p.tables e below (T35.setTop (mkF m 146 #[.val (.int p1), .val (.int p2), .val (.int p3), .val (.int p4), .val (.int (p1 &&& (3 : Int32))), .val (.int (5 : Int32)), .val (.ref b1), .val (.int (1 : Int32))] [])) _
    refine XS.iconst X35.here hx rfl (hb hby at_146) ?_
    show Steps p.tables e below (T35.setTop (mkF m 147 #[.val (.int p1), .val (.int p2), .val (.int p3), .val (.int p4), .val (.int (p1 &&& (3 : Int32))), .val (.int (5 : Int32)), .val (.ref b1), .val (.int (1 : Int32))] [(.int (1 : Int32))])) _
    refine XS.goto X35.here hx rfl (pc0 := 147) (pc' := 151) rfl (hb hby at_147) (by decide) (by decide) ?_
    show Steps p.tables e below (T35.setTop (mkF m 151 #[.val (.int p1), .val (.int p2), .val (.int p3), .val (.int p4), .val (.int (p1 &&& (3 : Int32))), .val (.int (5 : Int32)), .val (.ref b1), .val (.int (1 : Int32))] [(.int (1 : Int32))])) _
    refine XS.istore X35.here hx rfl (hb hby at_151) rfl (l' := #[.val (.int p1), .val (.int p2), .val (.int p3), .val (.int p4), .val (.int (p1 &&& (3 : Int32))), .val (.int (5 : Int32)), .val (.ref b1), .val (.int (1 : Int32))]) rfl ?_
    show Steps p.tables e below (T35.setTop (mkF m 153 #[.val (.int p1), .val (.int p2), .val (.int p3), .val (.int p4), .val (.int (p1 &&& (3 : Int32))), .val (.int (5 : Int32)), .val (.ref b1), .val (.int (1 : Int32))] [])) _
    refine XS.iload X35.here hx rfl (hb hby at_153) rfl ?_
    show Steps p.tables e below (T35.setTop (mkF m 155 #[.val (.int p1), .val (.int p2), .val (.int p3), .val (.int p4), .val (.int (p1 &&& (3 : Int32))), .val (.int (5 : Int32)), .val (.ref b1), .val (.int (1 : Int32))] [(.int (5 : Int32))])) _
    refine XS.iconst X35.here hx rfl (hb hby at_155) ?_
    show Steps p.tables e below (T35.setTop (mkF m 156 #[.val (.int p1), .val (.int p2), .val (.int p3), .val (.int p4), .val (.int (p1 &&& (3 : Int32))), .val (.int (5 : Int32)), .val (.ref b1), .val (.int (1 : Int32))] [(.int (4 : Int32)), (.int (5 : Int32))])) _
    refine XS.icmpNo X35.here hx rfl (hb hby at_156) rfl (tlt (by decide : (4 : Int32) < (5 : Int32))).2.2.2 ?_
    show Steps p.tables e below (T35.setTop (mkF m 159 #[.val (.int p1), .val (.int p2), .val (.int p3), .val (.int p4), .val (.int (p1 &&& (3 : Int32))), .val (.int (5 : Int32)), .val (.ref b1), .val (.int (1 : Int32))] [])) _
    refine XS.iload X35.here hx rfl (hb hby at_159) rfl ?_
    show Steps p.tables e below (T35.setTop (mkF m 161 #[.val (.int p1), .val (.int p2), .val (.int p3), .val (.int p4), .val (.int (p1 &&& (3 : Int32))), .val (.int (5 : Int32)), .val (.ref b1), .val (.int (1 : Int32))] [(.int (1 : Int32))])) _
    refine XS.ifNo X35.here hx rfl (hb hby at_161) rfl ((if0 _ _).trans (feq (by decide : ¬ ((1 : Int32) = (0 : Int32)))).1) ?_
    show Steps p.tables e below (T35.setTop (mkF m 164 #[.val (.int p1), .val (.int p2), .val (.int p3), .val (.int p4), .val (.int (p1 &&& (3 : Int32))), .val (.int (5 : Int32)), .val (.ref b1), .val (.int (1 : Int32))] [])) _
    refine XS.aload X35.here hx rfl (hb hby at_164) rfl rfl ?_
    show Steps p.tables e below (T35.setTop (mkF m 166 #[.val (.int p1), .val (.int p2), .val (.int p3), .val (.int p4), .val (.int (p1 &&& (3 : Int32))), .val (.int (5 : Int32)), .val (.ref b1), .val (.int (1 : Int32))] [(.ref b1)])) _
    refine XS.iloadN X35.here hx rfl (hb hby at_166) rfl ?_
    show Steps p.tables e below (T35.setTop (mkF m 167 #[.val (.int p1), .val (.int p2), .val (.int p3), .val (.int p4), .val (.int (p1 &&& (3 : Int32))), .val (.int (5 : Int32)), .val (.ref b1), .val (.int (1 : Int32))] [(.int p4), (.ref b1)])) _
    refine XS.i2b X35.here hx rfl (hb hby at_167) rfl ?_
    show Steps p.tables e below (T35.setTop (mkF m 168 #[.val (.int p1), .val (.int p2), .val (.int p3), .val (.int p4), .val (.int (p1 &&& (3 : Int32))), .val (.int (5 : Int32)), .val (.ref b1), .val (.int (1 : Int32))] [(.int (p4.toInt8.toInt32)), (.ref b1)])) _
    refine st45.trans ?_
    show Steps p.tables e below (T45.setTop (mkF m 171 #[.val (.int p1), .val (.int p2), .val (.int p3), .val (.int p4), .val (.int (p1 &&& (3 : Int32))), .val (.int (5 : Int32)), .val (.ref b1), .val (.int (1 : Int32))] [(.ref b1)])) _
    refine XS.aload X45.here hx rfl (hb hby at_171) rfl rfl ?_
    show Steps p.tables e below (T45.setTop (mkF m 173 #[.val (.int p1), .val (.int p2), .val (.int p3), .val (.int p4), .val (.int (p1 &&& (3 : Int32))), .val (.int (5 : Int32)), .val (.ref b1), .val (.int (1 : Int32))] [(.ref b1), (.ref b1)])) _
    refine Jvm.RoadKit.acmp (g := (mkF m 173 #[.val (.int p1), .val (.int p2), .val (.int p3), .val (.int p4), .val (.int (p1 &&& (3 : Int32))), .val (.int (5 : Int32)), .val (.ref b1), .val (.int (1 : Int32))] [(.ref b1), (.ref b1)])) X45 hx rfl rfl rfl (pc0 := 173) (pc' := 176) (same := true) rfl (hb hby at_173) rfl (decide_eq_true rfl) (by decide) (by decide) ?_
    show Steps p.tables e below (T45.setTop (mkF m 176 #[.val (.int p1), .val (.int p2), .val (.int p3), .val (.int p4), .val (.int (p1 &&& (3 : Int32))), .val (.int (5 : Int32)), .val (.ref b1), .val (.int (1 : Int32))] [])) _
    refine XS.iconst X45.here hx rfl (hb hby at_176) ?_
    show Steps p.tables e below (T45.setTop (mkF m 177 #[.val (.int p1), .val (.int p2), .val (.int p3), .val (.int p4), .val (.int (p1 &&& (3 : Int32))), .val (.int (5 : Int32)), .val (.ref b1), .val (.int (1 : Int32))] [(.int (1 : Int32))])) _
    refine XS.goto X45.here hx rfl (pc0 := 177) (pc' := 181) rfl (hb hby at_177) (by decide) (by decide) ?_
    show Steps p.tables e below (T45.setTop (mkF m 181 #[.val (.int p1), .val (.int p2), .val (.int p3), .val (.int p4), .val (.int (p1 &&& (3 : Int32))), .val (.int (5 : Int32)), .val (.ref b1), .val (.int (1 : Int32))] [(.int (1 : Int32))])) _
    refine XS.istore X45.here hx rfl (hb hby at_181) rfl (l' := #[.val (.int p1), .val (.int p2), .val (.int p3), .val (.int p4), .val (.int (p1 &&& (3 : Int32))), .val (.int (5 : Int32)), .val (.ref b1), .val (.int (1 : Int32))]) rfl ?_
    show Steps p.tables e below (T45.setTop (mkF m 183 #[.val (.int p1), .val (.int p2), .val (.int p3), .val (.int p4), .val (.int (p1 &&& (3 : Int32))), .val (.int (5 : Int32)), .val (.ref b1), .val (.int (1 : Int32))] [])) _
    refine XS.iload X45.here hx rfl (hb hby at_183) rfl ?_
    show Steps p.tables e below (T45.setTop (mkF m 185 #[.val (.int p1), .val (.int p2), .val (.int p3), .val (.int p4), .val (.int (p1 &&& (3 : Int32))), .val (.int (5 : Int32)), .val (.ref b1), .val (.int (1 : Int32))] [(.int (5 : Int32))])) _
    refine XS.iconst X45.here hx rfl (hb hby at_185) ?_
    show Steps p.tables e below (T45.setTop (mkF m 186 #[.val (.int p1), .val (.int p2), .val (.int p3), .val (.int p4), .val (.int (p1 &&& (3 : Int32))), .val (.int (5 : Int32)), .val (.ref b1), .val (.int (1 : Int32))] [(.int (5 : Int32)), (.int (5 : Int32))])) _
    refine XS.icmpYes X45.here hx rfl (pc0 := 186) (pc' := 216) rfl (hb hby at_186) rfl (flt (by decide : ¬ ((5 : Int32) < (5 : Int32)))).2.2.2 (by decide) (by decide) ?_
    show Steps p.tables e below (T45.setTop (mkF m 216 #[.val (.int p1), .val (.int p2), .val (.int p3), .val (.int p4), .val (.int (p1 &&& (3 : Int32))), .val (.int (5 : Int32)), .val (.ref b1), .val (.int (1 : Int32))] [])) _
    refine XS.iload X45.here hx rfl (hb hby at_216) rfl ?_
    show Steps p.tables e below (T45.setTop (mkF m 218 #[.val (.int p1), .val (.int p2), .val (.int p3), .val (.int p4), .val (.int (p1 &&& (3 : Int32))), .val (.int (5 : Int32)), .val (.ref b1), .val (.int (1 : Int32))] [(.int (5 : Int32))])) _
    refine XS.bipush X45.here hx rfl (hb hby at_218) ?_
    show Steps p.tables e below (T45.setTop (mkF m 220 #[.val (.int p1), .val (.int p2), .val (.int p3), .val (.int p4), .val (.int (p1 &&& (3 : Int32))), .val (.int (5 : Int32)), .val (.ref b1), .val (.int (1 : Int32))] [(.int (6 : Int32)), (.int (5 : Int32))])) _
    refine XS.icmpYes X45.here hx rfl (pc0 := 220) (pc' := 250) rfl (hb hby at_220) rfl (flt (by decide : ¬ ((6 : Int32) < (5 : Int32)))).2.2.2 (by decide) (by decide) ?_
    show Steps p.tables e below (T45.setTop (mkF m 250 #[.val (.int p1), .val (.int p2), .val (.int p3), .val (.int p4), .val (.int (p1 &&& (3 : Int32))), .val (.int (5 : Int32)), .val (.ref b1), .val (.int (1 : Int32))] [])) _
    refine XS.iload X45.here hx rfl (hb hby at_250) rfl ?_
    show Steps p.tables e below (T45.setTop (mkF m 252 #[.val (.int p1), .val (.int p2), .val (.int p3), .val (.int p4), .val (.int (p1 &&& (3 : Int32))), .val (.int (5 : Int32)), .val (.ref b1), .val (.int (1 : Int32))] [(.int (1 : Int32))])) _
    refine XS.ifNo X45.here hx rfl (hb hby at_252) rfl ((if0 _ _).trans (feq (by decide : ¬ ((1 : Int32) = (0 : Int32)))).1) ?_
    show Steps p.tables e below (T45.setTop (mkF m 255 #[.val (.int p1), .val (.int p2), .val (.int p3), .val (.int p4), .val (.int (p1 &&& (3 : Int32))), .val (.int (5 : Int32)), .val (.ref b1), .val (.int (1 : Int32))] [])) _
    refine XS.aload X45.here hx rfl (hb hby at_255) rfl rfl ?_
    show Steps p.tables e below (T45.setTop (mkF m 257 #[.val (.int p1), .val (.int p2), .val (.int p3), .val (.int p4), .val (.int (p1 &&& (3 : Int32))), .val (.int (5 : Int32)), .val (.ref b1), .val (.int (1 : Int32))] [(.ref b1)])) _
    refine st56.trans ?_
    show Steps p.tables e below (T56.setTop (mkF m 260 #[.val (.int p1), .val (.int p2), .val (.int p3), .val (.int p4), .val (.int (p1 &&& (3 : Int32))), .val (.int (5 : Int32)), .val (.ref b1), .val (.int (1 : Int32))] [(.int (5 : Int32))])) _
    refine XS.iload X56.here hx rfl (hb hby at_260) rfl ?_
    show Steps p.tables e below (T56.setTop (mkF m 262 #[.val (.int p1), .val (.int p2), .val (.int p3), .val (.int p4), .val (.int (p1 &&& (3 : Int32))), .val (.int (5 : Int32)), .val (.ref b1), .val (.int (1 : Int32))] [(.int (5 : Int32)), (.int (5 : Int32))])) _
    refine XS.icmpNo X56.here hx rfl (hb hby at_262) rfl (teq (by decide : (5 : Int32) = (5 : Int32))).2 ?_
    show Steps p.tables e below (T56.setTop (mkF m 265 #[.val (.int p1), .val (.int p2), .val (.int p3), .val (.int p4), .val (.int (p1 &&& (3 : Int32))), .val (.int (5 : Int32)), .val (.ref b1), .val (.int (1 : Int32))] [])) _
    refine XS.iconst X56.here hx rfl (hb hby at_265) ?_
    show Steps p.tables e below (T56.setTop (mkF m 266 #[.val (.int p1), .val (.int p2), .val (.int p3), .val (.int p4), .val (.int (p1 &&& (3 : Int32))), .val (.int (5 : Int32)), .val (.ref b1), .val (.int (1 : Int32))] [(.int (1 : Int32))])) _
    refine XS.goto X56.here hx rfl (pc0 := 266) (pc' := 270) rfl (hb hby at_266) (by decide) (by decide) ?_
    show Steps p.tables e below (T56.setTop (mkF m 270 #[.val (.int p1), .val (.int p2), .val (.int p3), .val (.int p4), .val (.int (p1 &&& (3 : Int32))), .val (.int (5 : Int32)), .val (.ref b1), .val (.int (1 : Int32))] [(.int (1 : Int32))])) _
    exact retN X56 hx (t := .boolean) Bd.returns (by simp) (hb hby at_270) hr
  · show Q_law Z p1 p2 p3 p4 h0 n0 _ T56.heap _
    rw [e56]
    exact ⟨rfl, N57⟩
def Road_n6 (p1 : Int32) (p2 : Int32) (p3 : Int32) (p4 : Int32) : Prop := ((p2 &&& (7 : Int32)) = (6 : Int32)) ∧ (¬ ((p1 &&& (3 : Int32)) < (0 : Int32))) ∧ ((p1 &&& (3 : Int32)).toNatClampNeg ≤ 3) ∧ (own_B (0 : Int32) (p1 &&& (3 : Int32)) (List.replicate 16 (Value.int (0 : Int32))))
set_option maxRecDepth 65536 in
set_option maxHeartbeats 40000000 in
theorem rm_law_n6 (l : Launch) (Z : State) (a0 : Array Value) (hw : ∀ d ∈ tables_1, d.before a0 Z = true) (ws : List Jvm.Cond) (p1 : Int32) (p2 : Int32) (p3 : Int32) (p4 : Int32) (h0 : Heap) (n0 : Nat) (Z0 : n0 ≤ h0.size) (hroad : Road_n6 p1 p2 p3 p4) :
    MetFree l x (head1 (Jvm.Cond.code x code maxLocals ret :: ws) room_1) (fun a U => a = #[(.int p1), (.int p2), (.int p3), (.int p4)] ∧ Z.Warmed39 U.vm ∧ U.heap = h0) (fun _ _ _ _ _ => True) (fun _ U o U' => ∃ v L, o = .returned v ∧ Q_law Z p1 p2 p3 p4 h0 n0 v U'.heap L ∧ FrameEnd U o U' L room_1.cells room_1.slots) := by
  obtain ⟨hw_0, hp1, hp2, hp3⟩ := hroad
  refine MetFree.of_bodySF (plainFor_of_name pn_com_example_wellform_wellform_cli_ByteBatchAppendPinLaw) hisR ?_
  intro p e s m args below meth c s₁ Bd hml0 hP hK
  obtain ⟨rfl, hZ, hh⟩ := hP
  have hx := Bd.exec
  have hby := Bd.bytes
  have hml : c.maxLocals = 8 := hml0
  have hown : s.vm.findClass "com/example/wellform/wellform/cli/ByteBatchAppendPinLaw" = some m.cls := findClass_of_methodNamed Bd.named
  have hnm := (name_of_methodNamed Bd.named Bd.method).1
  have X0 : Stand p l e room_1 s m #[(.int p1), (.int p2), (.int p3), (.int p4)] below meth c s₁ [] 0 0 := Stand.of_body Bd
  have e0 : s₁.heap = h0 := by rw [← hh, Bd.state]; rfl
  have N0 := Fr.nil n0
  have pre0 : ∀ t, Steps p.tables e below (s₁.setTop (mkF m 0 #[.val (.int p1), .val (.int p2), .val (.int p3), .val (.int p4), .unset, .unset, .unset, .unset] [])) t → Steps p.tables e below (s₁.setTop (entryFrame m #[(.int p1), (.int p2), (.int p3), (.int p4)] maxLocals)) t := fun t k => castTop (ef_0_IIII m p1 p2 p3 p4) k
  obtain ⟨T1, h1, X1, e1, E1, A1, D1, -, st1⟩ := newO X0 hx hZ hown (hw _ (List.mem_of_getElem? (i := 0) rfl)) (hw _ (List.mem_of_getElem? (i := 1) rfl)) (hw _ (List.mem_of_getElem? (i := 2) rfl)) e0 (g := (mkF m 11 #[.val (.int p1), .val (.int p2), .val (.int p3), .val (.int p4), .val (.int (p1 &&& (3 : Int32))), .val (.int (6 : Int32)), .unset, .unset] [])) rfl (hb hby at_11) (by decide) (by decide)
  obtain ⟨b1, g1⟩ : ∃ z, z = h0.size := ⟨_, rfl⟩
  rw [← g1] at A1 D1 st1
  have g_b1 : n0 ≤ b1 := Nat.le_trans Z0 (Nat.le_of_eq g1.symm)
  have Zs2 : n0 ≤ h1.size := Nat.le_trans Z0 E1.1
  have f3 : Fld Z h1 b1 "com/example/wellform/wellform/cli/ByteBatch" "bytes" "[B" .null := D1 (Or.inl (hw _ (List.mem_of_getElem? (i := 11) rfl))) (ty := (.array .byte)) (by decide)
  have f4 : Fld Z h1 b1 "com/example/wellform/wellform/cli/ByteBatch" "size" "I" (.int (0 : Int32)) := D1 (Or.inl (hw _ (List.mem_of_getElem? (i := 22) rfl))) (ty := .int) (by decide)
  obtain ⟨_, _, ⟨T5, L5, k5, n5⟩, -, X5, ⟨Lc5, hQ5, l5, y5, z5⟩, st5⟩ := X1.specialBack hx (y := (⟨"com/example/wellform/wellform/cli/ByteBatch", "<init>", "(I)V"⟩ : MethodName)) rfl hown (mvT hZ (hw _ (List.mem_of_getElem? (i := 3) rfl))) (mvT hZ (hw _ (List.mem_of_getElem? (i := 4) rfl))) (mvT hZ (hw _ (List.mem_of_getElem? (i := 5) rfl))) (by decide) (backOf (W := 1) (rm_init l Z a0 hw [] b1 (p1 &&& (3 : Int32)) h1 n0 Zs2 A1 f3 g_b1 f4 hp1 hp2) hZ (hw _ (List.mem_of_getElem? (i := 5) rfl)) (hw _ (List.mem_of_getElem? (i := 2) rfl)) (by decide) (by decide)) (g := (mkF m 17 #[.val (.int p1), .val (.int p2), .val (.int p3), .val (.int p4), .val (.int (p1 &&& (3 : Int32))), .val (.int (6 : Int32)), .unset, .unset] [(.int (p1 &&& (3 : Int32))), (.ref b1), (.ref b1)])) rfl (by rw [hml]; rfl) (Steps.refl _) (a := b1) (argsL := [(.int (p1 &&& (3 : Int32)))]) (rest := [(.ref b1)]) (lenOf pd_2 rfl) rfl (by show 2 * 0 + _ ≤ _; exact Nat.le_of_eq rfl) (hb hby at_17) (fun _ _ => ⟨rfl, e1, (by decide : 1 + 1 ≤ _), (by decide : 2 + 3 ≤ _)⟩)
  dsimp only [Pt.U, Pt.locs, Pt.cells, Pt.slots] at X5 l5 y5 z5 st5 hQ5
  subst l5 y5 z5
  obtain ⟨b5_1, k5_2, rfl, Nq5, g_b5_1, szq_b5_1, Kc5, fq5_0, fq5_1, fq5_2, fq5_3, fq5_4⟩ := hQ5
  have ne_b1_b5_1 : b1 ≠ b5_1 := Nat.ne_of_lt (Nat.lt_of_lt_of_le A1.lt szq_b5_1)
  have f7 : Fld Z T5.heap b1 "com/example/wellform/wellform/cli/ByteBatch" "bytes" "[B" (.ref b5_1) := fq5_1
  have f8 : Fld Z T5.heap b1 "com/example/wellform/wellform/cli/ByteBatch" "size" "I" (.int (0 : Int32)) := fq5_2
  have f9 : Arv Z T5.heap b5_1 k5_2 .byte (p1 &&& (3 : Int32)) (List.replicate 16 (Value.int (0 : Int32))) (.int (0 : Int32)) := fq5_4
  have Zs10 : n0 ≤ T5.heap.size := Nat.le_trans Zs2 Kc5.1
  have N6 := Fr.app N0 Nq5
  obtain ⟨cq11, kq11, q11a, q11b, q11c⟩ := isOf hZ rfl fq5_0
  obtain ⟨_, _, ⟨T11, L11, k11, n11⟩, -, X11, ⟨Lc11, hQ11, l11, y11, z11⟩, st11⟩ := X5.virtualBack hx (y := (⟨"com/example/wellform/wellform/cli/ByteBatch", "append", "(B)Lcom/example/wellform/wellform/cli/ByteBatch;"⟩ : MethodName)) (z := (⟨"com/example/wellform/wellform/cli/ByteBatch", "append", "(B)Lcom/example/wellform/wellform/cli/ByteBatch;"⟩ : MethodName)) hown (mvT hZ (hw _ (List.mem_of_getElem? (i := 12) rfl))) (mvT hZ (hw _ (List.mem_of_getElem? (i := 13) rfl))) (notFace_of_selects (args := #[]) (mvT hZ (hw _ (List.mem_of_getElem? (i := 15) rfl)))) (mvT hZ (hw _ (List.mem_of_getElem? (i := 15) rfl))) (mvT hZ (hw _ (List.mem_of_getElem? (i := 14) rfl))) (by decide) (backOf (W := 0) (rm_append l Z a0 hw [] b1 (p3.toInt8.toInt32) b5_1 k5_2 (p1 &&& (3 : Int32)) (List.replicate 16 (Value.int (0 : Int32))) (0 : Int32) T5.heap n0 Zs10 f7 fq5_3 f9 f8 fq5_0 g_b1 g_b5_1 hp3 (by decide)) hZ (hw _ (List.mem_of_getElem? (i := 16) rfl)) (hw _ (List.mem_of_getElem? (i := 2) rfl)) (by decide) (by decide)) q11a q11c (g := (mkF m 39 #[.val (.int p1), .val (.int p2), .val (.int p3), .val (.int p4), .val (.int (p1 &&& (3 : Int32))), .val (.int (6 : Int32)), .val (.ref b1), .val (.int (1 : Int32))] [(.int (p3.toInt8.toInt32)), (.ref b1)])) rfl (by rw [hml]; rfl) (Steps.refl _) (argsL := [(.int (p3.toInt8.toInt32))]) (rest := []) (lenOf pd_4 rfl) rfl (by show 2 * 0 + _ ≤ _; exact Nat.le_of_eq rfl) (hb hby at_39) (fun _ _ => ⟨rfl, rfl, (by decide : 2 + 1 ≤ _), (by decide : 5 + 14 ≤ _)⟩)
  dsimp only [Pt.U, Pt.locs, Pt.cells, Pt.slots] at X11 l11 y11 z11 st11 hQ11
  subst l11 y11 z11
  obtain ⟨b11_1, k11_2, i11_3, us11_4, rfl, Nq11, g_b11_1, hq11_0, Kc11, fq11_0, fq11_1, fq11_2, fq11_3, fq11_4⟩ := hQ11
  have f13 : Exa Z T11.heap b5_1 "[B" := fq5_3.keep Kc11
  have f14 : Fld Z T11.heap b1 "com/example/wellform/wellform/cli/ByteBatch" "bytes" "[B" (.ref b11_1) := fq11_1
  have f15 : Fld Z T11.heap b1 "com/example/wellform/wellform/cli/ByteBatch" "size" "I" (.int (1 : Int32)) := fq11_2
  have f16 : Arv Z T11.heap b11_1 k11_2 .byte i11_3 us11_4 (.int (0 : Int32)) := fq11_4
  have Zs17 : n0 ≤ T11.heap.size := Nat.le_trans Zs10 Kc11.1
  have N12 := Fr.app N6 Nq11
  obtain ⟨cq18, kq18, q18a, q18b, q18c⟩ := isOf hZ rfl fq11_0
  obtain ⟨_, _, ⟨T18, L18, k18, n18⟩, -, X18, ⟨Lc18, hQ18, l18, y18, z18⟩, st18⟩ := X11.virtualBack hx (y := (⟨"com/example/wellform/wellform/cli/ByteBatch", "append", "(B)Lcom/example/wellform/wellform/cli/ByteBatch;"⟩ : MethodName)) (z := (⟨"com/example/wellform/wellform/cli/ByteBatch", "append", "(B)Lcom/example/wellform/wellform/cli/ByteBatch;"⟩ : MethodName)) hown (mvT hZ (hw _ (List.mem_of_getElem? (i := 12) rfl))) (mvT hZ (hw _ (List.mem_of_getElem? (i := 13) rfl))) (notFace_of_selects (args := #[]) (mvT hZ (hw _ (List.mem_of_getElem? (i := 15) rfl)))) (mvT hZ (hw _ (List.mem_of_getElem? (i := 15) rfl))) (mvT hZ (hw _ (List.mem_of_getElem? (i := 14) rfl))) (by decide) (backOf (W := 0) (rm_append l Z a0 hw [] b1 (((p3.toUInt32 >>> ((8 : Int32) &&& 31).toUInt32).toInt32).toInt8.toInt32) b11_1 k11_2 i11_3 us11_4 (1 : Int32) T11.heap n0 Zs17 f14 fq11_3 f16 f15 fq11_0 g_b1 g_b11_1 hq11_0 (by decide)) hZ (hw _ (List.mem_of_getElem? (i := 16) rfl)) (hw _ (List.mem_of_getElem? (i := 2) rfl)) (by decide) (by decide)) q18a q18c (g := (mkF m 72 #[.val (.int p1), .val (.int p2), .val (.int p3), .val (.int p4), .val (.int (p1 &&& (3 : Int32))), .val (.int (6 : Int32)), .val (.ref b1), .val (.int (1 : Int32))] [(.int (((p3.toUInt32 >>> ((8 : Int32) &&& 31).toUInt32).toInt32).toInt8.toInt32)), (.ref b1)])) rfl (by rw [hml]; rfl) (Steps.refl _) (argsL := [(.int (((p3.toUInt32 >>> ((8 : Int32) &&& 31).toUInt32).toInt32).toInt8.toInt32))]) (rest := []) (lenOf pd_4 rfl) rfl (by show 2 * 0 + _ ≤ _; exact Nat.le_of_eq rfl) (hb hby at_72) (fun _ _ => ⟨rfl, rfl, (by decide : 3 + 1 ≤ _), (by decide : 19 + 14 ≤ _)⟩)
  dsimp only [Pt.U, Pt.locs, Pt.cells, Pt.slots] at X18 l18 y18 z18 st18 hQ18
  subst l18 y18 z18
  obtain ⟨b18_1, k18_2, i18_3, us18_4, rfl, Nq18, g_b18_1, hq18_0, Kc18, fq18_0, fq18_1, fq18_2, fq18_3, fq18_4⟩ := hQ18
  have ne_b1_b11_1 : b1 ≠ b11_1 := ne_exa fq11_0 fq11_3 (by decide)
  have f20 : Exa Z T18.heap b5_1 "[B" := f13.keep Kc18
  have f21 : Exa Z T18.heap b11_1 "[B" := fq11_3.keep Kc18
  have f22 : Fld Z T18.heap b1 "com/example/wellform/wellform/cli/ByteBatch" "bytes" "[B" (.ref b18_1) := fq18_1
  have f23 : Fld Z T18.heap b1 "com/example/wellform/wellform/cli/ByteBatch" "size" "I" (.int (2 : Int32)) := fq18_2
  have f24 : Arv Z T18.heap b18_1 k18_2 .byte i18_3 us18_4 (.int (0 : Int32)) := fq18_4
  have Zs25 : n0 ≤ T18.heap.size := Nat.le_trans Zs17 Kc18.1
  have N19 := Fr.app N12 Nq18
  obtain ⟨cq26, kq26, q26a, q26b, q26c⟩ := isOf hZ rfl fq18_0
  obtain ⟨_, _, ⟨T26, L26, k26, n26⟩, -, X26, ⟨Lc26, hQ26, l26, y26, z26⟩, st26⟩ := X18.virtualBack hx (y := (⟨"com/example/wellform/wellform/cli/ByteBatch", "append", "(B)Lcom/example/wellform/wellform/cli/ByteBatch;"⟩ : MethodName)) (z := (⟨"com/example/wellform/wellform/cli/ByteBatch", "append", "(B)Lcom/example/wellform/wellform/cli/ByteBatch;"⟩ : MethodName)) hown (mvT hZ (hw _ (List.mem_of_getElem? (i := 12) rfl))) (mvT hZ (hw _ (List.mem_of_getElem? (i := 13) rfl))) (notFace_of_selects (args := #[]) (mvT hZ (hw _ (List.mem_of_getElem? (i := 15) rfl)))) (mvT hZ (hw _ (List.mem_of_getElem? (i := 15) rfl))) (mvT hZ (hw _ (List.mem_of_getElem? (i := 14) rfl))) (by decide) (backOf (W := 0) (rm_append l Z a0 hw [] b1 (((p3.toUInt32 >>> ((16 : Int32) &&& 31).toUInt32).toInt32).toInt8.toInt32) b18_1 k18_2 i18_3 us18_4 (2 : Int32) T18.heap n0 Zs25 f22 fq18_3 f24 f23 fq18_0 g_b1 g_b18_1 hq18_0 (by decide)) hZ (hw _ (List.mem_of_getElem? (i := 16) rfl)) (hw _ (List.mem_of_getElem? (i := 2) rfl)) (by decide) (by decide)) q26a q26c (g := (mkF m 105 #[.val (.int p1), .val (.int p2), .val (.int p3), .val (.int p4), .val (.int (p1 &&& (3 : Int32))), .val (.int (6 : Int32)), .val (.ref b1), .val (.int (1 : Int32))] [(.int (((p3.toUInt32 >>> ((16 : Int32) &&& 31).toUInt32).toInt32).toInt8.toInt32)), (.ref b1)])) rfl (by rw [hml]; rfl) (Steps.refl _) (argsL := [(.int (((p3.toUInt32 >>> ((16 : Int32) &&& 31).toUInt32).toInt32).toInt8.toInt32))]) (rest := []) (lenOf pd_4 rfl) rfl (by show 2 * 0 + _ ≤ _; exact Nat.le_of_eq rfl) (hb hby at_105) (fun _ _ => ⟨rfl, rfl, (by decide : 4 + 1 ≤ _), (by decide : 33 + 14 ≤ _)⟩)
  dsimp only [Pt.U, Pt.locs, Pt.cells, Pt.slots] at X26 l26 y26 z26 st26 hQ26
  subst l26 y26 z26
  obtain ⟨b26_1, k26_2, i26_3, us26_4, rfl, Nq26, g_b26_1, hq26_0, Kc26, fq26_0, fq26_1, fq26_2, fq26_3, fq26_4⟩ := hQ26
  have ne_b1_b18_1 : b1 ≠ b18_1 := ne_exa fq18_0 fq18_3 (by decide)
  have f28 : Exa Z T26.heap b5_1 "[B" := f20.keep Kc26
  have f29 : Exa Z T26.heap b11_1 "[B" := f21.keep Kc26
  have f30 : Exa Z T26.heap b18_1 "[B" := fq18_3.keep Kc26
  have f31 : Fld Z T26.heap b1 "com/example/wellform/wellform/cli/ByteBatch" "bytes" "[B" (.ref b26_1) := fq26_1
  have f32 : Fld Z T26.heap b1 "com/example/wellform/wellform/cli/ByteBatch" "size" "I" (.int (3 : Int32)) := fq26_2
  have f33 : Arv Z T26.heap b26_1 k26_2 .byte i26_3 us26_4 (.int (0 : Int32)) := fq26_4
  have Zs34 : n0 ≤ T26.heap.size := Nat.le_trans Zs25 Kc26.1
  have N27 := Fr.app N19 Nq26
  obtain ⟨cq35, kq35, q35a, q35b, q35c⟩ := isOf hZ rfl fq26_0
  obtain ⟨_, _, ⟨T35, L35, k35, n35⟩, -, X35, ⟨Lc35, hQ35, l35, y35, z35⟩, st35⟩ := X26.virtualBack hx (y := (⟨"com/example/wellform/wellform/cli/ByteBatch", "append", "(B)Lcom/example/wellform/wellform/cli/ByteBatch;"⟩ : MethodName)) (z := (⟨"com/example/wellform/wellform/cli/ByteBatch", "append", "(B)Lcom/example/wellform/wellform/cli/ByteBatch;"⟩ : MethodName)) hown (mvT hZ (hw _ (List.mem_of_getElem? (i := 12) rfl))) (mvT hZ (hw _ (List.mem_of_getElem? (i := 13) rfl))) (notFace_of_selects (args := #[]) (mvT hZ (hw _ (List.mem_of_getElem? (i := 15) rfl)))) (mvT hZ (hw _ (List.mem_of_getElem? (i := 15) rfl))) (mvT hZ (hw _ (List.mem_of_getElem? (i := 14) rfl))) (by decide) (backOf (W := 0) (rm_append l Z a0 hw [] b1 (((p3.toUInt32 >>> ((24 : Int32) &&& 31).toUInt32).toInt32).toInt8.toInt32) b26_1 k26_2 i26_3 us26_4 (3 : Int32) T26.heap n0 Zs34 f31 fq26_3 f33 f32 fq26_0 g_b1 g_b26_1 hq26_0 (by decide)) hZ (hw _ (List.mem_of_getElem? (i := 16) rfl)) (hw _ (List.mem_of_getElem? (i := 2) rfl)) (by decide) (by decide)) q35a q35c (g := (mkF m 138 #[.val (.int p1), .val (.int p2), .val (.int p3), .val (.int p4), .val (.int (p1 &&& (3 : Int32))), .val (.int (6 : Int32)), .val (.ref b1), .val (.int (1 : Int32))] [(.int (((p3.toUInt32 >>> ((24 : Int32) &&& 31).toUInt32).toInt32).toInt8.toInt32)), (.ref b1)])) rfl (by rw [hml]; rfl) (Steps.refl _) (argsL := [(.int (((p3.toUInt32 >>> ((24 : Int32) &&& 31).toUInt32).toInt32).toInt8.toInt32))]) (rest := []) (lenOf pd_4 rfl) rfl (by show 2 * 0 + _ ≤ _; exact Nat.le_of_eq rfl) (hb hby at_138) (fun _ _ => ⟨rfl, rfl, (by decide : 5 + 1 ≤ _), (by decide : 47 + 14 ≤ _)⟩)
  dsimp only [Pt.U, Pt.locs, Pt.cells, Pt.slots] at X35 l35 y35 z35 st35 hQ35
  subst l35 y35 z35
  obtain ⟨b35_1, k35_2, i35_3, us35_4, rfl, Nq35, g_b35_1, hq35_0, Kc35, fq35_0, fq35_1, fq35_2, fq35_3, fq35_4⟩ := hQ35
  have ne_b1_b26_1 : b1 ≠ b26_1 := ne_exa fq26_0 fq26_3 (by decide)
  have f37 : Exa Z T35.heap b5_1 "[B" := f28.keep Kc35
  have f38 : Exa Z T35.heap b11_1 "[B" := f29.keep Kc35
  have f39 : Exa Z T35.heap b18_1 "[B" := f30.keep Kc35
  have f40 : Exa Z T35.heap b26_1 "[B" := fq26_3.keep Kc35
  have f41 : Fld Z T35.heap b1 "com/example/wellform/wellform/cli/ByteBatch" "bytes" "[B" (.ref b35_1) := fq35_1
  have f42 : Fld Z T35.heap b1 "com/example/wellform/wellform/cli/ByteBatch" "size" "I" (.int (4 : Int32)) := fq35_2
  have f43 : Arv Z T35.heap b35_1 k35_2 .byte i35_3 us35_4 (.int (0 : Int32)) := fq35_4
  have Zs44 : n0 ≤ T35.heap.size := Nat.le_trans Zs34 Kc35.1
  have N36 := Fr.app N27 Nq35
  obtain ⟨cq45, kq45, q45a, q45b, q45c⟩ := isOf hZ rfl fq35_0
  obtain ⟨_, _, ⟨T45, L45, k45, n45⟩, -, X45, ⟨Lc45, hQ45, l45, y45, z45⟩, st45⟩ := X35.virtualBack hx (y := (⟨"com/example/wellform/wellform/cli/ByteBatch", "append", "(B)Lcom/example/wellform/wellform/cli/ByteBatch;"⟩ : MethodName)) (z := (⟨"com/example/wellform/wellform/cli/ByteBatch", "append", "(B)Lcom/example/wellform/wellform/cli/ByteBatch;"⟩ : MethodName)) hown (mvT hZ (hw _ (List.mem_of_getElem? (i := 12) rfl))) (mvT hZ (hw _ (List.mem_of_getElem? (i := 13) rfl))) (notFace_of_selects (args := #[]) (mvT hZ (hw _ (List.mem_of_getElem? (i := 15) rfl)))) (mvT hZ (hw _ (List.mem_of_getElem? (i := 15) rfl))) (mvT hZ (hw _ (List.mem_of_getElem? (i := 14) rfl))) (by decide) (backOf (W := 0) (rm_append l Z a0 hw [] b1 (p4.toInt8.toInt32) b35_1 k35_2 i35_3 us35_4 (4 : Int32) T35.heap n0 Zs44 f41 fq35_3 f43 f42 fq35_0 g_b1 g_b35_1 hq35_0 (by decide)) hZ (hw _ (List.mem_of_getElem? (i := 16) rfl)) (hw _ (List.mem_of_getElem? (i := 2) rfl)) (by decide) (by decide)) q45a q45c (g := (mkF m 168 #[.val (.int p1), .val (.int p2), .val (.int p3), .val (.int p4), .val (.int (p1 &&& (3 : Int32))), .val (.int (6 : Int32)), .val (.ref b1), .val (.int (1 : Int32))] [(.int (p4.toInt8.toInt32)), (.ref b1)])) rfl (by rw [hml]; rfl) (Steps.refl _) (argsL := [(.int (p4.toInt8.toInt32))]) (rest := []) (lenOf pd_4 rfl) rfl (by show 2 * 0 + _ ≤ _; exact Nat.le_of_eq rfl) (hb hby at_168) (fun _ _ => ⟨rfl, rfl, (by decide : 6 + 1 ≤ _), (by decide : 61 + 14 ≤ _)⟩)
  dsimp only [Pt.U, Pt.locs, Pt.cells, Pt.slots] at X45 l45 y45 z45 st45 hQ45
  subst l45 y45 z45
  obtain ⟨b45_1, k45_2, i45_3, us45_4, rfl, Nq45, g_b45_1, hq45_0, Kc45, fq45_0, fq45_1, fq45_2, fq45_3, fq45_4⟩ := hQ45
  have ne_b1_b35_1 : b1 ≠ b35_1 := ne_exa fq35_0 fq35_3 (by decide)
  have f47 : Exa Z T45.heap b5_1 "[B" := f37.keep Kc45
  have f48 : Exa Z T45.heap b11_1 "[B" := f38.keep Kc45
  have f49 : Exa Z T45.heap b18_1 "[B" := f39.keep Kc45
  have f50 : Exa Z T45.heap b26_1 "[B" := f40.keep Kc45
  have f51 : Exa Z T45.heap b35_1 "[B" := fq35_3.keep Kc45
  have f52 : Fld Z T45.heap b1 "com/example/wellform/wellform/cli/ByteBatch" "bytes" "[B" (.ref b45_1) := fq45_1
  have f53 : Fld Z T45.heap b1 "com/example/wellform/wellform/cli/ByteBatch" "size" "I" (.int (5 : Int32)) := fq45_2
  have f54 : Arv Z T45.heap b45_1 k45_2 .byte i45_3 us45_4 (.int (0 : Int32)) := fq45_4
  have Zs55 : n0 ≤ T45.heap.size := Nat.le_trans Zs44 Kc45.1
  have N46 := Fr.app N36 Nq45
  obtain ⟨cq56, kq56, q56a, q56b, q56c⟩ := isOf hZ rfl fq45_0
  obtain ⟨_, _, ⟨T56, L56, k56, n56⟩, -, X56, ⟨Lc56, hQ56, l56, y56, z56⟩, st56⟩ := X45.virtualBack hx (y := (⟨"com/example/wellform/wellform/cli/ByteBatch", "append", "(B)Lcom/example/wellform/wellform/cli/ByteBatch;"⟩ : MethodName)) (z := (⟨"com/example/wellform/wellform/cli/ByteBatch", "append", "(B)Lcom/example/wellform/wellform/cli/ByteBatch;"⟩ : MethodName)) hown (mvT hZ (hw _ (List.mem_of_getElem? (i := 12) rfl))) (mvT hZ (hw _ (List.mem_of_getElem? (i := 13) rfl))) (notFace_of_selects (args := #[]) (mvT hZ (hw _ (List.mem_of_getElem? (i := 15) rfl)))) (mvT hZ (hw _ (List.mem_of_getElem? (i := 15) rfl))) (mvT hZ (hw _ (List.mem_of_getElem? (i := 14) rfl))) (by decide) (backOf (W := 0) (rm_append l Z a0 hw [] b1 (((p4.toUInt32 >>> ((8 : Int32) &&& 31).toUInt32).toInt32).toInt8.toInt32) b45_1 k45_2 i45_3 us45_4 (5 : Int32) T45.heap n0 Zs55 f52 fq45_3 f54 f53 fq45_0 g_b1 g_b45_1 hq45_0 (by decide)) hZ (hw _ (List.mem_of_getElem? (i := 16) rfl)) (hw _ (List.mem_of_getElem? (i := 2) rfl)) (by decide) (by decide)) q56a q56c (g := (mkF m 201 #[.val (.int p1), .val (.int p2), .val (.int p3), .val (.int p4), .val (.int (p1 &&& (3 : Int32))), .val (.int (6 : Int32)), .val (.ref b1), .val (.int (1 : Int32))] [(.int (((p4.toUInt32 >>> ((8 : Int32) &&& 31).toUInt32).toInt32).toInt8.toInt32)), (.ref b1)])) rfl (by rw [hml]; rfl) (Steps.refl _) (argsL := [(.int (((p4.toUInt32 >>> ((8 : Int32) &&& 31).toUInt32).toInt32).toInt8.toInt32))]) (rest := []) (lenOf pd_4 rfl) rfl (by show 2 * 0 + _ ≤ _; exact Nat.le_of_eq rfl) (hb hby at_201) (fun _ _ => ⟨rfl, rfl, (by decide : 7 + 1 ≤ _), (by decide : 75 + 14 ≤ _)⟩)
  dsimp only [Pt.U, Pt.locs, Pt.cells, Pt.slots] at X56 l56 y56 z56 st56 hQ56
  subst l56 y56 z56
  obtain ⟨b56_1, k56_2, i56_3, us56_4, rfl, Nq56, g_b56_1, hq56_0, Kc56, fq56_0, fq56_1, fq56_2, fq56_3, fq56_4⟩ := hQ56
  have ne_b1_b45_1 : b1 ≠ b45_1 := ne_exa fq45_0 fq45_3 (by decide)
  have f58 : Exa Z T56.heap b5_1 "[B" := f47.keep Kc56
  have f59 : Exa Z T56.heap b11_1 "[B" := f48.keep Kc56
  have f60 : Exa Z T56.heap b18_1 "[B" := f49.keep Kc56
  have f61 : Exa Z T56.heap b26_1 "[B" := f50.keep Kc56
  have f62 : Exa Z T56.heap b35_1 "[B" := f51.keep Kc56
  have f63 : Exa Z T56.heap b45_1 "[B" := fq45_3.keep Kc56
  have f64 : Fld Z T56.heap b1 "com/example/wellform/wellform/cli/ByteBatch" "bytes" "[B" (.ref b56_1) := fq56_1
  have f65 : Fld Z T56.heap b1 "com/example/wellform/wellform/cli/ByteBatch" "size" "I" (.int (6 : Int32)) := fq56_2
  have f66 : Arv Z T56.heap b56_1 k56_2 .byte i56_3 us56_4 (.int (0 : Int32)) := fq56_4
  have Zs67 : n0 ≤ T56.heap.size := Nat.le_trans Zs55 Kc56.1
  have N57 := Fr.app N46 Nq56
  obtain ⟨cq68, kq68, q68a, q68b, q68c⟩ := isOf hZ rfl fq56_0
  obtain ⟨_, _, ⟨T68, L68, k68, n68⟩, -, X68, ⟨Lc68, hQ68, l68, y68, z68⟩, st68⟩ := X56.virtualBack hx (y := (⟨"com/example/wellform/wellform/cli/ByteBatch", "size", "()I"⟩ : MethodName)) (z := (⟨"com/example/wellform/wellform/cli/ByteBatch", "size", "()I"⟩ : MethodName)) hown (mvT hZ (hw _ (List.mem_of_getElem? (i := 38) rfl))) (mvT hZ (hw _ (List.mem_of_getElem? (i := 39) rfl))) (notFace_of_selects (args := #[]) (mvT hZ (hw _ (List.mem_of_getElem? (i := 41) rfl)))) (mvT hZ (hw _ (List.mem_of_getElem? (i := 41) rfl))) (mvT hZ (hw _ (List.mem_of_getElem? (i := 40) rfl))) (by decide) (backOf (W := 0) (rm_size l Z a0 hw [] b1 (6 : Int32) T56.heap n0 Zs67 f65) hZ (hw _ (List.mem_of_getElem? (i := 42) rfl)) (hw _ (List.mem_of_getElem? (i := 2) rfl)) (by decide) (by decide)) q68a q68c (g := (mkF m 257 #[.val (.int p1), .val (.int p2), .val (.int p3), .val (.int p4), .val (.int (p1 &&& (3 : Int32))), .val (.int (6 : Int32)), .val (.ref b1), .val (.int (1 : Int32))] [(.ref b1)])) rfl (by rw [hml]; rfl) (Steps.refl _) (argsL := []) (rest := []) (lenOf pd_3 rfl) rfl (by show 2 * 0 + _ ≤ _; exact Nat.le_of_eq rfl) (hb hby at_257) (fun _ _ => ⟨rfl, rfl, (by decide : 8 + 0 ≤ _), (by decide : 89 + 0 ≤ _)⟩)
  dsimp only [Pt.U, Pt.locs, Pt.cells, Pt.slots] at X68 l68 y68 z68 st68 hQ68
  subst l68 y68 z68
  obtain ⟨rfl, Nq68, e68⟩ := hQ68
  have N69 := Fr.app N57 Nq68
  obtain ⟨fs, hr, hrun, hended, hW, hsame⟩ := X68.leave (v := some (.int (1 : Int32))) (fun h => by rw [Bd.returns] at h; cases h) Bd.notSynchronized
  refine ⟨_, _, pre0 _ ?_, hrun, hended, _, _, rfl, ?_, ⟨_, rfl⟩, hW, hsame.mono (by decide) (by decide)⟩
  · show Steps p.tables e below (s₁.setTop (mkF m 0 #[.val (.int p1), .val (.int p2), .val (.int p3), .val (.int p4), .unset, .unset, .unset, .unset] [])) _
    refine XS.iloadN X0.here hx rfl (hb hby at_0) rfl ?_
    show Steps p.tables e below (s₁.setTop (mkF m 1 #[.val (.int p1), .val (.int p2), .val (.int p3), .val (.int p4), .unset, .unset, .unset, .unset] [(.int p1)])) _
    refine XS.iconst X0.here hx rfl (hb hby at_1) ?_
    show Steps p.tables e below (s₁.setTop (mkF m 2 #[.val (.int p1), .val (.int p2), .val (.int p3), .val (.int p4), .unset, .unset, .unset, .unset] [(.int (3 : Int32)), (.int p1)])) _
    refine XS.iand X0.here hx rfl (hb hby at_2) rfl ?_
    show Steps p.tables e below (s₁.setTop (mkF m 3 #[.val (.int p1), .val (.int p2), .val (.int p3), .val (.int p4), .unset, .unset, .unset, .unset] [(.int (p1 &&& (3 : Int32)))])) _
    refine XS.istore X0.here hx rfl (hb hby at_3) rfl (l' := #[.val (.int p1), .val (.int p2), .val (.int p3), .val (.int p4), .val (.int (p1 &&& (3 : Int32))), .unset, .unset, .unset]) rfl ?_
    show Steps p.tables e below (s₁.setTop (mkF m 5 #[.val (.int p1), .val (.int p2), .val (.int p3), .val (.int p4), .val (.int (p1 &&& (3 : Int32))), .unset, .unset, .unset] [])) _
    refine XS.iloadN X0.here hx rfl (hb hby at_5) rfl ?_
    show Steps p.tables e below (s₁.setTop (mkF m 6 #[.val (.int p1), .val (.int p2), .val (.int p3), .val (.int p4), .val (.int (p1 &&& (3 : Int32))), .unset, .unset, .unset] [(.int p2)])) _
    refine XS.bipush X0.here hx rfl (hb hby at_6) ?_
    show Steps p.tables e below (s₁.setTop (mkF m 8 #[.val (.int p1), .val (.int p2), .val (.int p3), .val (.int p4), .val (.int (p1 &&& (3 : Int32))), .unset, .unset, .unset] [(.int (7 : Int32)), (.int p2)])) _
    refine XS.iand X0.here hx rfl (hb hby at_8) rfl ?_
    show Steps p.tables e below (s₁.setTop (mkF m 9 #[.val (.int p1), .val (.int p2), .val (.int p3), .val (.int p4), .val (.int (p1 &&& (3 : Int32))), .unset, .unset, .unset] [(.int (p2 &&& (7 : Int32)))])) _
    refine XS.istore X0.here hx rfl (hb hby at_9) rfl (l' := #[.val (.int p1), .val (.int p2), .val (.int p3), .val (.int p4), .val (.int (p1 &&& (3 : Int32))), .val (.int (p2 &&& (7 : Int32))), .unset, .unset]) rfl ?_
    show Steps p.tables e below (s₁.setTop (mkF m 11 #[.val (.int p1), .val (.int p2), .val (.int p3), .val (.int p4), .val (.int (p1 &&& (3 : Int32))), .val (.int (p2 &&& (7 : Int32))), .unset, .unset] [])) _
    rw [hw_0]
    show Steps p.tables e below (s₁.setTop (mkF m 11 #[.val (.int p1), .val (.int p2), .val (.int p3), .val (.int p4), .val (.int (p1 &&& (3 : Int32))), .val (.int (6 : Int32)), .unset, .unset] [])) _
    refine st1 _ ?_
    show Steps p.tables e below (T1.setTop (mkF m 14 #[.val (.int p1), .val (.int p2), .val (.int p3), .val (.int p4), .val (.int (p1 &&& (3 : Int32))), .val (.int (6 : Int32)), .unset, .unset] [(.ref b1)])) _
    refine XS.dup X1.here hx rfl (hb hby at_14) rfl rfl ?_
    show Steps p.tables e below (T1.setTop (mkF m 15 #[.val (.int p1), .val (.int p2), .val (.int p3), .val (.int p4), .val (.int (p1 &&& (3 : Int32))), .val (.int (6 : Int32)), .unset, .unset] [(.ref b1), (.ref b1)])) _
    refine XS.iload X1.here hx rfl (hb hby at_15) rfl ?_
    show Steps p.tables e below (T1.setTop (mkF m 17 #[.val (.int p1), .val (.int p2), .val (.int p3), .val (.int p4), .val (.int (p1 &&& (3 : Int32))), .val (.int (6 : Int32)), .unset, .unset] [(.int (p1 &&& (3 : Int32))), (.ref b1), (.ref b1)])) _
    refine st5.trans ?_
    show Steps p.tables e below (T5.setTop (mkF m 20 #[.val (.int p1), .val (.int p2), .val (.int p3), .val (.int p4), .val (.int (p1 &&& (3 : Int32))), .val (.int (6 : Int32)), .unset, .unset] [(.ref b1)])) _
    refine XS.astore X5.here hx rfl (hb hby at_20) rfl rfl (l' := #[.val (.int p1), .val (.int p2), .val (.int p3), .val (.int p4), .val (.int (p1 &&& (3 : Int32))), .val (.int (6 : Int32)), .val (.ref b1), .unset]) rfl ?_
    show Steps p.tables e below (T5.setTop (mkF m 22 #[.val (.int p1), .val (.int p2), .val (.int p3), .val (.int p4), .val (.int (p1 &&& (3 : Int32))), .val (.int (6 : Int32)), .val (.ref b1), .unset] [])) _
    refine XS.iconst X5.here hx rfl (hb hby at_22) ?_
    show Steps p.tables e below (T5.setTop (mkF m 23 #[.val (.int p1), .val (.int p2), .val (.int p3), .val (.int p4), .val (.int (p1 &&& (3 : Int32))), .val (.int (6 : Int32)), .val (.ref b1), .unset] [(.int (1 : Int32))])) _
    refine XS.istore X5.here hx rfl (hb hby at_23) rfl (l' := #[.val (.int p1), .val (.int p2), .val (.int p3), .val (.int p4), .val (.int (p1 &&& (3 : Int32))), .val (.int (6 : Int32)), .val (.ref b1), .val (.int (1 : Int32))]) rfl ?_
    show Steps p.tables e below (T5.setTop (mkF m 25 #[.val (.int p1), .val (.int p2), .val (.int p3), .val (.int p4), .val (.int (p1 &&& (3 : Int32))), .val (.int (6 : Int32)), .val (.ref b1), .val (.int (1 : Int32))] [])) _
    refine XS.iload X5.here hx rfl (hb hby at_25) rfl ?_
    show Steps p.tables e below (T5.setTop (mkF m 27 #[.val (.int p1), .val (.int p2), .val (.int p3), .val (.int p4), .val (.int (p1 &&& (3 : Int32))), .val (.int (6 : Int32)), .val (.ref b1), .val (.int (1 : Int32))] [(.int (6 : Int32))])) _
    refine XS.ifNo X5.here hx rfl (hb hby at_27) rfl ((if0 _ _).trans (tlt (by decide : (0 : Int32) < (6 : Int32))).2.2.2) ?_
    show Steps p.tables e below (T5.setTop (mkF m 30 #[.val (.int p1), .val (.int p2), .val (.int p3), .val (.int p4), .val (.int (p1 &&& (3 : Int32))), .val (.int (6 : Int32)), .val (.ref b1), .val (.int (1 : Int32))] [])) _
    refine XS.iload X5.here hx rfl (hb hby at_30) rfl ?_
    show Steps p.tables e below (T5.setTop (mkF m 32 #[.val (.int p1), .val (.int p2), .val (.int p3), .val (.int p4), .val (.int (p1 &&& (3 : Int32))), .val (.int (6 : Int32)), .val (.ref b1), .val (.int (1 : Int32))] [(.int (1 : Int32))])) _
    refine XS.ifNo X5.here hx rfl (hb hby at_32) rfl ((if0 _ _).trans (feq (by decide : ¬ ((1 : Int32) = (0 : Int32)))).1) ?_
    show Steps p.tables e below (T5.setTop (mkF m 35 #[.val (.int p1), .val (.int p2), .val (.int p3), .val (.int p4), .val (.int (p1 &&& (3 : Int32))), .val (.int (6 : Int32)), .val (.ref b1), .val (.int (1 : Int32))] [])) _
    refine XS.aload X5.here hx rfl (hb hby at_35) rfl rfl ?_
    show Steps p.tables e below (T5.setTop (mkF m 37 #[.val (.int p1), .val (.int p2), .val (.int p3), .val (.int p4), .val (.int (p1 &&& (3 : Int32))), .val (.int (6 : Int32)), .val (.ref b1), .val (.int (1 : Int32))] [(.ref b1)])) _
    refine XS.iloadN X5.here hx rfl (hb hby at_37) rfl ?_
    show Steps p.tables e below (T5.setTop (mkF m 38 #[.val (.int p1), .val (.int p2), .val (.int p3), .val (.int p4), .val (.int (p1 &&& (3 : Int32))), .val (.int (6 : Int32)), .val (.ref b1), .val (.int (1 : Int32))] [(.int p3), (.ref b1)])) _
    refine XS.i2b X5.here hx rfl (hb hby at_38) rfl ?_
    show Steps p.tables e below (T5.setTop (mkF m 39 #[.val (.int p1), .val (.int p2), .val (.int p3), .val (.int p4), .val (.int (p1 &&& (3 : Int32))), .val (.int (6 : Int32)), .val (.ref b1), .val (.int (1 : Int32))] [(.int (p3.toInt8.toInt32)), (.ref b1)])) _
    refine st11.trans ?_
    show Steps p.tables e below (T11.setTop (mkF m 42 #[.val (.int p1), .val (.int p2), .val (.int p3), .val (.int p4), .val (.int (p1 &&& (3 : Int32))), .val (.int (6 : Int32)), .val (.ref b1), .val (.int (1 : Int32))] [(.ref b1)])) _
    refine XS.aload X11.here hx rfl (hb hby at_42) rfl rfl ?_
    show Steps p.tables e below (T11.setTop (mkF m 44 #[.val (.int p1), .val (.int p2), .val (.int p3), .val (.int p4), .val (.int (p1 &&& (3 : Int32))), .val (.int (6 : Int32)), .val (.ref b1), .val (.int (1 : Int32))] [(.ref b1), (.ref b1)])) _
    refine Jvm.RoadKit.acmp (g := (mkF m 44 #[.val (.int p1), .val (.int p2), .val (.int p3), .val (.int p4), .val (.int (p1 &&& (3 : Int32))), .val (.int (6 : Int32)), .val (.ref b1), .val (.int (1 : Int32))] [(.ref b1), (.ref b1)])) X11 hx rfl rfl rfl (pc0 := 44) (pc' := 47) (same := true) rfl (hb hby at_44) rfl (decide_eq_true rfl) (by decide) (by decide) ?_
    show Steps p.tables e below (T11.setTop (mkF m 47 #[.val (.int p1), .val (.int p2), .val (.int p3), .val (.int p4), .val (.int (p1 &&& (3 : Int32))), .val (.int (6 : Int32)), .val (.ref b1), .val (.int (1 : Int32))] [])) _
    refine XS.iconst X11.here hx rfl (hb hby at_47) ?_
    show Steps p.tables e below (T11.setTop (mkF m 48 #[.val (.int p1), .val (.int p2), .val (.int p3), .val (.int p4), .val (.int (p1 &&& (3 : Int32))), .val (.int (6 : Int32)), .val (.ref b1), .val (.int (1 : Int32))] [(.int (1 : Int32))])) _
    refine XS.goto X11.here hx rfl (pc0 := 48) (pc' := 52) rfl (hb hby at_48) (by decide) (by decide) ?_
    show Steps p.tables e below (T11.setTop (mkF m 52 #[.val (.int p1), .val (.int p2), .val (.int p3), .val (.int p4), .val (.int (p1 &&& (3 : Int32))), .val (.int (6 : Int32)), .val (.ref b1), .val (.int (1 : Int32))] [(.int (1 : Int32))])) _
    refine XS.istore X11.here hx rfl (hb hby at_52) rfl (l' := #[.val (.int p1), .val (.int p2), .val (.int p3), .val (.int p4), .val (.int (p1 &&& (3 : Int32))), .val (.int (6 : Int32)), .val (.ref b1), .val (.int (1 : Int32))]) rfl ?_
    show Steps p.tables e below (T11.setTop (mkF m 54 #[.val (.int p1), .val (.int p2), .val (.int p3), .val (.int p4), .val (.int (p1 &&& (3 : Int32))), .val (.int (6 : Int32)), .val (.ref b1), .val (.int (1 : Int32))] [])) _
    refine XS.iload X11.here hx rfl (hb hby at_54) rfl ?_
    show Steps p.tables e below (T11.setTop (mkF m 56 #[.val (.int p1), .val (.int p2), .val (.int p3), .val (.int p4), .val (.int (p1 &&& (3 : Int32))), .val (.int (6 : Int32)), .val (.ref b1), .val (.int (1 : Int32))] [(.int (6 : Int32))])) _
    refine XS.iconst X11.here hx rfl (hb hby at_56) ?_
    show Steps p.tables e below (T11.setTop (mkF m 57 #[.val (.int p1), .val (.int p2), .val (.int p3), .val (.int p4), .val (.int (p1 &&& (3 : Int32))), .val (.int (6 : Int32)), .val (.ref b1), .val (.int (1 : Int32))] [(.int (1 : Int32)), (.int (6 : Int32))])) _
    refine XS.icmpNo X11.here hx rfl (hb hby at_57) rfl (tlt (by decide : (1 : Int32) < (6 : Int32))).2.2.2 ?_
    show Steps p.tables e below (T11.setTop (mkF m 60 #[.val (.int p1), .val (.int p2), .val (.int p3), .val (.int p4), .val (.int (p1 &&& (3 : Int32))), .val (.int (6 : Int32)), .val (.ref b1), .val (.int (1 : Int32))] [])) _
    refine XS.iload X11.here hx rfl (hb hby at_60) rfl ?_
    show Steps p.tables e below (T11.setTop (mkF m 62 #[.val (.int p1), .val (.int p2), .val (.int p3), .val (.int p4), .val (.int (p1 &&& (3 : Int32))), .val (.int (6 : Int32)), .val (.ref b1), .val (.int (1 : Int32))] [(.int (1 : Int32))])) _
    refine XS.ifNo X11.here hx rfl (hb hby at_62) rfl ((if0 _ _).trans (feq (by decide : ¬ ((1 : Int32) = (0 : Int32)))).1) ?_
    show Steps p.tables e below (T11.setTop (mkF m 65 #[.val (.int p1), .val (.int p2), .val (.int p3), .val (.int p4), .val (.int (p1 &&& (3 : Int32))), .val (.int (6 : Int32)), .val (.ref b1), .val (.int (1 : Int32))] [])) _
    refine XS.aload X11.here hx rfl (hb hby at_65) rfl rfl ?_
    show Steps p.tables e below (T11.setTop (mkF m 67 #[.val (.int p1), .val (.int p2), .val (.int p3), .val (.int p4), .val (.int (p1 &&& (3 : Int32))), .val (.int (6 : Int32)), .val (.ref b1), .val (.int (1 : Int32))] [(.ref b1)])) _
    refine XS.iloadN X11.here hx rfl (hb hby at_67) rfl ?_
    show Steps p.tables e below (T11.setTop (mkF m 68 #[.val (.int p1), .val (.int p2), .val (.int p3), .val (.int p4), .val (.int (p1 &&& (3 : Int32))), .val (.int (6 : Int32)), .val (.ref b1), .val (.int (1 : Int32))] [(.int p3), (.ref b1)])) _
    refine XS.bipush X11.here hx rfl (hb hby at_68) ?_
    show Steps p.tables e below (T11.setTop (mkF m 70 #[.val (.int p1), .val (.int p2), .val (.int p3), .val (.int p4), .val (.int (p1 &&& (3 : Int32))), .val (.int (6 : Int32)), .val (.ref b1), .val (.int (1 : Int32))] [(.int (8 : Int32)), (.int p3), (.ref b1)])) _
    refine XS.iushr X11.here hx rfl (hb hby at_70) rfl ?_
    show Steps p.tables e below (T11.setTop (mkF m 71 #[.val (.int p1), .val (.int p2), .val (.int p3), .val (.int p4), .val (.int (p1 &&& (3 : Int32))), .val (.int (6 : Int32)), .val (.ref b1), .val (.int (1 : Int32))] [(.int ((p3.toUInt32 >>> ((8 : Int32) &&& 31).toUInt32).toInt32)), (.ref b1)])) _
    refine XS.i2b X11.here hx rfl (hb hby at_71) rfl ?_
    show Steps p.tables e below (T11.setTop (mkF m 72 #[.val (.int p1), .val (.int p2), .val (.int p3), .val (.int p4), .val (.int (p1 &&& (3 : Int32))), .val (.int (6 : Int32)), .val (.ref b1), .val (.int (1 : Int32))] [(.int (((p3.toUInt32 >>> ((8 : Int32) &&& 31).toUInt32).toInt32).toInt8.toInt32)), (.ref b1)])) _
    refine st18.trans ?_
    show Steps p.tables e below (T18.setTop (mkF m 75 #[.val (.int p1), .val (.int p2), .val (.int p3), .val (.int p4), .val (.int (p1 &&& (3 : Int32))), .val (.int (6 : Int32)), .val (.ref b1), .val (.int (1 : Int32))] [(.ref b1)])) _
    refine XS.aload X18.here hx rfl (hb hby at_75) rfl rfl ?_
    show Steps p.tables e below (T18.setTop (mkF m 77 #[.val (.int p1), .val (.int p2), .val (.int p3), .val (.int p4), .val (.int (p1 &&& (3 : Int32))), .val (.int (6 : Int32)), .val (.ref b1), .val (.int (1 : Int32))] [(.ref b1), (.ref b1)])) _
    refine Jvm.RoadKit.acmp (g := (mkF m 77 #[.val (.int p1), .val (.int p2), .val (.int p3), .val (.int p4), .val (.int (p1 &&& (3 : Int32))), .val (.int (6 : Int32)), .val (.ref b1), .val (.int (1 : Int32))] [(.ref b1), (.ref b1)])) X18 hx rfl rfl rfl (pc0 := 77) (pc' := 80) (same := true) rfl (hb hby at_77) rfl (decide_eq_true rfl) (by decide) (by decide) ?_
    show Steps p.tables e below (T18.setTop (mkF m 80 #[.val (.int p1), .val (.int p2), .val (.int p3), .val (.int p4), .val (.int (p1 &&& (3 : Int32))), .val (.int (6 : Int32)), .val (.ref b1), .val (.int (1 : Int32))] [])) _
    refine XS.iconst X18.here hx rfl (hb hby at_80) ?_
    show Steps p.tables e below (T18.setTop (mkF m 81 #[.val (.int p1), .val (.int p2), .val (.int p3), .val (.int p4), .val (.int (p1 &&& (3 : Int32))), .val (.int (6 : Int32)), .val (.ref b1), .val (.int (1 : Int32))] [(.int (1 : Int32))])) _
    refine XS.goto X18.here hx rfl (pc0 := 81) (pc' := 85) rfl (hb hby at_81) (by decide) (by decide) ?_
    show Steps p.tables e below (T18.setTop (mkF m 85 #[.val (.int p1), .val (.int p2), .val (.int p3), .val (.int p4), .val (.int (p1 &&& (3 : Int32))), .val (.int (6 : Int32)), .val (.ref b1), .val (.int (1 : Int32))] [(.int (1 : Int32))])) _
    refine XS.istore X18.here hx rfl (hb hby at_85) rfl (l' := #[.val (.int p1), .val (.int p2), .val (.int p3), .val (.int p4), .val (.int (p1 &&& (3 : Int32))), .val (.int (6 : Int32)), .val (.ref b1), .val (.int (1 : Int32))]) rfl ?_
    show Steps p.tables e below (T18.setTop (mkF m 87 #[.val (.int p1), .val (.int p2), .val (.int p3), .val (.int p4), .val (.int (p1 &&& (3 : Int32))), .val (.int (6 : Int32)), .val (.ref b1), .val (.int (1 : Int32))] [])) _
    refine XS.iload X18.here hx rfl (hb hby at_87) rfl ?_
    show Steps p.tables e below (T18.setTop (mkF m 89 #[.val (.int p1), .val (.int p2), .val (.int p3), .val (.int p4), .val (.int (p1 &&& (3 : Int32))), .val (.int (6 : Int32)), .val (.ref b1), .val (.int (1 : Int32))] [(.int (6 : Int32))])) _
    refine XS.iconst X18.here hx rfl (hb hby at_89) ?_
    show Steps p.tables e below (T18.setTop (mkF m 90 #[.val (.int p1), .val (.int p2), .val (.int p3), .val (.int p4), .val (.int (p1 &&& (3 : Int32))), .val (.int (6 : Int32)), .val (.ref b1), .val (.int (1 : Int32))] [(.int (2 : Int32)), (.int (6 : Int32))])) _
    refine XS.icmpNo X18.here hx rfl (hb hby at_90) rfl (tlt (by decide : (2 : Int32) < (6 : Int32))).2.2.2 ?_
    show Steps p.tables e below (T18.setTop (mkF m 93 #[.val (.int p1), .val (.int p2), .val (.int p3), .val (.int p4), .val (.int (p1 &&& (3 : Int32))), .val (.int (6 : Int32)), .val (.ref b1), .val (.int (1 : Int32))] [])) _
    refine XS.iload X18.here hx rfl (hb hby at_93) rfl ?_
    show Steps p.tables e below (T18.setTop (mkF m 95 #[.val (.int p1), .val (.int p2), .val (.int p3), .val (.int p4), .val (.int (p1 &&& (3 : Int32))), .val (.int (6 : Int32)), .val (.ref b1), .val (.int (1 : Int32))] [(.int (1 : Int32))])) _
    refine XS.ifNo X18.here hx rfl (hb hby at_95) rfl ((if0 _ _).trans (feq (by decide : ¬ ((1 : Int32) = (0 : Int32)))).1) ?_
    show Steps p.tables e below (T18.setTop (mkF m 98 #[.val (.int p1), .val (.int p2), .val (.int p3), .val (.int p4), .val (.int (p1 &&& (3 : Int32))), .val (.int (6 : Int32)), .val (.ref b1), .val (.int (1 : Int32))] [])) _
    refine XS.aload X18.here hx rfl (hb hby at_98) rfl rfl ?_
    show Steps p.tables e below (T18.setTop (mkF m 100 #[.val (.int p1), .val (.int p2), .val (.int p3), .val (.int p4), .val (.int (p1 &&& (3 : Int32))), .val (.int (6 : Int32)), .val (.ref b1), .val (.int (1 : Int32))] [(.ref b1)])) _
    refine XS.iloadN X18.here hx rfl (hb hby at_100) rfl ?_
    show Steps p.tables e below (T18.setTop (mkF m 101 #[.val (.int p1), .val (.int p2), .val (.int p3), .val (.int p4), .val (.int (p1 &&& (3 : Int32))), .val (.int (6 : Int32)), .val (.ref b1), .val (.int (1 : Int32))] [(.int p3), (.ref b1)])) _
    refine XS.bipush X18.here hx rfl (hb hby at_101) ?_
    show Steps p.tables e below (T18.setTop (mkF m 103 #[.val (.int p1), .val (.int p2), .val (.int p3), .val (.int p4), .val (.int (p1 &&& (3 : Int32))), .val (.int (6 : Int32)), .val (.ref b1), .val (.int (1 : Int32))] [(.int (16 : Int32)), (.int p3), (.ref b1)])) _
    refine XS.iushr X18.here hx rfl (hb hby at_103) rfl ?_
    show Steps p.tables e below (T18.setTop (mkF m 104 #[.val (.int p1), .val (.int p2), .val (.int p3), .val (.int p4), .val (.int (p1 &&& (3 : Int32))), .val (.int (6 : Int32)), .val (.ref b1), .val (.int (1 : Int32))] [(.int ((p3.toUInt32 >>> ((16 : Int32) &&& 31).toUInt32).toInt32)), (.ref b1)])) _
    refine XS.i2b X18.here hx rfl (hb hby at_104) rfl ?_
    show Steps p.tables e below (T18.setTop (mkF m 105 #[.val (.int p1), .val (.int p2), .val (.int p3), .val (.int p4), .val (.int (p1 &&& (3 : Int32))), .val (.int (6 : Int32)), .val (.ref b1), .val (.int (1 : Int32))] [(.int (((p3.toUInt32 >>> ((16 : Int32) &&& 31).toUInt32).toInt32).toInt8.toInt32)), (.ref b1)])) _
    refine st26.trans ?_
    show Steps p.tables e below (T26.setTop (mkF m 108 #[.val (.int p1), .val (.int p2), .val (.int p3), .val (.int p4), .val (.int (p1 &&& (3 : Int32))), .val (.int (6 : Int32)), .val (.ref b1), .val (.int (1 : Int32))] [(.ref b1)])) _
    refine XS.aload X26.here hx rfl (hb hby at_108) rfl rfl ?_
    show Steps p.tables e below (T26.setTop (mkF m 110 #[.val (.int p1), .val (.int p2), .val (.int p3), .val (.int p4), .val (.int (p1 &&& (3 : Int32))), .val (.int (6 : Int32)), .val (.ref b1), .val (.int (1 : Int32))] [(.ref b1), (.ref b1)])) _
    refine Jvm.RoadKit.acmp (g := (mkF m 110 #[.val (.int p1), .val (.int p2), .val (.int p3), .val (.int p4), .val (.int (p1 &&& (3 : Int32))), .val (.int (6 : Int32)), .val (.ref b1), .val (.int (1 : Int32))] [(.ref b1), (.ref b1)])) X26 hx rfl rfl rfl (pc0 := 110) (pc' := 113) (same := true) rfl (hb hby at_110) rfl (decide_eq_true rfl) (by decide) (by decide) ?_
    show Steps p.tables e below (T26.setTop (mkF m 113 #[.val (.int p1), .val (.int p2), .val (.int p3), .val (.int p4), .val (.int (p1 &&& (3 : Int32))), .val (.int (6 : Int32)), .val (.ref b1), .val (.int (1 : Int32))] [])) _
    refine XS.iconst X26.here hx rfl (hb hby at_113) ?_
    show Steps p.tables e below (T26.setTop (mkF m 114 #[.val (.int p1), .val (.int p2), .val (.int p3), .val (.int p4), .val (.int (p1 &&& (3 : Int32))), .val (.int (6 : Int32)), .val (.ref b1), .val (.int (1 : Int32))] [(.int (1 : Int32))])) _
    refine XS.goto X26.here hx rfl (pc0 := 114) (pc' := 118) rfl (hb hby at_114) (by decide) (by decide) ?_
    show Steps p.tables e below (T26.setTop (mkF m 118 #[.val (.int p1), .val (.int p2), .val (.int p3), .val (.int p4), .val (.int (p1 &&& (3 : Int32))), .val (.int (6 : Int32)), .val (.ref b1), .val (.int (1 : Int32))] [(.int (1 : Int32))])) _
    refine XS.istore X26.here hx rfl (hb hby at_118) rfl (l' := #[.val (.int p1), .val (.int p2), .val (.int p3), .val (.int p4), .val (.int (p1 &&& (3 : Int32))), .val (.int (6 : Int32)), .val (.ref b1), .val (.int (1 : Int32))]) rfl ?_
    show Steps p.tables e below (T26.setTop (mkF m 120 #[.val (.int p1), .val (.int p2), .val (.int p3), .val (.int p4), .val (.int (p1 &&& (3 : Int32))), .val (.int (6 : Int32)), .val (.ref b1), .val (.int (1 : Int32))] [])) _
    refine XS.iload X26.here hx rfl (hb hby at_120) rfl ?_
    show Steps p.tables e below (T26.setTop (mkF m 122 #[.val (.int p1), .val (.int p2), .val (.int p3), .val (.int p4), .val (.int (p1 &&& (3 : Int32))), .val (.int (6 : Int32)), .val (.ref b1), .val (.int (1 : Int32))] [(.int (6 : Int32))])) _
    refine XS.iconst X26.here hx rfl (hb hby at_122) ?_
    show Steps p.tables e below (T26.setTop (mkF m 123 #[.val (.int p1), .val (.int p2), .val (.int p3), .val (.int p4), .val (.int (p1 &&& (3 : Int32))), .val (.int (6 : Int32)), .val (.ref b1), .val (.int (1 : Int32))] [(.int (3 : Int32)), (.int (6 : Int32))])) _
    refine XS.icmpNo X26.here hx rfl (hb hby at_123) rfl (tlt (by decide : (3 : Int32) < (6 : Int32))).2.2.2 ?_
    show Steps p.tables e below (T26.setTop (mkF m 126 #[.val (.int p1), .val (.int p2), .val (.int p3), .val (.int p4), .val (.int (p1 &&& (3 : Int32))), .val (.int (6 : Int32)), .val (.ref b1), .val (.int (1 : Int32))] [])) _
    refine XS.iload X26.here hx rfl (hb hby at_126) rfl ?_
    show Steps p.tables e below (T26.setTop (mkF m 128 #[.val (.int p1), .val (.int p2), .val (.int p3), .val (.int p4), .val (.int (p1 &&& (3 : Int32))), .val (.int (6 : Int32)), .val (.ref b1), .val (.int (1 : Int32))] [(.int (1 : Int32))])) _
    refine XS.ifNo X26.here hx rfl (hb hby at_128) rfl ((if0 _ _).trans (feq (by decide : ¬ ((1 : Int32) = (0 : Int32)))).1) ?_
    show Steps p.tables e below (T26.setTop (mkF m 131 #[.val (.int p1), .val (.int p2), .val (.int p3), .val (.int p4), .val (.int (p1 &&& (3 : Int32))), .val (.int (6 : Int32)), .val (.ref b1), .val (.int (1 : Int32))] [])) _
    refine XS.aload X26.here hx rfl (hb hby at_131) rfl rfl ?_
    show Steps p.tables e below (T26.setTop (mkF m 133 #[.val (.int p1), .val (.int p2), .val (.int p3), .val (.int p4), .val (.int (p1 &&& (3 : Int32))), .val (.int (6 : Int32)), .val (.ref b1), .val (.int (1 : Int32))] [(.ref b1)])) _
    refine XS.iloadN X26.here hx rfl (hb hby at_133) rfl ?_
    show Steps p.tables e below (T26.setTop (mkF m 134 #[.val (.int p1), .val (.int p2), .val (.int p3), .val (.int p4), .val (.int (p1 &&& (3 : Int32))), .val (.int (6 : Int32)), .val (.ref b1), .val (.int (1 : Int32))] [(.int p3), (.ref b1)])) _
    refine XS.bipush X26.here hx rfl (hb hby at_134) ?_
    show Steps p.tables e below (T26.setTop (mkF m 136 #[.val (.int p1), .val (.int p2), .val (.int p3), .val (.int p4), .val (.int (p1 &&& (3 : Int32))), .val (.int (6 : Int32)), .val (.ref b1), .val (.int (1 : Int32))] [(.int (24 : Int32)), (.int p3), (.ref b1)])) _
    refine XS.iushr X26.here hx rfl (hb hby at_136) rfl ?_
    show Steps p.tables e below (T26.setTop (mkF m 137 #[.val (.int p1), .val (.int p2), .val (.int p3), .val (.int p4), .val (.int (p1 &&& (3 : Int32))), .val (.int (6 : Int32)), .val (.ref b1), .val (.int (1 : Int32))] [(.int ((p3.toUInt32 >>> ((24 : Int32) &&& 31).toUInt32).toInt32)), (.ref b1)])) _
    refine XS.i2b X26.here hx rfl (hb hby at_137) rfl ?_
    show Steps p.tables e below (T26.setTop (mkF m 138 #[.val (.int p1), .val (.int p2), .val (.int p3), .val (.int p4), .val (.int (p1 &&& (3 : Int32))), .val (.int (6 : Int32)), .val (.ref b1), .val (.int (1 : Int32))] [(.int (((p3.toUInt32 >>> ((24 : Int32) &&& 31).toUInt32).toInt32).toInt8.toInt32)), (.ref b1)])) _
    refine st35.trans ?_
    show Steps p.tables e below (T35.setTop (mkF m 141 #[.val (.int p1), .val (.int p2), .val (.int p3), .val (.int p4), .val (.int (p1 &&& (3 : Int32))), .val (.int (6 : Int32)), .val (.ref b1), .val (.int (1 : Int32))] [(.ref b1)])) _
    refine XS.aload X35.here hx rfl (hb hby at_141) rfl rfl ?_
    show Steps p.tables e below (T35.setTop (mkF m 143 #[.val (.int p1), .val (.int p2), .val (.int p3), .val (.int p4), .val (.int (p1 &&& (3 : Int32))), .val (.int (6 : Int32)), .val (.ref b1), .val (.int (1 : Int32))] [(.ref b1), (.ref b1)])) _
    refine Jvm.RoadKit.acmp (g := (mkF m 143 #[.val (.int p1), .val (.int p2), .val (.int p3), .val (.int p4), .val (.int (p1 &&& (3 : Int32))), .val (.int (6 : Int32)), .val (.ref b1), .val (.int (1 : Int32))] [(.ref b1), (.ref b1)])) X35 hx rfl rfl rfl (pc0 := 143) (pc' := 146) (same := true) rfl (hb hby at_143) rfl (decide_eq_true rfl) (by decide) (by decide) ?_
    show Steps p.tables e below (T35.setTop (mkF m 146 #[.val (.int p1), .val (.int p2), .val (.int p3), .val (.int p4), .val (.int (p1 &&& (3 : Int32))), .val (.int (6 : Int32)), .val (.ref b1), .val (.int (1 : Int32))] [])) _
    refine XS.iconst X35.here hx rfl (hb hby at_146) ?_
    show Steps p.tables e below (T35.setTop (mkF m 147 #[.val (.int p1), .val (.int p2), .val (.int p3), .val (.int p4), .val (.int (p1 &&& (3 : Int32))), .val (.int (6 : Int32)), .val (.ref b1), .val (.int (1 : Int32))] [(.int (1 : Int32))])) _
    refine XS.goto X35.here hx rfl (pc0 := 147) (pc' := 151) rfl (hb hby at_147) (by decide) (by decide) ?_
    show Steps p.tables e below (T35.setTop (mkF m 151 #[.val (.int p1), .val (.int p2), .val (.int p3), .val (.int p4), .val (.int (p1 &&& (3 : Int32))), .val (.int (6 : Int32)), .val (.ref b1), .val (.int (1 : Int32))] [(.int (1 : Int32))])) _
    refine XS.istore X35.here hx rfl (hb hby at_151) rfl (l' := #[.val (.int p1), .val (.int p2), .val (.int p3), .val (.int p4), .val (.int (p1 &&& (3 : Int32))), .val (.int (6 : Int32)), .val (.ref b1), .val (.int (1 : Int32))]) rfl ?_
    show Steps p.tables e below (T35.setTop (mkF m 153 #[.val (.int p1), .val (.int p2), .val (.int p3), .val (.int p4), .val (.int (p1 &&& (3 : Int32))), .val (.int (6 : Int32)), .val (.ref b1), .val (.int (1 : Int32))] [])) _
    refine XS.iload X35.here hx rfl (hb hby at_153) rfl ?_
    show Steps p.tables e below (T35.setTop (mkF m 155 #[.val (.int p1), .val (.int p2), .val (.int p3), .val (.int p4), .val (.int (p1 &&& (3 : Int32))), .val (.int (6 : Int32)), .val (.ref b1), .val (.int (1 : Int32))] [(.int (6 : Int32))])) _
    refine XS.iconst X35.here hx rfl (hb hby at_155) ?_
    show Steps p.tables e below (T35.setTop (mkF m 156 #[.val (.int p1), .val (.int p2), .val (.int p3), .val (.int p4), .val (.int (p1 &&& (3 : Int32))), .val (.int (6 : Int32)), .val (.ref b1), .val (.int (1 : Int32))] [(.int (4 : Int32)), (.int (6 : Int32))])) _
    refine XS.icmpNo X35.here hx rfl (hb hby at_156) rfl (tlt (by decide : (4 : Int32) < (6 : Int32))).2.2.2 ?_
    show Steps p.tables e below (T35.setTop (mkF m 159 #[.val (.int p1), .val (.int p2), .val (.int p3), .val (.int p4), .val (.int (p1 &&& (3 : Int32))), .val (.int (6 : Int32)), .val (.ref b1), .val (.int (1 : Int32))] [])) _
    refine XS.iload X35.here hx rfl (hb hby at_159) rfl ?_
    show Steps p.tables e below (T35.setTop (mkF m 161 #[.val (.int p1), .val (.int p2), .val (.int p3), .val (.int p4), .val (.int (p1 &&& (3 : Int32))), .val (.int (6 : Int32)), .val (.ref b1), .val (.int (1 : Int32))] [(.int (1 : Int32))])) _
    refine XS.ifNo X35.here hx rfl (hb hby at_161) rfl ((if0 _ _).trans (feq (by decide : ¬ ((1 : Int32) = (0 : Int32)))).1) ?_
    show Steps p.tables e below (T35.setTop (mkF m 164 #[.val (.int p1), .val (.int p2), .val (.int p3), .val (.int p4), .val (.int (p1 &&& (3 : Int32))), .val (.int (6 : Int32)), .val (.ref b1), .val (.int (1 : Int32))] [])) _
    refine XS.aload X35.here hx rfl (hb hby at_164) rfl rfl ?_
    show Steps p.tables e below (T35.setTop (mkF m 166 #[.val (.int p1), .val (.int p2), .val (.int p3), .val (.int p4), .val (.int (p1 &&& (3 : Int32))), .val (.int (6 : Int32)), .val (.ref b1), .val (.int (1 : Int32))] [(.ref b1)])) _
    refine XS.iloadN X35.here hx rfl (hb hby at_166) rfl ?_
    show Steps p.tables e below (T35.setTop (mkF m 167 #[.val (.int p1), .val (.int p2), .val (.int p3), .val (.int p4), .val (.int (p1 &&& (3 : Int32))), .val (.int (6 : Int32)), .val (.ref b1), .val (.int (1 : Int32))] [(.int p4), (.ref b1)])) _
    refine XS.i2b X35.here hx rfl (hb hby at_167) rfl ?_
    show Steps p.tables e below (T35.setTop (mkF m 168 #[.val (.int p1), .val (.int p2), .val (.int p3), .val (.int p4), .val (.int (p1 &&& (3 : Int32))), .val (.int (6 : Int32)), .val (.ref b1), .val (.int (1 : Int32))] [(.int (p4.toInt8.toInt32)), (.ref b1)])) _
    refine st45.trans ?_
    show Steps p.tables e below (T45.setTop (mkF m 171 #[.val (.int p1), .val (.int p2), .val (.int p3), .val (.int p4), .val (.int (p1 &&& (3 : Int32))), .val (.int (6 : Int32)), .val (.ref b1), .val (.int (1 : Int32))] [(.ref b1)])) _
    refine XS.aload X45.here hx rfl (hb hby at_171) rfl rfl ?_
    show Steps p.tables e below (T45.setTop (mkF m 173 #[.val (.int p1), .val (.int p2), .val (.int p3), .val (.int p4), .val (.int (p1 &&& (3 : Int32))), .val (.int (6 : Int32)), .val (.ref b1), .val (.int (1 : Int32))] [(.ref b1), (.ref b1)])) _
    refine Jvm.RoadKit.acmp (g := (mkF m 173 #[.val (.int p1), .val (.int p2), .val (.int p3), .val (.int p4), .val (.int (p1 &&& (3 : Int32))), .val (.int (6 : Int32)), .val (.ref b1), .val (.int (1 : Int32))] [(.ref b1), (.ref b1)])) X45 hx rfl rfl rfl (pc0 := 173) (pc' := 176) (same := true) rfl (hb hby at_173) rfl (decide_eq_true rfl) (by decide) (by decide) ?_
    show Steps p.tables e below (T45.setTop (mkF m 176 #[.val (.int p1), .val (.int p2), .val (.int p3), .val (.int p4), .val (.int (p1 &&& (3 : Int32))), .val (.int (6 : Int32)), .val (.ref b1), .val (.int (1 : Int32))] [])) _
    refine XS.iconst X45.here hx rfl (hb hby at_176) ?_
    show Steps p.tables e below (T45.setTop (mkF m 177 #[.val (.int p1), .val (.int p2), .val (.int p3), .val (.int p4), .val (.int (p1 &&& (3 : Int32))), .val (.int (6 : Int32)), .val (.ref b1), .val (.int (1 : Int32))] [(.int (1 : Int32))])) _
    refine XS.goto X45.here hx rfl (pc0 := 177) (pc' := 181) rfl (hb hby at_177) (by decide) (by decide) ?_
    show Steps p.tables e below (T45.setTop (mkF m 181 #[.val (.int p1), .val (.int p2), .val (.int p3), .val (.int p4), .val (.int (p1 &&& (3 : Int32))), .val (.int (6 : Int32)), .val (.ref b1), .val (.int (1 : Int32))] [(.int (1 : Int32))])) _
    refine XS.istore X45.here hx rfl (hb hby at_181) rfl (l' := #[.val (.int p1), .val (.int p2), .val (.int p3), .val (.int p4), .val (.int (p1 &&& (3 : Int32))), .val (.int (6 : Int32)), .val (.ref b1), .val (.int (1 : Int32))]) rfl ?_
    show Steps p.tables e below (T45.setTop (mkF m 183 #[.val (.int p1), .val (.int p2), .val (.int p3), .val (.int p4), .val (.int (p1 &&& (3 : Int32))), .val (.int (6 : Int32)), .val (.ref b1), .val (.int (1 : Int32))] [])) _
    refine XS.iload X45.here hx rfl (hb hby at_183) rfl ?_
    show Steps p.tables e below (T45.setTop (mkF m 185 #[.val (.int p1), .val (.int p2), .val (.int p3), .val (.int p4), .val (.int (p1 &&& (3 : Int32))), .val (.int (6 : Int32)), .val (.ref b1), .val (.int (1 : Int32))] [(.int (6 : Int32))])) _
    refine XS.iconst X45.here hx rfl (hb hby at_185) ?_
    show Steps p.tables e below (T45.setTop (mkF m 186 #[.val (.int p1), .val (.int p2), .val (.int p3), .val (.int p4), .val (.int (p1 &&& (3 : Int32))), .val (.int (6 : Int32)), .val (.ref b1), .val (.int (1 : Int32))] [(.int (5 : Int32)), (.int (6 : Int32))])) _
    refine XS.icmpNo X45.here hx rfl (hb hby at_186) rfl (tlt (by decide : (5 : Int32) < (6 : Int32))).2.2.2 ?_
    show Steps p.tables e below (T45.setTop (mkF m 189 #[.val (.int p1), .val (.int p2), .val (.int p3), .val (.int p4), .val (.int (p1 &&& (3 : Int32))), .val (.int (6 : Int32)), .val (.ref b1), .val (.int (1 : Int32))] [])) _
    refine XS.iload X45.here hx rfl (hb hby at_189) rfl ?_
    show Steps p.tables e below (T45.setTop (mkF m 191 #[.val (.int p1), .val (.int p2), .val (.int p3), .val (.int p4), .val (.int (p1 &&& (3 : Int32))), .val (.int (6 : Int32)), .val (.ref b1), .val (.int (1 : Int32))] [(.int (1 : Int32))])) _
    refine XS.ifNo X45.here hx rfl (hb hby at_191) rfl ((if0 _ _).trans (feq (by decide : ¬ ((1 : Int32) = (0 : Int32)))).1) ?_
    show Steps p.tables e below (T45.setTop (mkF m 194 #[.val (.int p1), .val (.int p2), .val (.int p3), .val (.int p4), .val (.int (p1 &&& (3 : Int32))), .val (.int (6 : Int32)), .val (.ref b1), .val (.int (1 : Int32))] [])) _
    refine XS.aload X45.here hx rfl (hb hby at_194) rfl rfl ?_
    show Steps p.tables e below (T45.setTop (mkF m 196 #[.val (.int p1), .val (.int p2), .val (.int p3), .val (.int p4), .val (.int (p1 &&& (3 : Int32))), .val (.int (6 : Int32)), .val (.ref b1), .val (.int (1 : Int32))] [(.ref b1)])) _
    refine XS.iloadN X45.here hx rfl (hb hby at_196) rfl ?_
    show Steps p.tables e below (T45.setTop (mkF m 197 #[.val (.int p1), .val (.int p2), .val (.int p3), .val (.int p4), .val (.int (p1 &&& (3 : Int32))), .val (.int (6 : Int32)), .val (.ref b1), .val (.int (1 : Int32))] [(.int p4), (.ref b1)])) _
    refine XS.bipush X45.here hx rfl (hb hby at_197) ?_
    show Steps p.tables e below (T45.setTop (mkF m 199 #[.val (.int p1), .val (.int p2), .val (.int p3), .val (.int p4), .val (.int (p1 &&& (3 : Int32))), .val (.int (6 : Int32)), .val (.ref b1), .val (.int (1 : Int32))] [(.int (8 : Int32)), (.int p4), (.ref b1)])) _
    refine XS.iushr X45.here hx rfl (hb hby at_199) rfl ?_
    show Steps p.tables e below (T45.setTop (mkF m 200 #[.val (.int p1), .val (.int p2), .val (.int p3), .val (.int p4), .val (.int (p1 &&& (3 : Int32))), .val (.int (6 : Int32)), .val (.ref b1), .val (.int (1 : Int32))] [(.int ((p4.toUInt32 >>> ((8 : Int32) &&& 31).toUInt32).toInt32)), (.ref b1)])) _
    refine XS.i2b X45.here hx rfl (hb hby at_200) rfl ?_
    show Steps p.tables e below (T45.setTop (mkF m 201 #[.val (.int p1), .val (.int p2), .val (.int p3), .val (.int p4), .val (.int (p1 &&& (3 : Int32))), .val (.int (6 : Int32)), .val (.ref b1), .val (.int (1 : Int32))] [(.int (((p4.toUInt32 >>> ((8 : Int32) &&& 31).toUInt32).toInt32).toInt8.toInt32)), (.ref b1)])) _
    refine st56.trans ?_
    show Steps p.tables e below (T56.setTop (mkF m 204 #[.val (.int p1), .val (.int p2), .val (.int p3), .val (.int p4), .val (.int (p1 &&& (3 : Int32))), .val (.int (6 : Int32)), .val (.ref b1), .val (.int (1 : Int32))] [(.ref b1)])) _
    refine XS.aload X56.here hx rfl (hb hby at_204) rfl rfl ?_
    show Steps p.tables e below (T56.setTop (mkF m 206 #[.val (.int p1), .val (.int p2), .val (.int p3), .val (.int p4), .val (.int (p1 &&& (3 : Int32))), .val (.int (6 : Int32)), .val (.ref b1), .val (.int (1 : Int32))] [(.ref b1), (.ref b1)])) _
    refine Jvm.RoadKit.acmp (g := (mkF m 206 #[.val (.int p1), .val (.int p2), .val (.int p3), .val (.int p4), .val (.int (p1 &&& (3 : Int32))), .val (.int (6 : Int32)), .val (.ref b1), .val (.int (1 : Int32))] [(.ref b1), (.ref b1)])) X56 hx rfl rfl rfl (pc0 := 206) (pc' := 209) (same := true) rfl (hb hby at_206) rfl (decide_eq_true rfl) (by decide) (by decide) ?_
    show Steps p.tables e below (T56.setTop (mkF m 209 #[.val (.int p1), .val (.int p2), .val (.int p3), .val (.int p4), .val (.int (p1 &&& (3 : Int32))), .val (.int (6 : Int32)), .val (.ref b1), .val (.int (1 : Int32))] [])) _
    refine XS.iconst X56.here hx rfl (hb hby at_209) ?_
    show Steps p.tables e below (T56.setTop (mkF m 210 #[.val (.int p1), .val (.int p2), .val (.int p3), .val (.int p4), .val (.int (p1 &&& (3 : Int32))), .val (.int (6 : Int32)), .val (.ref b1), .val (.int (1 : Int32))] [(.int (1 : Int32))])) _
    refine XS.goto X56.here hx rfl (pc0 := 210) (pc' := 214) rfl (hb hby at_210) (by decide) (by decide) ?_
    show Steps p.tables e below (T56.setTop (mkF m 214 #[.val (.int p1), .val (.int p2), .val (.int p3), .val (.int p4), .val (.int (p1 &&& (3 : Int32))), .val (.int (6 : Int32)), .val (.ref b1), .val (.int (1 : Int32))] [(.int (1 : Int32))])) _
    refine XS.istore X56.here hx rfl (hb hby at_214) rfl (l' := #[.val (.int p1), .val (.int p2), .val (.int p3), .val (.int p4), .val (.int (p1 &&& (3 : Int32))), .val (.int (6 : Int32)), .val (.ref b1), .val (.int (1 : Int32))]) rfl ?_
    show Steps p.tables e below (T56.setTop (mkF m 216 #[.val (.int p1), .val (.int p2), .val (.int p3), .val (.int p4), .val (.int (p1 &&& (3 : Int32))), .val (.int (6 : Int32)), .val (.ref b1), .val (.int (1 : Int32))] [])) _
    refine XS.iload X56.here hx rfl (hb hby at_216) rfl ?_
    show Steps p.tables e below (T56.setTop (mkF m 218 #[.val (.int p1), .val (.int p2), .val (.int p3), .val (.int p4), .val (.int (p1 &&& (3 : Int32))), .val (.int (6 : Int32)), .val (.ref b1), .val (.int (1 : Int32))] [(.int (6 : Int32))])) _
    refine XS.bipush X56.here hx rfl (hb hby at_218) ?_
    show Steps p.tables e below (T56.setTop (mkF m 220 #[.val (.int p1), .val (.int p2), .val (.int p3), .val (.int p4), .val (.int (p1 &&& (3 : Int32))), .val (.int (6 : Int32)), .val (.ref b1), .val (.int (1 : Int32))] [(.int (6 : Int32)), (.int (6 : Int32))])) _
    refine XS.icmpYes X56.here hx rfl (pc0 := 220) (pc' := 250) rfl (hb hby at_220) rfl (flt (by decide : ¬ ((6 : Int32) < (6 : Int32)))).2.2.2 (by decide) (by decide) ?_
    show Steps p.tables e below (T56.setTop (mkF m 250 #[.val (.int p1), .val (.int p2), .val (.int p3), .val (.int p4), .val (.int (p1 &&& (3 : Int32))), .val (.int (6 : Int32)), .val (.ref b1), .val (.int (1 : Int32))] [])) _
    refine XS.iload X56.here hx rfl (hb hby at_250) rfl ?_
    show Steps p.tables e below (T56.setTop (mkF m 252 #[.val (.int p1), .val (.int p2), .val (.int p3), .val (.int p4), .val (.int (p1 &&& (3 : Int32))), .val (.int (6 : Int32)), .val (.ref b1), .val (.int (1 : Int32))] [(.int (1 : Int32))])) _
    refine XS.ifNo X56.here hx rfl (hb hby at_252) rfl ((if0 _ _).trans (feq (by decide : ¬ ((1 : Int32) = (0 : Int32)))).1) ?_
    show Steps p.tables e below (T56.setTop (mkF m 255 #[.val (.int p1), .val (.int p2), .val (.int p3), .val (.int p4), .val (.int (p1 &&& (3 : Int32))), .val (.int (6 : Int32)), .val (.ref b1), .val (.int (1 : Int32))] [])) _
    refine XS.aload X56.here hx rfl (hb hby at_255) rfl rfl ?_
    show Steps p.tables e below (T56.setTop (mkF m 257 #[.val (.int p1), .val (.int p2), .val (.int p3), .val (.int p4), .val (.int (p1 &&& (3 : Int32))), .val (.int (6 : Int32)), .val (.ref b1), .val (.int (1 : Int32))] [(.ref b1)])) _
    refine st68.trans ?_
    show Steps p.tables e below (T68.setTop (mkF m 260 #[.val (.int p1), .val (.int p2), .val (.int p3), .val (.int p4), .val (.int (p1 &&& (3 : Int32))), .val (.int (6 : Int32)), .val (.ref b1), .val (.int (1 : Int32))] [(.int (6 : Int32))])) _
    refine XS.iload X68.here hx rfl (hb hby at_260) rfl ?_
    show Steps p.tables e below (T68.setTop (mkF m 262 #[.val (.int p1), .val (.int p2), .val (.int p3), .val (.int p4), .val (.int (p1 &&& (3 : Int32))), .val (.int (6 : Int32)), .val (.ref b1), .val (.int (1 : Int32))] [(.int (6 : Int32)), (.int (6 : Int32))])) _
    refine XS.icmpNo X68.here hx rfl (hb hby at_262) rfl (teq (by decide : (6 : Int32) = (6 : Int32))).2 ?_
    show Steps p.tables e below (T68.setTop (mkF m 265 #[.val (.int p1), .val (.int p2), .val (.int p3), .val (.int p4), .val (.int (p1 &&& (3 : Int32))), .val (.int (6 : Int32)), .val (.ref b1), .val (.int (1 : Int32))] [])) _
    refine XS.iconst X68.here hx rfl (hb hby at_265) ?_
    show Steps p.tables e below (T68.setTop (mkF m 266 #[.val (.int p1), .val (.int p2), .val (.int p3), .val (.int p4), .val (.int (p1 &&& (3 : Int32))), .val (.int (6 : Int32)), .val (.ref b1), .val (.int (1 : Int32))] [(.int (1 : Int32))])) _
    refine XS.goto X68.here hx rfl (pc0 := 266) (pc' := 270) rfl (hb hby at_266) (by decide) (by decide) ?_
    show Steps p.tables e below (T68.setTop (mkF m 270 #[.val (.int p1), .val (.int p2), .val (.int p3), .val (.int p4), .val (.int (p1 &&& (3 : Int32))), .val (.int (6 : Int32)), .val (.ref b1), .val (.int (1 : Int32))] [(.int (1 : Int32))])) _
    exact retN X68 hx (t := .boolean) Bd.returns (by simp) (hb hby at_270) hr
  · show Q_law Z p1 p2 p3 p4 h0 n0 _ T68.heap _
    rw [e68]
    exact ⟨rfl, N69⟩
def Road_n7 (p1 : Int32) (p2 : Int32) (p3 : Int32) (p4 : Int32) : Prop := ((p2 &&& (7 : Int32)) = (7 : Int32)) ∧ (¬ ((p1 &&& (3 : Int32)) < (0 : Int32))) ∧ ((p1 &&& (3 : Int32)).toNatClampNeg ≤ 3) ∧ (own_B (0 : Int32) (p1 &&& (3 : Int32)) (List.replicate 16 (Value.int (0 : Int32))))
set_option maxRecDepth 65536 in
set_option maxHeartbeats 40000000 in
theorem rm_law_n7 (l : Launch) (Z : State) (a0 : Array Value) (hw : ∀ d ∈ tables_1, d.before a0 Z = true) (ws : List Jvm.Cond) (p1 : Int32) (p2 : Int32) (p3 : Int32) (p4 : Int32) (h0 : Heap) (n0 : Nat) (Z0 : n0 ≤ h0.size) (hroad : Road_n7 p1 p2 p3 p4) :
    MetFree l x (head1 (Jvm.Cond.code x code maxLocals ret :: ws) room_1) (fun a U => a = #[(.int p1), (.int p2), (.int p3), (.int p4)] ∧ Z.Warmed39 U.vm ∧ U.heap = h0) (fun _ _ _ _ _ => True) (fun _ U o U' => ∃ v L, o = .returned v ∧ Q_law Z p1 p2 p3 p4 h0 n0 v U'.heap L ∧ FrameEnd U o U' L room_1.cells room_1.slots) := by
  obtain ⟨hw_0, hp1, hp2, hp3⟩ := hroad
  refine MetFree.of_bodySF (plainFor_of_name pn_com_example_wellform_wellform_cli_ByteBatchAppendPinLaw) hisR ?_
  intro p e s m args below meth c s₁ Bd hml0 hP hK
  obtain ⟨rfl, hZ, hh⟩ := hP
  have hx := Bd.exec
  have hby := Bd.bytes
  have hml : c.maxLocals = 8 := hml0
  have hown : s.vm.findClass "com/example/wellform/wellform/cli/ByteBatchAppendPinLaw" = some m.cls := findClass_of_methodNamed Bd.named
  have hnm := (name_of_methodNamed Bd.named Bd.method).1
  have X0 : Stand p l e room_1 s m #[(.int p1), (.int p2), (.int p3), (.int p4)] below meth c s₁ [] 0 0 := Stand.of_body Bd
  have e0 : s₁.heap = h0 := by rw [← hh, Bd.state]; rfl
  have N0 := Fr.nil n0
  have pre0 : ∀ t, Steps p.tables e below (s₁.setTop (mkF m 0 #[.val (.int p1), .val (.int p2), .val (.int p3), .val (.int p4), .unset, .unset, .unset, .unset] [])) t → Steps p.tables e below (s₁.setTop (entryFrame m #[(.int p1), (.int p2), (.int p3), (.int p4)] maxLocals)) t := fun t k => castTop (ef_0_IIII m p1 p2 p3 p4) k
  obtain ⟨T1, h1, X1, e1, E1, A1, D1, -, st1⟩ := newO X0 hx hZ hown (hw _ (List.mem_of_getElem? (i := 0) rfl)) (hw _ (List.mem_of_getElem? (i := 1) rfl)) (hw _ (List.mem_of_getElem? (i := 2) rfl)) e0 (g := (mkF m 11 #[.val (.int p1), .val (.int p2), .val (.int p3), .val (.int p4), .val (.int (p1 &&& (3 : Int32))), .val (.int (7 : Int32)), .unset, .unset] [])) rfl (hb hby at_11) (by decide) (by decide)
  obtain ⟨b1, g1⟩ : ∃ z, z = h0.size := ⟨_, rfl⟩
  rw [← g1] at A1 D1 st1
  have g_b1 : n0 ≤ b1 := Nat.le_trans Z0 (Nat.le_of_eq g1.symm)
  have Zs2 : n0 ≤ h1.size := Nat.le_trans Z0 E1.1
  have f3 : Fld Z h1 b1 "com/example/wellform/wellform/cli/ByteBatch" "bytes" "[B" .null := D1 (Or.inl (hw _ (List.mem_of_getElem? (i := 11) rfl))) (ty := (.array .byte)) (by decide)
  have f4 : Fld Z h1 b1 "com/example/wellform/wellform/cli/ByteBatch" "size" "I" (.int (0 : Int32)) := D1 (Or.inl (hw _ (List.mem_of_getElem? (i := 22) rfl))) (ty := .int) (by decide)
  obtain ⟨_, _, ⟨T5, L5, k5, n5⟩, -, X5, ⟨Lc5, hQ5, l5, y5, z5⟩, st5⟩ := X1.specialBack hx (y := (⟨"com/example/wellform/wellform/cli/ByteBatch", "<init>", "(I)V"⟩ : MethodName)) rfl hown (mvT hZ (hw _ (List.mem_of_getElem? (i := 3) rfl))) (mvT hZ (hw _ (List.mem_of_getElem? (i := 4) rfl))) (mvT hZ (hw _ (List.mem_of_getElem? (i := 5) rfl))) (by decide) (backOf (W := 1) (rm_init l Z a0 hw [] b1 (p1 &&& (3 : Int32)) h1 n0 Zs2 A1 f3 g_b1 f4 hp1 hp2) hZ (hw _ (List.mem_of_getElem? (i := 5) rfl)) (hw _ (List.mem_of_getElem? (i := 2) rfl)) (by decide) (by decide)) (g := (mkF m 17 #[.val (.int p1), .val (.int p2), .val (.int p3), .val (.int p4), .val (.int (p1 &&& (3 : Int32))), .val (.int (7 : Int32)), .unset, .unset] [(.int (p1 &&& (3 : Int32))), (.ref b1), (.ref b1)])) rfl (by rw [hml]; rfl) (Steps.refl _) (a := b1) (argsL := [(.int (p1 &&& (3 : Int32)))]) (rest := [(.ref b1)]) (lenOf pd_2 rfl) rfl (by show 2 * 0 + _ ≤ _; exact Nat.le_of_eq rfl) (hb hby at_17) (fun _ _ => ⟨rfl, e1, (by decide : 1 + 1 ≤ _), (by decide : 2 + 3 ≤ _)⟩)
  dsimp only [Pt.U, Pt.locs, Pt.cells, Pt.slots] at X5 l5 y5 z5 st5 hQ5
  subst l5 y5 z5
  obtain ⟨b5_1, k5_2, rfl, Nq5, g_b5_1, szq_b5_1, Kc5, fq5_0, fq5_1, fq5_2, fq5_3, fq5_4⟩ := hQ5
  have ne_b1_b5_1 : b1 ≠ b5_1 := Nat.ne_of_lt (Nat.lt_of_lt_of_le A1.lt szq_b5_1)
  have f7 : Fld Z T5.heap b1 "com/example/wellform/wellform/cli/ByteBatch" "bytes" "[B" (.ref b5_1) := fq5_1
  have f8 : Fld Z T5.heap b1 "com/example/wellform/wellform/cli/ByteBatch" "size" "I" (.int (0 : Int32)) := fq5_2
  have f9 : Arv Z T5.heap b5_1 k5_2 .byte (p1 &&& (3 : Int32)) (List.replicate 16 (Value.int (0 : Int32))) (.int (0 : Int32)) := fq5_4
  have Zs10 : n0 ≤ T5.heap.size := Nat.le_trans Zs2 Kc5.1
  have N6 := Fr.app N0 Nq5
  obtain ⟨cq11, kq11, q11a, q11b, q11c⟩ := isOf hZ rfl fq5_0
  obtain ⟨_, _, ⟨T11, L11, k11, n11⟩, -, X11, ⟨Lc11, hQ11, l11, y11, z11⟩, st11⟩ := X5.virtualBack hx (y := (⟨"com/example/wellform/wellform/cli/ByteBatch", "append", "(B)Lcom/example/wellform/wellform/cli/ByteBatch;"⟩ : MethodName)) (z := (⟨"com/example/wellform/wellform/cli/ByteBatch", "append", "(B)Lcom/example/wellform/wellform/cli/ByteBatch;"⟩ : MethodName)) hown (mvT hZ (hw _ (List.mem_of_getElem? (i := 12) rfl))) (mvT hZ (hw _ (List.mem_of_getElem? (i := 13) rfl))) (notFace_of_selects (args := #[]) (mvT hZ (hw _ (List.mem_of_getElem? (i := 15) rfl)))) (mvT hZ (hw _ (List.mem_of_getElem? (i := 15) rfl))) (mvT hZ (hw _ (List.mem_of_getElem? (i := 14) rfl))) (by decide) (backOf (W := 0) (rm_append l Z a0 hw [] b1 (p3.toInt8.toInt32) b5_1 k5_2 (p1 &&& (3 : Int32)) (List.replicate 16 (Value.int (0 : Int32))) (0 : Int32) T5.heap n0 Zs10 f7 fq5_3 f9 f8 fq5_0 g_b1 g_b5_1 hp3 (by decide)) hZ (hw _ (List.mem_of_getElem? (i := 16) rfl)) (hw _ (List.mem_of_getElem? (i := 2) rfl)) (by decide) (by decide)) q11a q11c (g := (mkF m 39 #[.val (.int p1), .val (.int p2), .val (.int p3), .val (.int p4), .val (.int (p1 &&& (3 : Int32))), .val (.int (7 : Int32)), .val (.ref b1), .val (.int (1 : Int32))] [(.int (p3.toInt8.toInt32)), (.ref b1)])) rfl (by rw [hml]; rfl) (Steps.refl _) (argsL := [(.int (p3.toInt8.toInt32))]) (rest := []) (lenOf pd_4 rfl) rfl (by show 2 * 0 + _ ≤ _; exact Nat.le_of_eq rfl) (hb hby at_39) (fun _ _ => ⟨rfl, rfl, (by decide : 2 + 1 ≤ _), (by decide : 5 + 14 ≤ _)⟩)
  dsimp only [Pt.U, Pt.locs, Pt.cells, Pt.slots] at X11 l11 y11 z11 st11 hQ11
  subst l11 y11 z11
  obtain ⟨b11_1, k11_2, i11_3, us11_4, rfl, Nq11, g_b11_1, hq11_0, Kc11, fq11_0, fq11_1, fq11_2, fq11_3, fq11_4⟩ := hQ11
  have f13 : Exa Z T11.heap b5_1 "[B" := fq5_3.keep Kc11
  have f14 : Fld Z T11.heap b1 "com/example/wellform/wellform/cli/ByteBatch" "bytes" "[B" (.ref b11_1) := fq11_1
  have f15 : Fld Z T11.heap b1 "com/example/wellform/wellform/cli/ByteBatch" "size" "I" (.int (1 : Int32)) := fq11_2
  have f16 : Arv Z T11.heap b11_1 k11_2 .byte i11_3 us11_4 (.int (0 : Int32)) := fq11_4
  have Zs17 : n0 ≤ T11.heap.size := Nat.le_trans Zs10 Kc11.1
  have N12 := Fr.app N6 Nq11
  obtain ⟨cq18, kq18, q18a, q18b, q18c⟩ := isOf hZ rfl fq11_0
  obtain ⟨_, _, ⟨T18, L18, k18, n18⟩, -, X18, ⟨Lc18, hQ18, l18, y18, z18⟩, st18⟩ := X11.virtualBack hx (y := (⟨"com/example/wellform/wellform/cli/ByteBatch", "append", "(B)Lcom/example/wellform/wellform/cli/ByteBatch;"⟩ : MethodName)) (z := (⟨"com/example/wellform/wellform/cli/ByteBatch", "append", "(B)Lcom/example/wellform/wellform/cli/ByteBatch;"⟩ : MethodName)) hown (mvT hZ (hw _ (List.mem_of_getElem? (i := 12) rfl))) (mvT hZ (hw _ (List.mem_of_getElem? (i := 13) rfl))) (notFace_of_selects (args := #[]) (mvT hZ (hw _ (List.mem_of_getElem? (i := 15) rfl)))) (mvT hZ (hw _ (List.mem_of_getElem? (i := 15) rfl))) (mvT hZ (hw _ (List.mem_of_getElem? (i := 14) rfl))) (by decide) (backOf (W := 0) (rm_append l Z a0 hw [] b1 (((p3.toUInt32 >>> ((8 : Int32) &&& 31).toUInt32).toInt32).toInt8.toInt32) b11_1 k11_2 i11_3 us11_4 (1 : Int32) T11.heap n0 Zs17 f14 fq11_3 f16 f15 fq11_0 g_b1 g_b11_1 hq11_0 (by decide)) hZ (hw _ (List.mem_of_getElem? (i := 16) rfl)) (hw _ (List.mem_of_getElem? (i := 2) rfl)) (by decide) (by decide)) q18a q18c (g := (mkF m 72 #[.val (.int p1), .val (.int p2), .val (.int p3), .val (.int p4), .val (.int (p1 &&& (3 : Int32))), .val (.int (7 : Int32)), .val (.ref b1), .val (.int (1 : Int32))] [(.int (((p3.toUInt32 >>> ((8 : Int32) &&& 31).toUInt32).toInt32).toInt8.toInt32)), (.ref b1)])) rfl (by rw [hml]; rfl) (Steps.refl _) (argsL := [(.int (((p3.toUInt32 >>> ((8 : Int32) &&& 31).toUInt32).toInt32).toInt8.toInt32))]) (rest := []) (lenOf pd_4 rfl) rfl (by show 2 * 0 + _ ≤ _; exact Nat.le_of_eq rfl) (hb hby at_72) (fun _ _ => ⟨rfl, rfl, (by decide : 3 + 1 ≤ _), (by decide : 19 + 14 ≤ _)⟩)
  dsimp only [Pt.U, Pt.locs, Pt.cells, Pt.slots] at X18 l18 y18 z18 st18 hQ18
  subst l18 y18 z18
  obtain ⟨b18_1, k18_2, i18_3, us18_4, rfl, Nq18, g_b18_1, hq18_0, Kc18, fq18_0, fq18_1, fq18_2, fq18_3, fq18_4⟩ := hQ18
  have ne_b1_b11_1 : b1 ≠ b11_1 := ne_exa fq11_0 fq11_3 (by decide)
  have f20 : Exa Z T18.heap b5_1 "[B" := f13.keep Kc18
  have f21 : Exa Z T18.heap b11_1 "[B" := fq11_3.keep Kc18
  have f22 : Fld Z T18.heap b1 "com/example/wellform/wellform/cli/ByteBatch" "bytes" "[B" (.ref b18_1) := fq18_1
  have f23 : Fld Z T18.heap b1 "com/example/wellform/wellform/cli/ByteBatch" "size" "I" (.int (2 : Int32)) := fq18_2
  have f24 : Arv Z T18.heap b18_1 k18_2 .byte i18_3 us18_4 (.int (0 : Int32)) := fq18_4
  have Zs25 : n0 ≤ T18.heap.size := Nat.le_trans Zs17 Kc18.1
  have N19 := Fr.app N12 Nq18
  obtain ⟨cq26, kq26, q26a, q26b, q26c⟩ := isOf hZ rfl fq18_0
  obtain ⟨_, _, ⟨T26, L26, k26, n26⟩, -, X26, ⟨Lc26, hQ26, l26, y26, z26⟩, st26⟩ := X18.virtualBack hx (y := (⟨"com/example/wellform/wellform/cli/ByteBatch", "append", "(B)Lcom/example/wellform/wellform/cli/ByteBatch;"⟩ : MethodName)) (z := (⟨"com/example/wellform/wellform/cli/ByteBatch", "append", "(B)Lcom/example/wellform/wellform/cli/ByteBatch;"⟩ : MethodName)) hown (mvT hZ (hw _ (List.mem_of_getElem? (i := 12) rfl))) (mvT hZ (hw _ (List.mem_of_getElem? (i := 13) rfl))) (notFace_of_selects (args := #[]) (mvT hZ (hw _ (List.mem_of_getElem? (i := 15) rfl)))) (mvT hZ (hw _ (List.mem_of_getElem? (i := 15) rfl))) (mvT hZ (hw _ (List.mem_of_getElem? (i := 14) rfl))) (by decide) (backOf (W := 0) (rm_append l Z a0 hw [] b1 (((p3.toUInt32 >>> ((16 : Int32) &&& 31).toUInt32).toInt32).toInt8.toInt32) b18_1 k18_2 i18_3 us18_4 (2 : Int32) T18.heap n0 Zs25 f22 fq18_3 f24 f23 fq18_0 g_b1 g_b18_1 hq18_0 (by decide)) hZ (hw _ (List.mem_of_getElem? (i := 16) rfl)) (hw _ (List.mem_of_getElem? (i := 2) rfl)) (by decide) (by decide)) q26a q26c (g := (mkF m 105 #[.val (.int p1), .val (.int p2), .val (.int p3), .val (.int p4), .val (.int (p1 &&& (3 : Int32))), .val (.int (7 : Int32)), .val (.ref b1), .val (.int (1 : Int32))] [(.int (((p3.toUInt32 >>> ((16 : Int32) &&& 31).toUInt32).toInt32).toInt8.toInt32)), (.ref b1)])) rfl (by rw [hml]; rfl) (Steps.refl _) (argsL := [(.int (((p3.toUInt32 >>> ((16 : Int32) &&& 31).toUInt32).toInt32).toInt8.toInt32))]) (rest := []) (lenOf pd_4 rfl) rfl (by show 2 * 0 + _ ≤ _; exact Nat.le_of_eq rfl) (hb hby at_105) (fun _ _ => ⟨rfl, rfl, (by decide : 4 + 1 ≤ _), (by decide : 33 + 14 ≤ _)⟩)
  dsimp only [Pt.U, Pt.locs, Pt.cells, Pt.slots] at X26 l26 y26 z26 st26 hQ26
  subst l26 y26 z26
  obtain ⟨b26_1, k26_2, i26_3, us26_4, rfl, Nq26, g_b26_1, hq26_0, Kc26, fq26_0, fq26_1, fq26_2, fq26_3, fq26_4⟩ := hQ26
  have ne_b1_b18_1 : b1 ≠ b18_1 := ne_exa fq18_0 fq18_3 (by decide)
  have f28 : Exa Z T26.heap b5_1 "[B" := f20.keep Kc26
  have f29 : Exa Z T26.heap b11_1 "[B" := f21.keep Kc26
  have f30 : Exa Z T26.heap b18_1 "[B" := fq18_3.keep Kc26
  have f31 : Fld Z T26.heap b1 "com/example/wellform/wellform/cli/ByteBatch" "bytes" "[B" (.ref b26_1) := fq26_1
  have f32 : Fld Z T26.heap b1 "com/example/wellform/wellform/cli/ByteBatch" "size" "I" (.int (3 : Int32)) := fq26_2
  have f33 : Arv Z T26.heap b26_1 k26_2 .byte i26_3 us26_4 (.int (0 : Int32)) := fq26_4
  have Zs34 : n0 ≤ T26.heap.size := Nat.le_trans Zs25 Kc26.1
  have N27 := Fr.app N19 Nq26
  obtain ⟨cq35, kq35, q35a, q35b, q35c⟩ := isOf hZ rfl fq26_0
  obtain ⟨_, _, ⟨T35, L35, k35, n35⟩, -, X35, ⟨Lc35, hQ35, l35, y35, z35⟩, st35⟩ := X26.virtualBack hx (y := (⟨"com/example/wellform/wellform/cli/ByteBatch", "append", "(B)Lcom/example/wellform/wellform/cli/ByteBatch;"⟩ : MethodName)) (z := (⟨"com/example/wellform/wellform/cli/ByteBatch", "append", "(B)Lcom/example/wellform/wellform/cli/ByteBatch;"⟩ : MethodName)) hown (mvT hZ (hw _ (List.mem_of_getElem? (i := 12) rfl))) (mvT hZ (hw _ (List.mem_of_getElem? (i := 13) rfl))) (notFace_of_selects (args := #[]) (mvT hZ (hw _ (List.mem_of_getElem? (i := 15) rfl)))) (mvT hZ (hw _ (List.mem_of_getElem? (i := 15) rfl))) (mvT hZ (hw _ (List.mem_of_getElem? (i := 14) rfl))) (by decide) (backOf (W := 0) (rm_append l Z a0 hw [] b1 (((p3.toUInt32 >>> ((24 : Int32) &&& 31).toUInt32).toInt32).toInt8.toInt32) b26_1 k26_2 i26_3 us26_4 (3 : Int32) T26.heap n0 Zs34 f31 fq26_3 f33 f32 fq26_0 g_b1 g_b26_1 hq26_0 (by decide)) hZ (hw _ (List.mem_of_getElem? (i := 16) rfl)) (hw _ (List.mem_of_getElem? (i := 2) rfl)) (by decide) (by decide)) q35a q35c (g := (mkF m 138 #[.val (.int p1), .val (.int p2), .val (.int p3), .val (.int p4), .val (.int (p1 &&& (3 : Int32))), .val (.int (7 : Int32)), .val (.ref b1), .val (.int (1 : Int32))] [(.int (((p3.toUInt32 >>> ((24 : Int32) &&& 31).toUInt32).toInt32).toInt8.toInt32)), (.ref b1)])) rfl (by rw [hml]; rfl) (Steps.refl _) (argsL := [(.int (((p3.toUInt32 >>> ((24 : Int32) &&& 31).toUInt32).toInt32).toInt8.toInt32))]) (rest := []) (lenOf pd_4 rfl) rfl (by show 2 * 0 + _ ≤ _; exact Nat.le_of_eq rfl) (hb hby at_138) (fun _ _ => ⟨rfl, rfl, (by decide : 5 + 1 ≤ _), (by decide : 47 + 14 ≤ _)⟩)
  dsimp only [Pt.U, Pt.locs, Pt.cells, Pt.slots] at X35 l35 y35 z35 st35 hQ35
  subst l35 y35 z35
  obtain ⟨b35_1, k35_2, i35_3, us35_4, rfl, Nq35, g_b35_1, hq35_0, Kc35, fq35_0, fq35_1, fq35_2, fq35_3, fq35_4⟩ := hQ35
  have ne_b1_b26_1 : b1 ≠ b26_1 := ne_exa fq26_0 fq26_3 (by decide)
  have f37 : Exa Z T35.heap b5_1 "[B" := f28.keep Kc35
  have f38 : Exa Z T35.heap b11_1 "[B" := f29.keep Kc35
  have f39 : Exa Z T35.heap b18_1 "[B" := f30.keep Kc35
  have f40 : Exa Z T35.heap b26_1 "[B" := fq26_3.keep Kc35
  have f41 : Fld Z T35.heap b1 "com/example/wellform/wellform/cli/ByteBatch" "bytes" "[B" (.ref b35_1) := fq35_1
  have f42 : Fld Z T35.heap b1 "com/example/wellform/wellform/cli/ByteBatch" "size" "I" (.int (4 : Int32)) := fq35_2
  have f43 : Arv Z T35.heap b35_1 k35_2 .byte i35_3 us35_4 (.int (0 : Int32)) := fq35_4
  have Zs44 : n0 ≤ T35.heap.size := Nat.le_trans Zs34 Kc35.1
  have N36 := Fr.app N27 Nq35
  obtain ⟨cq45, kq45, q45a, q45b, q45c⟩ := isOf hZ rfl fq35_0
  obtain ⟨_, _, ⟨T45, L45, k45, n45⟩, -, X45, ⟨Lc45, hQ45, l45, y45, z45⟩, st45⟩ := X35.virtualBack hx (y := (⟨"com/example/wellform/wellform/cli/ByteBatch", "append", "(B)Lcom/example/wellform/wellform/cli/ByteBatch;"⟩ : MethodName)) (z := (⟨"com/example/wellform/wellform/cli/ByteBatch", "append", "(B)Lcom/example/wellform/wellform/cli/ByteBatch;"⟩ : MethodName)) hown (mvT hZ (hw _ (List.mem_of_getElem? (i := 12) rfl))) (mvT hZ (hw _ (List.mem_of_getElem? (i := 13) rfl))) (notFace_of_selects (args := #[]) (mvT hZ (hw _ (List.mem_of_getElem? (i := 15) rfl)))) (mvT hZ (hw _ (List.mem_of_getElem? (i := 15) rfl))) (mvT hZ (hw _ (List.mem_of_getElem? (i := 14) rfl))) (by decide) (backOf (W := 0) (rm_append l Z a0 hw [] b1 (p4.toInt8.toInt32) b35_1 k35_2 i35_3 us35_4 (4 : Int32) T35.heap n0 Zs44 f41 fq35_3 f43 f42 fq35_0 g_b1 g_b35_1 hq35_0 (by decide)) hZ (hw _ (List.mem_of_getElem? (i := 16) rfl)) (hw _ (List.mem_of_getElem? (i := 2) rfl)) (by decide) (by decide)) q45a q45c (g := (mkF m 168 #[.val (.int p1), .val (.int p2), .val (.int p3), .val (.int p4), .val (.int (p1 &&& (3 : Int32))), .val (.int (7 : Int32)), .val (.ref b1), .val (.int (1 : Int32))] [(.int (p4.toInt8.toInt32)), (.ref b1)])) rfl (by rw [hml]; rfl) (Steps.refl _) (argsL := [(.int (p4.toInt8.toInt32))]) (rest := []) (lenOf pd_4 rfl) rfl (by show 2 * 0 + _ ≤ _; exact Nat.le_of_eq rfl) (hb hby at_168) (fun _ _ => ⟨rfl, rfl, (by decide : 6 + 1 ≤ _), (by decide : 61 + 14 ≤ _)⟩)
  dsimp only [Pt.U, Pt.locs, Pt.cells, Pt.slots] at X45 l45 y45 z45 st45 hQ45
  subst l45 y45 z45
  obtain ⟨b45_1, k45_2, i45_3, us45_4, rfl, Nq45, g_b45_1, hq45_0, Kc45, fq45_0, fq45_1, fq45_2, fq45_3, fq45_4⟩ := hQ45
  have ne_b1_b35_1 : b1 ≠ b35_1 := ne_exa fq35_0 fq35_3 (by decide)
  have f47 : Exa Z T45.heap b5_1 "[B" := f37.keep Kc45
  have f48 : Exa Z T45.heap b11_1 "[B" := f38.keep Kc45
  have f49 : Exa Z T45.heap b18_1 "[B" := f39.keep Kc45
  have f50 : Exa Z T45.heap b26_1 "[B" := f40.keep Kc45
  have f51 : Exa Z T45.heap b35_1 "[B" := fq35_3.keep Kc45
  have f52 : Fld Z T45.heap b1 "com/example/wellform/wellform/cli/ByteBatch" "bytes" "[B" (.ref b45_1) := fq45_1
  have f53 : Fld Z T45.heap b1 "com/example/wellform/wellform/cli/ByteBatch" "size" "I" (.int (5 : Int32)) := fq45_2
  have f54 : Arv Z T45.heap b45_1 k45_2 .byte i45_3 us45_4 (.int (0 : Int32)) := fq45_4
  have Zs55 : n0 ≤ T45.heap.size := Nat.le_trans Zs44 Kc45.1
  have N46 := Fr.app N36 Nq45
  obtain ⟨cq56, kq56, q56a, q56b, q56c⟩ := isOf hZ rfl fq45_0
  obtain ⟨_, _, ⟨T56, L56, k56, n56⟩, -, X56, ⟨Lc56, hQ56, l56, y56, z56⟩, st56⟩ := X45.virtualBack hx (y := (⟨"com/example/wellform/wellform/cli/ByteBatch", "append", "(B)Lcom/example/wellform/wellform/cli/ByteBatch;"⟩ : MethodName)) (z := (⟨"com/example/wellform/wellform/cli/ByteBatch", "append", "(B)Lcom/example/wellform/wellform/cli/ByteBatch;"⟩ : MethodName)) hown (mvT hZ (hw _ (List.mem_of_getElem? (i := 12) rfl))) (mvT hZ (hw _ (List.mem_of_getElem? (i := 13) rfl))) (notFace_of_selects (args := #[]) (mvT hZ (hw _ (List.mem_of_getElem? (i := 15) rfl)))) (mvT hZ (hw _ (List.mem_of_getElem? (i := 15) rfl))) (mvT hZ (hw _ (List.mem_of_getElem? (i := 14) rfl))) (by decide) (backOf (W := 0) (rm_append l Z a0 hw [] b1 (((p4.toUInt32 >>> ((8 : Int32) &&& 31).toUInt32).toInt32).toInt8.toInt32) b45_1 k45_2 i45_3 us45_4 (5 : Int32) T45.heap n0 Zs55 f52 fq45_3 f54 f53 fq45_0 g_b1 g_b45_1 hq45_0 (by decide)) hZ (hw _ (List.mem_of_getElem? (i := 16) rfl)) (hw _ (List.mem_of_getElem? (i := 2) rfl)) (by decide) (by decide)) q56a q56c (g := (mkF m 201 #[.val (.int p1), .val (.int p2), .val (.int p3), .val (.int p4), .val (.int (p1 &&& (3 : Int32))), .val (.int (7 : Int32)), .val (.ref b1), .val (.int (1 : Int32))] [(.int (((p4.toUInt32 >>> ((8 : Int32) &&& 31).toUInt32).toInt32).toInt8.toInt32)), (.ref b1)])) rfl (by rw [hml]; rfl) (Steps.refl _) (argsL := [(.int (((p4.toUInt32 >>> ((8 : Int32) &&& 31).toUInt32).toInt32).toInt8.toInt32))]) (rest := []) (lenOf pd_4 rfl) rfl (by show 2 * 0 + _ ≤ _; exact Nat.le_of_eq rfl) (hb hby at_201) (fun _ _ => ⟨rfl, rfl, (by decide : 7 + 1 ≤ _), (by decide : 75 + 14 ≤ _)⟩)
  dsimp only [Pt.U, Pt.locs, Pt.cells, Pt.slots] at X56 l56 y56 z56 st56 hQ56
  subst l56 y56 z56
  obtain ⟨b56_1, k56_2, i56_3, us56_4, rfl, Nq56, g_b56_1, hq56_0, Kc56, fq56_0, fq56_1, fq56_2, fq56_3, fq56_4⟩ := hQ56
  have ne_b1_b45_1 : b1 ≠ b45_1 := ne_exa fq45_0 fq45_3 (by decide)
  have f58 : Exa Z T56.heap b5_1 "[B" := f47.keep Kc56
  have f59 : Exa Z T56.heap b11_1 "[B" := f48.keep Kc56
  have f60 : Exa Z T56.heap b18_1 "[B" := f49.keep Kc56
  have f61 : Exa Z T56.heap b26_1 "[B" := f50.keep Kc56
  have f62 : Exa Z T56.heap b35_1 "[B" := f51.keep Kc56
  have f63 : Exa Z T56.heap b45_1 "[B" := fq45_3.keep Kc56
  have f64 : Fld Z T56.heap b1 "com/example/wellform/wellform/cli/ByteBatch" "bytes" "[B" (.ref b56_1) := fq56_1
  have f65 : Fld Z T56.heap b1 "com/example/wellform/wellform/cli/ByteBatch" "size" "I" (.int (6 : Int32)) := fq56_2
  have f66 : Arv Z T56.heap b56_1 k56_2 .byte i56_3 us56_4 (.int (0 : Int32)) := fq56_4
  have Zs67 : n0 ≤ T56.heap.size := Nat.le_trans Zs55 Kc56.1
  have N57 := Fr.app N46 Nq56
  obtain ⟨cq68, kq68, q68a, q68b, q68c⟩ := isOf hZ rfl fq56_0
  obtain ⟨_, _, ⟨T68, L68, k68, n68⟩, -, X68, ⟨Lc68, hQ68, l68, y68, z68⟩, st68⟩ := X56.virtualBack hx (y := (⟨"com/example/wellform/wellform/cli/ByteBatch", "append", "(B)Lcom/example/wellform/wellform/cli/ByteBatch;"⟩ : MethodName)) (z := (⟨"com/example/wellform/wellform/cli/ByteBatch", "append", "(B)Lcom/example/wellform/wellform/cli/ByteBatch;"⟩ : MethodName)) hown (mvT hZ (hw _ (List.mem_of_getElem? (i := 12) rfl))) (mvT hZ (hw _ (List.mem_of_getElem? (i := 13) rfl))) (notFace_of_selects (args := #[]) (mvT hZ (hw _ (List.mem_of_getElem? (i := 15) rfl)))) (mvT hZ (hw _ (List.mem_of_getElem? (i := 15) rfl))) (mvT hZ (hw _ (List.mem_of_getElem? (i := 14) rfl))) (by decide) (backOf (W := 0) (rm_append l Z a0 hw [] b1 (((p4.toUInt32 >>> ((16 : Int32) &&& 31).toUInt32).toInt32).toInt8.toInt32) b56_1 k56_2 i56_3 us56_4 (6 : Int32) T56.heap n0 Zs67 f64 fq56_3 f66 f65 fq56_0 g_b1 g_b56_1 hq56_0 (by decide)) hZ (hw _ (List.mem_of_getElem? (i := 16) rfl)) (hw _ (List.mem_of_getElem? (i := 2) rfl)) (by decide) (by decide)) q68a q68c (g := (mkF m 235 #[.val (.int p1), .val (.int p2), .val (.int p3), .val (.int p4), .val (.int (p1 &&& (3 : Int32))), .val (.int (7 : Int32)), .val (.ref b1), .val (.int (1 : Int32))] [(.int (((p4.toUInt32 >>> ((16 : Int32) &&& 31).toUInt32).toInt32).toInt8.toInt32)), (.ref b1)])) rfl (by rw [hml]; rfl) (Steps.refl _) (argsL := [(.int (((p4.toUInt32 >>> ((16 : Int32) &&& 31).toUInt32).toInt32).toInt8.toInt32))]) (rest := []) (lenOf pd_4 rfl) rfl (by show 2 * 0 + _ ≤ _; exact Nat.le_of_eq rfl) (hb hby at_235) (fun _ _ => ⟨rfl, rfl, (by decide : 8 + 1 ≤ _), (by decide : 89 + 14 ≤ _)⟩)
  dsimp only [Pt.U, Pt.locs, Pt.cells, Pt.slots] at X68 l68 y68 z68 st68 hQ68
  subst l68 y68 z68
  obtain ⟨b68_1, k68_2, i68_3, us68_4, rfl, Nq68, g_b68_1, hq68_0, Kc68, fq68_0, fq68_1, fq68_2, fq68_3, fq68_4⟩ := hQ68
  have ne_b1_b56_1 : b1 ≠ b56_1 := ne_exa fq56_0 fq56_3 (by decide)
  have f70 : Exa Z T68.heap b5_1 "[B" := f58.keep Kc68
  have f71 : Exa Z T68.heap b11_1 "[B" := f59.keep Kc68
  have f72 : Exa Z T68.heap b18_1 "[B" := f60.keep Kc68
  have f73 : Exa Z T68.heap b26_1 "[B" := f61.keep Kc68
  have f74 : Exa Z T68.heap b35_1 "[B" := f62.keep Kc68
  have f75 : Exa Z T68.heap b45_1 "[B" := f63.keep Kc68
  have f76 : Exa Z T68.heap b56_1 "[B" := fq56_3.keep Kc68
  have f77 : Fld Z T68.heap b1 "com/example/wellform/wellform/cli/ByteBatch" "bytes" "[B" (.ref b68_1) := fq68_1
  have f78 : Fld Z T68.heap b1 "com/example/wellform/wellform/cli/ByteBatch" "size" "I" (.int (7 : Int32)) := fq68_2
  have f79 : Arv Z T68.heap b68_1 k68_2 .byte i68_3 us68_4 (.int (0 : Int32)) := fq68_4
  have Zs80 : n0 ≤ T68.heap.size := Nat.le_trans Zs67 Kc68.1
  have N69 := Fr.app N57 Nq68
  obtain ⟨cq81, kq81, q81a, q81b, q81c⟩ := isOf hZ rfl fq68_0
  obtain ⟨_, _, ⟨T81, L81, k81, n81⟩, -, X81, ⟨Lc81, hQ81, l81, y81, z81⟩, st81⟩ := X68.virtualBack hx (y := (⟨"com/example/wellform/wellform/cli/ByteBatch", "size", "()I"⟩ : MethodName)) (z := (⟨"com/example/wellform/wellform/cli/ByteBatch", "size", "()I"⟩ : MethodName)) hown (mvT hZ (hw _ (List.mem_of_getElem? (i := 38) rfl))) (mvT hZ (hw _ (List.mem_of_getElem? (i := 39) rfl))) (notFace_of_selects (args := #[]) (mvT hZ (hw _ (List.mem_of_getElem? (i := 41) rfl)))) (mvT hZ (hw _ (List.mem_of_getElem? (i := 41) rfl))) (mvT hZ (hw _ (List.mem_of_getElem? (i := 40) rfl))) (by decide) (backOf (W := 0) (rm_size l Z a0 hw [] b1 (7 : Int32) T68.heap n0 Zs80 f78) hZ (hw _ (List.mem_of_getElem? (i := 42) rfl)) (hw _ (List.mem_of_getElem? (i := 2) rfl)) (by decide) (by decide)) q81a q81c (g := (mkF m 257 #[.val (.int p1), .val (.int p2), .val (.int p3), .val (.int p4), .val (.int (p1 &&& (3 : Int32))), .val (.int (7 : Int32)), .val (.ref b1), .val (.int (1 : Int32))] [(.ref b1)])) rfl (by rw [hml]; rfl) (Steps.refl _) (argsL := []) (rest := []) (lenOf pd_3 rfl) rfl (by show 2 * 0 + _ ≤ _; exact Nat.le_of_eq rfl) (hb hby at_257) (fun _ _ => ⟨rfl, rfl, (by decide : 9 + 0 ≤ _), (by decide : 103 + 0 ≤ _)⟩)
  dsimp only [Pt.U, Pt.locs, Pt.cells, Pt.slots] at X81 l81 y81 z81 st81 hQ81
  subst l81 y81 z81
  obtain ⟨rfl, Nq81, e81⟩ := hQ81
  have N82 := Fr.app N69 Nq81
  obtain ⟨fs, hr, hrun, hended, hW, hsame⟩ := X81.leave (v := some (.int (1 : Int32))) (fun h => by rw [Bd.returns] at h; cases h) Bd.notSynchronized
  refine ⟨_, _, pre0 _ ?_, hrun, hended, _, _, rfl, ?_, ⟨_, rfl⟩, hW, hsame.mono (by decide) (by decide)⟩
  · show Steps p.tables e below (s₁.setTop (mkF m 0 #[.val (.int p1), .val (.int p2), .val (.int p3), .val (.int p4), .unset, .unset, .unset, .unset] [])) _
    refine XS.iloadN X0.here hx rfl (hb hby at_0) rfl ?_
    show Steps p.tables e below (s₁.setTop (mkF m 1 #[.val (.int p1), .val (.int p2), .val (.int p3), .val (.int p4), .unset, .unset, .unset, .unset] [(.int p1)])) _
    refine XS.iconst X0.here hx rfl (hb hby at_1) ?_
    show Steps p.tables e below (s₁.setTop (mkF m 2 #[.val (.int p1), .val (.int p2), .val (.int p3), .val (.int p4), .unset, .unset, .unset, .unset] [(.int (3 : Int32)), (.int p1)])) _
    refine XS.iand X0.here hx rfl (hb hby at_2) rfl ?_
    show Steps p.tables e below (s₁.setTop (mkF m 3 #[.val (.int p1), .val (.int p2), .val (.int p3), .val (.int p4), .unset, .unset, .unset, .unset] [(.int (p1 &&& (3 : Int32)))])) _
    refine XS.istore X0.here hx rfl (hb hby at_3) rfl (l' := #[.val (.int p1), .val (.int p2), .val (.int p3), .val (.int p4), .val (.int (p1 &&& (3 : Int32))), .unset, .unset, .unset]) rfl ?_
    show Steps p.tables e below (s₁.setTop (mkF m 5 #[.val (.int p1), .val (.int p2), .val (.int p3), .val (.int p4), .val (.int (p1 &&& (3 : Int32))), .unset, .unset, .unset] [])) _
    refine XS.iloadN X0.here hx rfl (hb hby at_5) rfl ?_
    show Steps p.tables e below (s₁.setTop (mkF m 6 #[.val (.int p1), .val (.int p2), .val (.int p3), .val (.int p4), .val (.int (p1 &&& (3 : Int32))), .unset, .unset, .unset] [(.int p2)])) _
    refine XS.bipush X0.here hx rfl (hb hby at_6) ?_
    show Steps p.tables e below (s₁.setTop (mkF m 8 #[.val (.int p1), .val (.int p2), .val (.int p3), .val (.int p4), .val (.int (p1 &&& (3 : Int32))), .unset, .unset, .unset] [(.int (7 : Int32)), (.int p2)])) _
    refine XS.iand X0.here hx rfl (hb hby at_8) rfl ?_
    show Steps p.tables e below (s₁.setTop (mkF m 9 #[.val (.int p1), .val (.int p2), .val (.int p3), .val (.int p4), .val (.int (p1 &&& (3 : Int32))), .unset, .unset, .unset] [(.int (p2 &&& (7 : Int32)))])) _
    refine XS.istore X0.here hx rfl (hb hby at_9) rfl (l' := #[.val (.int p1), .val (.int p2), .val (.int p3), .val (.int p4), .val (.int (p1 &&& (3 : Int32))), .val (.int (p2 &&& (7 : Int32))), .unset, .unset]) rfl ?_
    show Steps p.tables e below (s₁.setTop (mkF m 11 #[.val (.int p1), .val (.int p2), .val (.int p3), .val (.int p4), .val (.int (p1 &&& (3 : Int32))), .val (.int (p2 &&& (7 : Int32))), .unset, .unset] [])) _
    rw [hw_0]
    show Steps p.tables e below (s₁.setTop (mkF m 11 #[.val (.int p1), .val (.int p2), .val (.int p3), .val (.int p4), .val (.int (p1 &&& (3 : Int32))), .val (.int (7 : Int32)), .unset, .unset] [])) _
    refine st1 _ ?_
    show Steps p.tables e below (T1.setTop (mkF m 14 #[.val (.int p1), .val (.int p2), .val (.int p3), .val (.int p4), .val (.int (p1 &&& (3 : Int32))), .val (.int (7 : Int32)), .unset, .unset] [(.ref b1)])) _
    refine XS.dup X1.here hx rfl (hb hby at_14) rfl rfl ?_
    show Steps p.tables e below (T1.setTop (mkF m 15 #[.val (.int p1), .val (.int p2), .val (.int p3), .val (.int p4), .val (.int (p1 &&& (3 : Int32))), .val (.int (7 : Int32)), .unset, .unset] [(.ref b1), (.ref b1)])) _
    refine XS.iload X1.here hx rfl (hb hby at_15) rfl ?_
    show Steps p.tables e below (T1.setTop (mkF m 17 #[.val (.int p1), .val (.int p2), .val (.int p3), .val (.int p4), .val (.int (p1 &&& (3 : Int32))), .val (.int (7 : Int32)), .unset, .unset] [(.int (p1 &&& (3 : Int32))), (.ref b1), (.ref b1)])) _
    refine st5.trans ?_
    show Steps p.tables e below (T5.setTop (mkF m 20 #[.val (.int p1), .val (.int p2), .val (.int p3), .val (.int p4), .val (.int (p1 &&& (3 : Int32))), .val (.int (7 : Int32)), .unset, .unset] [(.ref b1)])) _
    refine XS.astore X5.here hx rfl (hb hby at_20) rfl rfl (l' := #[.val (.int p1), .val (.int p2), .val (.int p3), .val (.int p4), .val (.int (p1 &&& (3 : Int32))), .val (.int (7 : Int32)), .val (.ref b1), .unset]) rfl ?_
    show Steps p.tables e below (T5.setTop (mkF m 22 #[.val (.int p1), .val (.int p2), .val (.int p3), .val (.int p4), .val (.int (p1 &&& (3 : Int32))), .val (.int (7 : Int32)), .val (.ref b1), .unset] [])) _
    refine XS.iconst X5.here hx rfl (hb hby at_22) ?_
    show Steps p.tables e below (T5.setTop (mkF m 23 #[.val (.int p1), .val (.int p2), .val (.int p3), .val (.int p4), .val (.int (p1 &&& (3 : Int32))), .val (.int (7 : Int32)), .val (.ref b1), .unset] [(.int (1 : Int32))])) _
    refine XS.istore X5.here hx rfl (hb hby at_23) rfl (l' := #[.val (.int p1), .val (.int p2), .val (.int p3), .val (.int p4), .val (.int (p1 &&& (3 : Int32))), .val (.int (7 : Int32)), .val (.ref b1), .val (.int (1 : Int32))]) rfl ?_
    show Steps p.tables e below (T5.setTop (mkF m 25 #[.val (.int p1), .val (.int p2), .val (.int p3), .val (.int p4), .val (.int (p1 &&& (3 : Int32))), .val (.int (7 : Int32)), .val (.ref b1), .val (.int (1 : Int32))] [])) _
    refine XS.iload X5.here hx rfl (hb hby at_25) rfl ?_
    show Steps p.tables e below (T5.setTop (mkF m 27 #[.val (.int p1), .val (.int p2), .val (.int p3), .val (.int p4), .val (.int (p1 &&& (3 : Int32))), .val (.int (7 : Int32)), .val (.ref b1), .val (.int (1 : Int32))] [(.int (7 : Int32))])) _
    refine XS.ifNo X5.here hx rfl (hb hby at_27) rfl ((if0 _ _).trans (tlt (by decide : (0 : Int32) < (7 : Int32))).2.2.2) ?_
    show Steps p.tables e below (T5.setTop (mkF m 30 #[.val (.int p1), .val (.int p2), .val (.int p3), .val (.int p4), .val (.int (p1 &&& (3 : Int32))), .val (.int (7 : Int32)), .val (.ref b1), .val (.int (1 : Int32))] [])) _
    refine XS.iload X5.here hx rfl (hb hby at_30) rfl ?_
    show Steps p.tables e below (T5.setTop (mkF m 32 #[.val (.int p1), .val (.int p2), .val (.int p3), .val (.int p4), .val (.int (p1 &&& (3 : Int32))), .val (.int (7 : Int32)), .val (.ref b1), .val (.int (1 : Int32))] [(.int (1 : Int32))])) _
    refine XS.ifNo X5.here hx rfl (hb hby at_32) rfl ((if0 _ _).trans (feq (by decide : ¬ ((1 : Int32) = (0 : Int32)))).1) ?_
    show Steps p.tables e below (T5.setTop (mkF m 35 #[.val (.int p1), .val (.int p2), .val (.int p3), .val (.int p4), .val (.int (p1 &&& (3 : Int32))), .val (.int (7 : Int32)), .val (.ref b1), .val (.int (1 : Int32))] [])) _
    refine XS.aload X5.here hx rfl (hb hby at_35) rfl rfl ?_
    show Steps p.tables e below (T5.setTop (mkF m 37 #[.val (.int p1), .val (.int p2), .val (.int p3), .val (.int p4), .val (.int (p1 &&& (3 : Int32))), .val (.int (7 : Int32)), .val (.ref b1), .val (.int (1 : Int32))] [(.ref b1)])) _
    refine XS.iloadN X5.here hx rfl (hb hby at_37) rfl ?_
    show Steps p.tables e below (T5.setTop (mkF m 38 #[.val (.int p1), .val (.int p2), .val (.int p3), .val (.int p4), .val (.int (p1 &&& (3 : Int32))), .val (.int (7 : Int32)), .val (.ref b1), .val (.int (1 : Int32))] [(.int p3), (.ref b1)])) _
    refine XS.i2b X5.here hx rfl (hb hby at_38) rfl ?_
    show Steps p.tables e below (T5.setTop (mkF m 39 #[.val (.int p1), .val (.int p2), .val (.int p3), .val (.int p4), .val (.int (p1 &&& (3 : Int32))), .val (.int (7 : Int32)), .val (.ref b1), .val (.int (1 : Int32))] [(.int (p3.toInt8.toInt32)), (.ref b1)])) _
    refine st11.trans ?_
    show Steps p.tables e below (T11.setTop (mkF m 42 #[.val (.int p1), .val (.int p2), .val (.int p3), .val (.int p4), .val (.int (p1 &&& (3 : Int32))), .val (.int (7 : Int32)), .val (.ref b1), .val (.int (1 : Int32))] [(.ref b1)])) _
    refine XS.aload X11.here hx rfl (hb hby at_42) rfl rfl ?_
    show Steps p.tables e below (T11.setTop (mkF m 44 #[.val (.int p1), .val (.int p2), .val (.int p3), .val (.int p4), .val (.int (p1 &&& (3 : Int32))), .val (.int (7 : Int32)), .val (.ref b1), .val (.int (1 : Int32))] [(.ref b1), (.ref b1)])) _
    refine Jvm.RoadKit.acmp (g := (mkF m 44 #[.val (.int p1), .val (.int p2), .val (.int p3), .val (.int p4), .val (.int (p1 &&& (3 : Int32))), .val (.int (7 : Int32)), .val (.ref b1), .val (.int (1 : Int32))] [(.ref b1), (.ref b1)])) X11 hx rfl rfl rfl (pc0 := 44) (pc' := 47) (same := true) rfl (hb hby at_44) rfl (decide_eq_true rfl) (by decide) (by decide) ?_
    show Steps p.tables e below (T11.setTop (mkF m 47 #[.val (.int p1), .val (.int p2), .val (.int p3), .val (.int p4), .val (.int (p1 &&& (3 : Int32))), .val (.int (7 : Int32)), .val (.ref b1), .val (.int (1 : Int32))] [])) _
    refine XS.iconst X11.here hx rfl (hb hby at_47) ?_
    show Steps p.tables e below (T11.setTop (mkF m 48 #[.val (.int p1), .val (.int p2), .val (.int p3), .val (.int p4), .val (.int (p1 &&& (3 : Int32))), .val (.int (7 : Int32)), .val (.ref b1), .val (.int (1 : Int32))] [(.int (1 : Int32))])) _
    refine XS.goto X11.here hx rfl (pc0 := 48) (pc' := 52) rfl (hb hby at_48) (by decide) (by decide) ?_
    show Steps p.tables e below (T11.setTop (mkF m 52 #[.val (.int p1), .val (.int p2), .val (.int p3), .val (.int p4), .val (.int (p1 &&& (3 : Int32))), .val (.int (7 : Int32)), .val (.ref b1), .val (.int (1 : Int32))] [(.int (1 : Int32))])) _
    refine XS.istore X11.here hx rfl (hb hby at_52) rfl (l' := #[.val (.int p1), .val (.int p2), .val (.int p3), .val (.int p4), .val (.int (p1 &&& (3 : Int32))), .val (.int (7 : Int32)), .val (.ref b1), .val (.int (1 : Int32))]) rfl ?_
    show Steps p.tables e below (T11.setTop (mkF m 54 #[.val (.int p1), .val (.int p2), .val (.int p3), .val (.int p4), .val (.int (p1 &&& (3 : Int32))), .val (.int (7 : Int32)), .val (.ref b1), .val (.int (1 : Int32))] [])) _
    refine XS.iload X11.here hx rfl (hb hby at_54) rfl ?_
    show Steps p.tables e below (T11.setTop (mkF m 56 #[.val (.int p1), .val (.int p2), .val (.int p3), .val (.int p4), .val (.int (p1 &&& (3 : Int32))), .val (.int (7 : Int32)), .val (.ref b1), .val (.int (1 : Int32))] [(.int (7 : Int32))])) _
    refine XS.iconst X11.here hx rfl (hb hby at_56) ?_
    show Steps p.tables e below (T11.setTop (mkF m 57 #[.val (.int p1), .val (.int p2), .val (.int p3), .val (.int p4), .val (.int (p1 &&& (3 : Int32))), .val (.int (7 : Int32)), .val (.ref b1), .val (.int (1 : Int32))] [(.int (1 : Int32)), (.int (7 : Int32))])) _
    refine XS.icmpNo X11.here hx rfl (hb hby at_57) rfl (tlt (by decide : (1 : Int32) < (7 : Int32))).2.2.2 ?_
    show Steps p.tables e below (T11.setTop (mkF m 60 #[.val (.int p1), .val (.int p2), .val (.int p3), .val (.int p4), .val (.int (p1 &&& (3 : Int32))), .val (.int (7 : Int32)), .val (.ref b1), .val (.int (1 : Int32))] [])) _
    refine XS.iload X11.here hx rfl (hb hby at_60) rfl ?_
    show Steps p.tables e below (T11.setTop (mkF m 62 #[.val (.int p1), .val (.int p2), .val (.int p3), .val (.int p4), .val (.int (p1 &&& (3 : Int32))), .val (.int (7 : Int32)), .val (.ref b1), .val (.int (1 : Int32))] [(.int (1 : Int32))])) _
    refine XS.ifNo X11.here hx rfl (hb hby at_62) rfl ((if0 _ _).trans (feq (by decide : ¬ ((1 : Int32) = (0 : Int32)))).1) ?_
    show Steps p.tables e below (T11.setTop (mkF m 65 #[.val (.int p1), .val (.int p2), .val (.int p3), .val (.int p4), .val (.int (p1 &&& (3 : Int32))), .val (.int (7 : Int32)), .val (.ref b1), .val (.int (1 : Int32))] [])) _
    refine XS.aload X11.here hx rfl (hb hby at_65) rfl rfl ?_
    show Steps p.tables e below (T11.setTop (mkF m 67 #[.val (.int p1), .val (.int p2), .val (.int p3), .val (.int p4), .val (.int (p1 &&& (3 : Int32))), .val (.int (7 : Int32)), .val (.ref b1), .val (.int (1 : Int32))] [(.ref b1)])) _
    refine XS.iloadN X11.here hx rfl (hb hby at_67) rfl ?_
    show Steps p.tables e below (T11.setTop (mkF m 68 #[.val (.int p1), .val (.int p2), .val (.int p3), .val (.int p4), .val (.int (p1 &&& (3 : Int32))), .val (.int (7 : Int32)), .val (.ref b1), .val (.int (1 : Int32))] [(.int p3), (.ref b1)])) _
    refine XS.bipush X11.here hx rfl (hb hby at_68) ?_
    show Steps p.tables e below (T11.setTop (mkF m 70 #[.val (.int p1), .val (.int p2), .val (.int p3), .val (.int p4), .val (.int (p1 &&& (3 : Int32))), .val (.int (7 : Int32)), .val (.ref b1), .val (.int (1 : Int32))] [(.int (8 : Int32)), (.int p3), (.ref b1)])) _
    refine XS.iushr X11.here hx rfl (hb hby at_70) rfl ?_
    show Steps p.tables e below (T11.setTop (mkF m 71 #[.val (.int p1), .val (.int p2), .val (.int p3), .val (.int p4), .val (.int (p1 &&& (3 : Int32))), .val (.int (7 : Int32)), .val (.ref b1), .val (.int (1 : Int32))] [(.int ((p3.toUInt32 >>> ((8 : Int32) &&& 31).toUInt32).toInt32)), (.ref b1)])) _
    refine XS.i2b X11.here hx rfl (hb hby at_71) rfl ?_
    show Steps p.tables e below (T11.setTop (mkF m 72 #[.val (.int p1), .val (.int p2), .val (.int p3), .val (.int p4), .val (.int (p1 &&& (3 : Int32))), .val (.int (7 : Int32)), .val (.ref b1), .val (.int (1 : Int32))] [(.int (((p3.toUInt32 >>> ((8 : Int32) &&& 31).toUInt32).toInt32).toInt8.toInt32)), (.ref b1)])) _
    refine st18.trans ?_
    show Steps p.tables e below (T18.setTop (mkF m 75 #[.val (.int p1), .val (.int p2), .val (.int p3), .val (.int p4), .val (.int (p1 &&& (3 : Int32))), .val (.int (7 : Int32)), .val (.ref b1), .val (.int (1 : Int32))] [(.ref b1)])) _
    refine XS.aload X18.here hx rfl (hb hby at_75) rfl rfl ?_
    show Steps p.tables e below (T18.setTop (mkF m 77 #[.val (.int p1), .val (.int p2), .val (.int p3), .val (.int p4), .val (.int (p1 &&& (3 : Int32))), .val (.int (7 : Int32)), .val (.ref b1), .val (.int (1 : Int32))] [(.ref b1), (.ref b1)])) _
    refine Jvm.RoadKit.acmp (g := (mkF m 77 #[.val (.int p1), .val (.int p2), .val (.int p3), .val (.int p4), .val (.int (p1 &&& (3 : Int32))), .val (.int (7 : Int32)), .val (.ref b1), .val (.int (1 : Int32))] [(.ref b1), (.ref b1)])) X18 hx rfl rfl rfl (pc0 := 77) (pc' := 80) (same := true) rfl (hb hby at_77) rfl (decide_eq_true rfl) (by decide) (by decide) ?_
    show Steps p.tables e below (T18.setTop (mkF m 80 #[.val (.int p1), .val (.int p2), .val (.int p3), .val (.int p4), .val (.int (p1 &&& (3 : Int32))), .val (.int (7 : Int32)), .val (.ref b1), .val (.int (1 : Int32))] [])) _
    refine XS.iconst X18.here hx rfl (hb hby at_80) ?_
    show Steps p.tables e below (T18.setTop (mkF m 81 #[.val (.int p1), .val (.int p2), .val (.int p3), .val (.int p4), .val (.int (p1 &&& (3 : Int32))), .val (.int (7 : Int32)), .val (.ref b1), .val (.int (1 : Int32))] [(.int (1 : Int32))])) _
    refine XS.goto X18.here hx rfl (pc0 := 81) (pc' := 85) rfl (hb hby at_81) (by decide) (by decide) ?_
    show Steps p.tables e below (T18.setTop (mkF m 85 #[.val (.int p1), .val (.int p2), .val (.int p3), .val (.int p4), .val (.int (p1 &&& (3 : Int32))), .val (.int (7 : Int32)), .val (.ref b1), .val (.int (1 : Int32))] [(.int (1 : Int32))])) _
    refine XS.istore X18.here hx rfl (hb hby at_85) rfl (l' := #[.val (.int p1), .val (.int p2), .val (.int p3), .val (.int p4), .val (.int (p1 &&& (3 : Int32))), .val (.int (7 : Int32)), .val (.ref b1), .val (.int (1 : Int32))]) rfl ?_
    show Steps p.tables e below (T18.setTop (mkF m 87 #[.val (.int p1), .val (.int p2), .val (.int p3), .val (.int p4), .val (.int (p1 &&& (3 : Int32))), .val (.int (7 : Int32)), .val (.ref b1), .val (.int (1 : Int32))] [])) _
    refine XS.iload X18.here hx rfl (hb hby at_87) rfl ?_
    show Steps p.tables e below (T18.setTop (mkF m 89 #[.val (.int p1), .val (.int p2), .val (.int p3), .val (.int p4), .val (.int (p1 &&& (3 : Int32))), .val (.int (7 : Int32)), .val (.ref b1), .val (.int (1 : Int32))] [(.int (7 : Int32))])) _
    refine XS.iconst X18.here hx rfl (hb hby at_89) ?_
    show Steps p.tables e below (T18.setTop (mkF m 90 #[.val (.int p1), .val (.int p2), .val (.int p3), .val (.int p4), .val (.int (p1 &&& (3 : Int32))), .val (.int (7 : Int32)), .val (.ref b1), .val (.int (1 : Int32))] [(.int (2 : Int32)), (.int (7 : Int32))])) _
    refine XS.icmpNo X18.here hx rfl (hb hby at_90) rfl (tlt (by decide : (2 : Int32) < (7 : Int32))).2.2.2 ?_
    show Steps p.tables e below (T18.setTop (mkF m 93 #[.val (.int p1), .val (.int p2), .val (.int p3), .val (.int p4), .val (.int (p1 &&& (3 : Int32))), .val (.int (7 : Int32)), .val (.ref b1), .val (.int (1 : Int32))] [])) _
    refine XS.iload X18.here hx rfl (hb hby at_93) rfl ?_
    show Steps p.tables e below (T18.setTop (mkF m 95 #[.val (.int p1), .val (.int p2), .val (.int p3), .val (.int p4), .val (.int (p1 &&& (3 : Int32))), .val (.int (7 : Int32)), .val (.ref b1), .val (.int (1 : Int32))] [(.int (1 : Int32))])) _
    refine XS.ifNo X18.here hx rfl (hb hby at_95) rfl ((if0 _ _).trans (feq (by decide : ¬ ((1 : Int32) = (0 : Int32)))).1) ?_
    show Steps p.tables e below (T18.setTop (mkF m 98 #[.val (.int p1), .val (.int p2), .val (.int p3), .val (.int p4), .val (.int (p1 &&& (3 : Int32))), .val (.int (7 : Int32)), .val (.ref b1), .val (.int (1 : Int32))] [])) _
    refine XS.aload X18.here hx rfl (hb hby at_98) rfl rfl ?_
    show Steps p.tables e below (T18.setTop (mkF m 100 #[.val (.int p1), .val (.int p2), .val (.int p3), .val (.int p4), .val (.int (p1 &&& (3 : Int32))), .val (.int (7 : Int32)), .val (.ref b1), .val (.int (1 : Int32))] [(.ref b1)])) _
    refine XS.iloadN X18.here hx rfl (hb hby at_100) rfl ?_
    show Steps p.tables e below (T18.setTop (mkF m 101 #[.val (.int p1), .val (.int p2), .val (.int p3), .val (.int p4), .val (.int (p1 &&& (3 : Int32))), .val (.int (7 : Int32)), .val (.ref b1), .val (.int (1 : Int32))] [(.int p3), (.ref b1)])) _
    refine XS.bipush X18.here hx rfl (hb hby at_101) ?_
    show Steps p.tables e below (T18.setTop (mkF m 103 #[.val (.int p1), .val (.int p2), .val (.int p3), .val (.int p4), .val (.int (p1 &&& (3 : Int32))), .val (.int (7 : Int32)), .val (.ref b1), .val (.int (1 : Int32))] [(.int (16 : Int32)), (.int p3), (.ref b1)])) _
    refine XS.iushr X18.here hx rfl (hb hby at_103) rfl ?_
    show Steps p.tables e below (T18.setTop (mkF m 104 #[.val (.int p1), .val (.int p2), .val (.int p3), .val (.int p4), .val (.int (p1 &&& (3 : Int32))), .val (.int (7 : Int32)), .val (.ref b1), .val (.int (1 : Int32))] [(.int ((p3.toUInt32 >>> ((16 : Int32) &&& 31).toUInt32).toInt32)), (.ref b1)])) _
    refine XS.i2b X18.here hx rfl (hb hby at_104) rfl ?_
    show Steps p.tables e below (T18.setTop (mkF m 105 #[.val (.int p1), .val (.int p2), .val (.int p3), .val (.int p4), .val (.int (p1 &&& (3 : Int32))), .val (.int (7 : Int32)), .val (.ref b1), .val (.int (1 : Int32))] [(.int (((p3.toUInt32 >>> ((16 : Int32) &&& 31).toUInt32).toInt32).toInt8.toInt32)), (.ref b1)])) _
    refine st26.trans ?_
    show Steps p.tables e below (T26.setTop (mkF m 108 #[.val (.int p1), .val (.int p2), .val (.int p3), .val (.int p4), .val (.int (p1 &&& (3 : Int32))), .val (.int (7 : Int32)), .val (.ref b1), .val (.int (1 : Int32))] [(.ref b1)])) _
    refine XS.aload X26.here hx rfl (hb hby at_108) rfl rfl ?_
    show Steps p.tables e below (T26.setTop (mkF m 110 #[.val (.int p1), .val (.int p2), .val (.int p3), .val (.int p4), .val (.int (p1 &&& (3 : Int32))), .val (.int (7 : Int32)), .val (.ref b1), .val (.int (1 : Int32))] [(.ref b1), (.ref b1)])) _
    refine Jvm.RoadKit.acmp (g := (mkF m 110 #[.val (.int p1), .val (.int p2), .val (.int p3), .val (.int p4), .val (.int (p1 &&& (3 : Int32))), .val (.int (7 : Int32)), .val (.ref b1), .val (.int (1 : Int32))] [(.ref b1), (.ref b1)])) X26 hx rfl rfl rfl (pc0 := 110) (pc' := 113) (same := true) rfl (hb hby at_110) rfl (decide_eq_true rfl) (by decide) (by decide) ?_
    show Steps p.tables e below (T26.setTop (mkF m 113 #[.val (.int p1), .val (.int p2), .val (.int p3), .val (.int p4), .val (.int (p1 &&& (3 : Int32))), .val (.int (7 : Int32)), .val (.ref b1), .val (.int (1 : Int32))] [])) _
    refine XS.iconst X26.here hx rfl (hb hby at_113) ?_
    show Steps p.tables e below (T26.setTop (mkF m 114 #[.val (.int p1), .val (.int p2), .val (.int p3), .val (.int p4), .val (.int (p1 &&& (3 : Int32))), .val (.int (7 : Int32)), .val (.ref b1), .val (.int (1 : Int32))] [(.int (1 : Int32))])) _
    refine XS.goto X26.here hx rfl (pc0 := 114) (pc' := 118) rfl (hb hby at_114) (by decide) (by decide) ?_
    show Steps p.tables e below (T26.setTop (mkF m 118 #[.val (.int p1), .val (.int p2), .val (.int p3), .val (.int p4), .val (.int (p1 &&& (3 : Int32))), .val (.int (7 : Int32)), .val (.ref b1), .val (.int (1 : Int32))] [(.int (1 : Int32))])) _
    refine XS.istore X26.here hx rfl (hb hby at_118) rfl (l' := #[.val (.int p1), .val (.int p2), .val (.int p3), .val (.int p4), .val (.int (p1 &&& (3 : Int32))), .val (.int (7 : Int32)), .val (.ref b1), .val (.int (1 : Int32))]) rfl ?_
    show Steps p.tables e below (T26.setTop (mkF m 120 #[.val (.int p1), .val (.int p2), .val (.int p3), .val (.int p4), .val (.int (p1 &&& (3 : Int32))), .val (.int (7 : Int32)), .val (.ref b1), .val (.int (1 : Int32))] [])) _
    refine XS.iload X26.here hx rfl (hb hby at_120) rfl ?_
    show Steps p.tables e below (T26.setTop (mkF m 122 #[.val (.int p1), .val (.int p2), .val (.int p3), .val (.int p4), .val (.int (p1 &&& (3 : Int32))), .val (.int (7 : Int32)), .val (.ref b1), .val (.int (1 : Int32))] [(.int (7 : Int32))])) _
    refine XS.iconst X26.here hx rfl (hb hby at_122) ?_
    show Steps p.tables e below (T26.setTop (mkF m 123 #[.val (.int p1), .val (.int p2), .val (.int p3), .val (.int p4), .val (.int (p1 &&& (3 : Int32))), .val (.int (7 : Int32)), .val (.ref b1), .val (.int (1 : Int32))] [(.int (3 : Int32)), (.int (7 : Int32))])) _
    refine XS.icmpNo X26.here hx rfl (hb hby at_123) rfl (tlt (by decide : (3 : Int32) < (7 : Int32))).2.2.2 ?_
    show Steps p.tables e below (T26.setTop (mkF m 126 #[.val (.int p1), .val (.int p2), .val (.int p3), .val (.int p4), .val (.int (p1 &&& (3 : Int32))), .val (.int (7 : Int32)), .val (.ref b1), .val (.int (1 : Int32))] [])) _
    refine XS.iload X26.here hx rfl (hb hby at_126) rfl ?_
    show Steps p.tables e below (T26.setTop (mkF m 128 #[.val (.int p1), .val (.int p2), .val (.int p3), .val (.int p4), .val (.int (p1 &&& (3 : Int32))), .val (.int (7 : Int32)), .val (.ref b1), .val (.int (1 : Int32))] [(.int (1 : Int32))])) _
    refine XS.ifNo X26.here hx rfl (hb hby at_128) rfl ((if0 _ _).trans (feq (by decide : ¬ ((1 : Int32) = (0 : Int32)))).1) ?_
    show Steps p.tables e below (T26.setTop (mkF m 131 #[.val (.int p1), .val (.int p2), .val (.int p3), .val (.int p4), .val (.int (p1 &&& (3 : Int32))), .val (.int (7 : Int32)), .val (.ref b1), .val (.int (1 : Int32))] [])) _
    refine XS.aload X26.here hx rfl (hb hby at_131) rfl rfl ?_
    show Steps p.tables e below (T26.setTop (mkF m 133 #[.val (.int p1), .val (.int p2), .val (.int p3), .val (.int p4), .val (.int (p1 &&& (3 : Int32))), .val (.int (7 : Int32)), .val (.ref b1), .val (.int (1 : Int32))] [(.ref b1)])) _
    refine XS.iloadN X26.here hx rfl (hb hby at_133) rfl ?_
    show Steps p.tables e below (T26.setTop (mkF m 134 #[.val (.int p1), .val (.int p2), .val (.int p3), .val (.int p4), .val (.int (p1 &&& (3 : Int32))), .val (.int (7 : Int32)), .val (.ref b1), .val (.int (1 : Int32))] [(.int p3), (.ref b1)])) _
    refine XS.bipush X26.here hx rfl (hb hby at_134) ?_
    show Steps p.tables e below (T26.setTop (mkF m 136 #[.val (.int p1), .val (.int p2), .val (.int p3), .val (.int p4), .val (.int (p1 &&& (3 : Int32))), .val (.int (7 : Int32)), .val (.ref b1), .val (.int (1 : Int32))] [(.int (24 : Int32)), (.int p3), (.ref b1)])) _
    refine XS.iushr X26.here hx rfl (hb hby at_136) rfl ?_
    show Steps p.tables e below (T26.setTop (mkF m 137 #[.val (.int p1), .val (.int p2), .val (.int p3), .val (.int p4), .val (.int (p1 &&& (3 : Int32))), .val (.int (7 : Int32)), .val (.ref b1), .val (.int (1 : Int32))] [(.int ((p3.toUInt32 >>> ((24 : Int32) &&& 31).toUInt32).toInt32)), (.ref b1)])) _
    refine XS.i2b X26.here hx rfl (hb hby at_137) rfl ?_
    show Steps p.tables e below (T26.setTop (mkF m 138 #[.val (.int p1), .val (.int p2), .val (.int p3), .val (.int p4), .val (.int (p1 &&& (3 : Int32))), .val (.int (7 : Int32)), .val (.ref b1), .val (.int (1 : Int32))] [(.int (((p3.toUInt32 >>> ((24 : Int32) &&& 31).toUInt32).toInt32).toInt8.toInt32)), (.ref b1)])) _
    refine st35.trans ?_
    show Steps p.tables e below (T35.setTop (mkF m 141 #[.val (.int p1), .val (.int p2), .val (.int p3), .val (.int p4), .val (.int (p1 &&& (3 : Int32))), .val (.int (7 : Int32)), .val (.ref b1), .val (.int (1 : Int32))] [(.ref b1)])) _
    refine XS.aload X35.here hx rfl (hb hby at_141) rfl rfl ?_
    show Steps p.tables e below (T35.setTop (mkF m 143 #[.val (.int p1), .val (.int p2), .val (.int p3), .val (.int p4), .val (.int (p1 &&& (3 : Int32))), .val (.int (7 : Int32)), .val (.ref b1), .val (.int (1 : Int32))] [(.ref b1), (.ref b1)])) _
    refine Jvm.RoadKit.acmp (g := (mkF m 143 #[.val (.int p1), .val (.int p2), .val (.int p3), .val (.int p4), .val (.int (p1 &&& (3 : Int32))), .val (.int (7 : Int32)), .val (.ref b1), .val (.int (1 : Int32))] [(.ref b1), (.ref b1)])) X35 hx rfl rfl rfl (pc0 := 143) (pc' := 146) (same := true) rfl (hb hby at_143) rfl (decide_eq_true rfl) (by decide) (by decide) ?_
    show Steps p.tables e below (T35.setTop (mkF m 146 #[.val (.int p1), .val (.int p2), .val (.int p3), .val (.int p4), .val (.int (p1 &&& (3 : Int32))), .val (.int (7 : Int32)), .val (.ref b1), .val (.int (1 : Int32))] [])) _
    refine XS.iconst X35.here hx rfl (hb hby at_146) ?_
    show Steps p.tables e below (T35.setTop (mkF m 147 #[.val (.int p1), .val (.int p2), .val (.int p3), .val (.int p4), .val (.int (p1 &&& (3 : Int32))), .val (.int (7 : Int32)), .val (.ref b1), .val (.int (1 : Int32))] [(.int (1 : Int32))])) _
    refine XS.goto X35.here hx rfl (pc0 := 147) (pc' := 151) rfl (hb hby at_147) (by decide) (by decide) ?_
    show Steps p.tables e below (T35.setTop (mkF m 151 #[.val (.int p1), .val (.int p2), .val (.int p3), .val (.int p4), .val (.int (p1 &&& (3 : Int32))), .val (.int (7 : Int32)), .val (.ref b1), .val (.int (1 : Int32))] [(.int (1 : Int32))])) _
    refine XS.istore X35.here hx rfl (hb hby at_151) rfl (l' := #[.val (.int p1), .val (.int p2), .val (.int p3), .val (.int p4), .val (.int (p1 &&& (3 : Int32))), .val (.int (7 : Int32)), .val (.ref b1), .val (.int (1 : Int32))]) rfl ?_
    show Steps p.tables e below (T35.setTop (mkF m 153 #[.val (.int p1), .val (.int p2), .val (.int p3), .val (.int p4), .val (.int (p1 &&& (3 : Int32))), .val (.int (7 : Int32)), .val (.ref b1), .val (.int (1 : Int32))] [])) _
    refine XS.iload X35.here hx rfl (hb hby at_153) rfl ?_
    show Steps p.tables e below (T35.setTop (mkF m 155 #[.val (.int p1), .val (.int p2), .val (.int p3), .val (.int p4), .val (.int (p1 &&& (3 : Int32))), .val (.int (7 : Int32)), .val (.ref b1), .val (.int (1 : Int32))] [(.int (7 : Int32))])) _
    refine XS.iconst X35.here hx rfl (hb hby at_155) ?_
    show Steps p.tables e below (T35.setTop (mkF m 156 #[.val (.int p1), .val (.int p2), .val (.int p3), .val (.int p4), .val (.int (p1 &&& (3 : Int32))), .val (.int (7 : Int32)), .val (.ref b1), .val (.int (1 : Int32))] [(.int (4 : Int32)), (.int (7 : Int32))])) _
    refine XS.icmpNo X35.here hx rfl (hb hby at_156) rfl (tlt (by decide : (4 : Int32) < (7 : Int32))).2.2.2 ?_
    show Steps p.tables e below (T35.setTop (mkF m 159 #[.val (.int p1), .val (.int p2), .val (.int p3), .val (.int p4), .val (.int (p1 &&& (3 : Int32))), .val (.int (7 : Int32)), .val (.ref b1), .val (.int (1 : Int32))] [])) _
    refine XS.iload X35.here hx rfl (hb hby at_159) rfl ?_
    show Steps p.tables e below (T35.setTop (mkF m 161 #[.val (.int p1), .val (.int p2), .val (.int p3), .val (.int p4), .val (.int (p1 &&& (3 : Int32))), .val (.int (7 : Int32)), .val (.ref b1), .val (.int (1 : Int32))] [(.int (1 : Int32))])) _
    refine XS.ifNo X35.here hx rfl (hb hby at_161) rfl ((if0 _ _).trans (feq (by decide : ¬ ((1 : Int32) = (0 : Int32)))).1) ?_
    show Steps p.tables e below (T35.setTop (mkF m 164 #[.val (.int p1), .val (.int p2), .val (.int p3), .val (.int p4), .val (.int (p1 &&& (3 : Int32))), .val (.int (7 : Int32)), .val (.ref b1), .val (.int (1 : Int32))] [])) _
    refine XS.aload X35.here hx rfl (hb hby at_164) rfl rfl ?_
    show Steps p.tables e below (T35.setTop (mkF m 166 #[.val (.int p1), .val (.int p2), .val (.int p3), .val (.int p4), .val (.int (p1 &&& (3 : Int32))), .val (.int (7 : Int32)), .val (.ref b1), .val (.int (1 : Int32))] [(.ref b1)])) _
    refine XS.iloadN X35.here hx rfl (hb hby at_166) rfl ?_
    show Steps p.tables e below (T35.setTop (mkF m 167 #[.val (.int p1), .val (.int p2), .val (.int p3), .val (.int p4), .val (.int (p1 &&& (3 : Int32))), .val (.int (7 : Int32)), .val (.ref b1), .val (.int (1 : Int32))] [(.int p4), (.ref b1)])) _
    refine XS.i2b X35.here hx rfl (hb hby at_167) rfl ?_
    show Steps p.tables e below (T35.setTop (mkF m 168 #[.val (.int p1), .val (.int p2), .val (.int p3), .val (.int p4), .val (.int (p1 &&& (3 : Int32))), .val (.int (7 : Int32)), .val (.ref b1), .val (.int (1 : Int32))] [(.int (p4.toInt8.toInt32)), (.ref b1)])) _
    refine st45.trans ?_
    show Steps p.tables e below (T45.setTop (mkF m 171 #[.val (.int p1), .val (.int p2), .val (.int p3), .val (.int p4), .val (.int (p1 &&& (3 : Int32))), .val (.int (7 : Int32)), .val (.ref b1), .val (.int (1 : Int32))] [(.ref b1)])) _
    refine XS.aload X45.here hx rfl (hb hby at_171) rfl rfl ?_
    show Steps p.tables e below (T45.setTop (mkF m 173 #[.val (.int p1), .val (.int p2), .val (.int p3), .val (.int p4), .val (.int (p1 &&& (3 : Int32))), .val (.int (7 : Int32)), .val (.ref b1), .val (.int (1 : Int32))] [(.ref b1), (.ref b1)])) _
    refine Jvm.RoadKit.acmp (g := (mkF m 173 #[.val (.int p1), .val (.int p2), .val (.int p3), .val (.int p4), .val (.int (p1 &&& (3 : Int32))), .val (.int (7 : Int32)), .val (.ref b1), .val (.int (1 : Int32))] [(.ref b1), (.ref b1)])) X45 hx rfl rfl rfl (pc0 := 173) (pc' := 176) (same := true) rfl (hb hby at_173) rfl (decide_eq_true rfl) (by decide) (by decide) ?_
    show Steps p.tables e below (T45.setTop (mkF m 176 #[.val (.int p1), .val (.int p2), .val (.int p3), .val (.int p4), .val (.int (p1 &&& (3 : Int32))), .val (.int (7 : Int32)), .val (.ref b1), .val (.int (1 : Int32))] [])) _
    refine XS.iconst X45.here hx rfl (hb hby at_176) ?_
    show Steps p.tables e below (T45.setTop (mkF m 177 #[.val (.int p1), .val (.int p2), .val (.int p3), .val (.int p4), .val (.int (p1 &&& (3 : Int32))), .val (.int (7 : Int32)), .val (.ref b1), .val (.int (1 : Int32))] [(.int (1 : Int32))])) _
    refine XS.goto X45.here hx rfl (pc0 := 177) (pc' := 181) rfl (hb hby at_177) (by decide) (by decide) ?_
    show Steps p.tables e below (T45.setTop (mkF m 181 #[.val (.int p1), .val (.int p2), .val (.int p3), .val (.int p4), .val (.int (p1 &&& (3 : Int32))), .val (.int (7 : Int32)), .val (.ref b1), .val (.int (1 : Int32))] [(.int (1 : Int32))])) _
    refine XS.istore X45.here hx rfl (hb hby at_181) rfl (l' := #[.val (.int p1), .val (.int p2), .val (.int p3), .val (.int p4), .val (.int (p1 &&& (3 : Int32))), .val (.int (7 : Int32)), .val (.ref b1), .val (.int (1 : Int32))]) rfl ?_
    show Steps p.tables e below (T45.setTop (mkF m 183 #[.val (.int p1), .val (.int p2), .val (.int p3), .val (.int p4), .val (.int (p1 &&& (3 : Int32))), .val (.int (7 : Int32)), .val (.ref b1), .val (.int (1 : Int32))] [])) _
    refine XS.iload X45.here hx rfl (hb hby at_183) rfl ?_
    show Steps p.tables e below (T45.setTop (mkF m 185 #[.val (.int p1), .val (.int p2), .val (.int p3), .val (.int p4), .val (.int (p1 &&& (3 : Int32))), .val (.int (7 : Int32)), .val (.ref b1), .val (.int (1 : Int32))] [(.int (7 : Int32))])) _
    refine XS.iconst X45.here hx rfl (hb hby at_185) ?_
    show Steps p.tables e below (T45.setTop (mkF m 186 #[.val (.int p1), .val (.int p2), .val (.int p3), .val (.int p4), .val (.int (p1 &&& (3 : Int32))), .val (.int (7 : Int32)), .val (.ref b1), .val (.int (1 : Int32))] [(.int (5 : Int32)), (.int (7 : Int32))])) _
    refine XS.icmpNo X45.here hx rfl (hb hby at_186) rfl (tlt (by decide : (5 : Int32) < (7 : Int32))).2.2.2 ?_
    show Steps p.tables e below (T45.setTop (mkF m 189 #[.val (.int p1), .val (.int p2), .val (.int p3), .val (.int p4), .val (.int (p1 &&& (3 : Int32))), .val (.int (7 : Int32)), .val (.ref b1), .val (.int (1 : Int32))] [])) _
    refine XS.iload X45.here hx rfl (hb hby at_189) rfl ?_
    show Steps p.tables e below (T45.setTop (mkF m 191 #[.val (.int p1), .val (.int p2), .val (.int p3), .val (.int p4), .val (.int (p1 &&& (3 : Int32))), .val (.int (7 : Int32)), .val (.ref b1), .val (.int (1 : Int32))] [(.int (1 : Int32))])) _
    refine XS.ifNo X45.here hx rfl (hb hby at_191) rfl ((if0 _ _).trans (feq (by decide : ¬ ((1 : Int32) = (0 : Int32)))).1) ?_
    show Steps p.tables e below (T45.setTop (mkF m 194 #[.val (.int p1), .val (.int p2), .val (.int p3), .val (.int p4), .val (.int (p1 &&& (3 : Int32))), .val (.int (7 : Int32)), .val (.ref b1), .val (.int (1 : Int32))] [])) _
    refine XS.aload X45.here hx rfl (hb hby at_194) rfl rfl ?_
    show Steps p.tables e below (T45.setTop (mkF m 196 #[.val (.int p1), .val (.int p2), .val (.int p3), .val (.int p4), .val (.int (p1 &&& (3 : Int32))), .val (.int (7 : Int32)), .val (.ref b1), .val (.int (1 : Int32))] [(.ref b1)])) _
    refine XS.iloadN X45.here hx rfl (hb hby at_196) rfl ?_
    show Steps p.tables e below (T45.setTop (mkF m 197 #[.val (.int p1), .val (.int p2), .val (.int p3), .val (.int p4), .val (.int (p1 &&& (3 : Int32))), .val (.int (7 : Int32)), .val (.ref b1), .val (.int (1 : Int32))] [(.int p4), (.ref b1)])) _
    refine XS.bipush X45.here hx rfl (hb hby at_197) ?_
    show Steps p.tables e below (T45.setTop (mkF m 199 #[.val (.int p1), .val (.int p2), .val (.int p3), .val (.int p4), .val (.int (p1 &&& (3 : Int32))), .val (.int (7 : Int32)), .val (.ref b1), .val (.int (1 : Int32))] [(.int (8 : Int32)), (.int p4), (.ref b1)])) _
    refine XS.iushr X45.here hx rfl (hb hby at_199) rfl ?_
    show Steps p.tables e below (T45.setTop (mkF m 200 #[.val (.int p1), .val (.int p2), .val (.int p3), .val (.int p4), .val (.int (p1 &&& (3 : Int32))), .val (.int (7 : Int32)), .val (.ref b1), .val (.int (1 : Int32))] [(.int ((p4.toUInt32 >>> ((8 : Int32) &&& 31).toUInt32).toInt32)), (.ref b1)])) _
    refine XS.i2b X45.here hx rfl (hb hby at_200) rfl ?_
    show Steps p.tables e below (T45.setTop (mkF m 201 #[.val (.int p1), .val (.int p2), .val (.int p3), .val (.int p4), .val (.int (p1 &&& (3 : Int32))), .val (.int (7 : Int32)), .val (.ref b1), .val (.int (1 : Int32))] [(.int (((p4.toUInt32 >>> ((8 : Int32) &&& 31).toUInt32).toInt32).toInt8.toInt32)), (.ref b1)])) _
    refine st56.trans ?_
    show Steps p.tables e below (T56.setTop (mkF m 204 #[.val (.int p1), .val (.int p2), .val (.int p3), .val (.int p4), .val (.int (p1 &&& (3 : Int32))), .val (.int (7 : Int32)), .val (.ref b1), .val (.int (1 : Int32))] [(.ref b1)])) _
    refine XS.aload X56.here hx rfl (hb hby at_204) rfl rfl ?_
    show Steps p.tables e below (T56.setTop (mkF m 206 #[.val (.int p1), .val (.int p2), .val (.int p3), .val (.int p4), .val (.int (p1 &&& (3 : Int32))), .val (.int (7 : Int32)), .val (.ref b1), .val (.int (1 : Int32))] [(.ref b1), (.ref b1)])) _
    refine Jvm.RoadKit.acmp (g := (mkF m 206 #[.val (.int p1), .val (.int p2), .val (.int p3), .val (.int p4), .val (.int (p1 &&& (3 : Int32))), .val (.int (7 : Int32)), .val (.ref b1), .val (.int (1 : Int32))] [(.ref b1), (.ref b1)])) X56 hx rfl rfl rfl (pc0 := 206) (pc' := 209) (same := true) rfl (hb hby at_206) rfl (decide_eq_true rfl) (by decide) (by decide) ?_
    show Steps p.tables e below (T56.setTop (mkF m 209 #[.val (.int p1), .val (.int p2), .val (.int p3), .val (.int p4), .val (.int (p1 &&& (3 : Int32))), .val (.int (7 : Int32)), .val (.ref b1), .val (.int (1 : Int32))] [])) _
    refine XS.iconst X56.here hx rfl (hb hby at_209) ?_
    show Steps p.tables e below (T56.setTop (mkF m 210 #[.val (.int p1), .val (.int p2), .val (.int p3), .val (.int p4), .val (.int (p1 &&& (3 : Int32))), .val (.int (7 : Int32)), .val (.ref b1), .val (.int (1 : Int32))] [(.int (1 : Int32))])) _
    refine XS.goto X56.here hx rfl (pc0 := 210) (pc' := 214) rfl (hb hby at_210) (by decide) (by decide) ?_
    show Steps p.tables e below (T56.setTop (mkF m 214 #[.val (.int p1), .val (.int p2), .val (.int p3), .val (.int p4), .val (.int (p1 &&& (3 : Int32))), .val (.int (7 : Int32)), .val (.ref b1), .val (.int (1 : Int32))] [(.int (1 : Int32))])) _
    refine XS.istore X56.here hx rfl (hb hby at_214) rfl (l' := #[.val (.int p1), .val (.int p2), .val (.int p3), .val (.int p4), .val (.int (p1 &&& (3 : Int32))), .val (.int (7 : Int32)), .val (.ref b1), .val (.int (1 : Int32))]) rfl ?_
    show Steps p.tables e below (T56.setTop (mkF m 216 #[.val (.int p1), .val (.int p2), .val (.int p3), .val (.int p4), .val (.int (p1 &&& (3 : Int32))), .val (.int (7 : Int32)), .val (.ref b1), .val (.int (1 : Int32))] [])) _
    refine XS.iload X56.here hx rfl (hb hby at_216) rfl ?_
    show Steps p.tables e below (T56.setTop (mkF m 218 #[.val (.int p1), .val (.int p2), .val (.int p3), .val (.int p4), .val (.int (p1 &&& (3 : Int32))), .val (.int (7 : Int32)), .val (.ref b1), .val (.int (1 : Int32))] [(.int (7 : Int32))])) _
    refine XS.bipush X56.here hx rfl (hb hby at_218) ?_
    show Steps p.tables e below (T56.setTop (mkF m 220 #[.val (.int p1), .val (.int p2), .val (.int p3), .val (.int p4), .val (.int (p1 &&& (3 : Int32))), .val (.int (7 : Int32)), .val (.ref b1), .val (.int (1 : Int32))] [(.int (6 : Int32)), (.int (7 : Int32))])) _
    refine XS.icmpNo X56.here hx rfl (hb hby at_220) rfl (tlt (by decide : (6 : Int32) < (7 : Int32))).2.2.2 ?_
    show Steps p.tables e below (T56.setTop (mkF m 223 #[.val (.int p1), .val (.int p2), .val (.int p3), .val (.int p4), .val (.int (p1 &&& (3 : Int32))), .val (.int (7 : Int32)), .val (.ref b1), .val (.int (1 : Int32))] [])) _
    refine XS.iload X56.here hx rfl (hb hby at_223) rfl ?_
    show Steps p.tables e below (T56.setTop (mkF m 225 #[.val (.int p1), .val (.int p2), .val (.int p3), .val (.int p4), .val (.int (p1 &&& (3 : Int32))), .val (.int (7 : Int32)), .val (.ref b1), .val (.int (1 : Int32))] [(.int (1 : Int32))])) _
    refine XS.ifNo X56.here hx rfl (hb hby at_225) rfl ((if0 _ _).trans (feq (by decide : ¬ ((1 : Int32) = (0 : Int32)))).1) ?_
    show Steps p.tables e below (T56.setTop (mkF m 228 #[.val (.int p1), .val (.int p2), .val (.int p3), .val (.int p4), .val (.int (p1 &&& (3 : Int32))), .val (.int (7 : Int32)), .val (.ref b1), .val (.int (1 : Int32))] [])) _
    refine XS.aload X56.here hx rfl (hb hby at_228) rfl rfl ?_
    show Steps p.tables e below (T56.setTop (mkF m 230 #[.val (.int p1), .val (.int p2), .val (.int p3), .val (.int p4), .val (.int (p1 &&& (3 : Int32))), .val (.int (7 : Int32)), .val (.ref b1), .val (.int (1 : Int32))] [(.ref b1)])) _
    refine XS.iloadN X56.here hx rfl (hb hby at_230) rfl ?_
    show Steps p.tables e below (T56.setTop (mkF m 231 #[.val (.int p1), .val (.int p2), .val (.int p3), .val (.int p4), .val (.int (p1 &&& (3 : Int32))), .val (.int (7 : Int32)), .val (.ref b1), .val (.int (1 : Int32))] [(.int p4), (.ref b1)])) _
    refine XS.bipush X56.here hx rfl (hb hby at_231) ?_
    show Steps p.tables e below (T56.setTop (mkF m 233 #[.val (.int p1), .val (.int p2), .val (.int p3), .val (.int p4), .val (.int (p1 &&& (3 : Int32))), .val (.int (7 : Int32)), .val (.ref b1), .val (.int (1 : Int32))] [(.int (16 : Int32)), (.int p4), (.ref b1)])) _
    refine XS.iushr X56.here hx rfl (hb hby at_233) rfl ?_
    show Steps p.tables e below (T56.setTop (mkF m 234 #[.val (.int p1), .val (.int p2), .val (.int p3), .val (.int p4), .val (.int (p1 &&& (3 : Int32))), .val (.int (7 : Int32)), .val (.ref b1), .val (.int (1 : Int32))] [(.int ((p4.toUInt32 >>> ((16 : Int32) &&& 31).toUInt32).toInt32)), (.ref b1)])) _
    refine XS.i2b X56.here hx rfl (hb hby at_234) rfl ?_
    show Steps p.tables e below (T56.setTop (mkF m 235 #[.val (.int p1), .val (.int p2), .val (.int p3), .val (.int p4), .val (.int (p1 &&& (3 : Int32))), .val (.int (7 : Int32)), .val (.ref b1), .val (.int (1 : Int32))] [(.int (((p4.toUInt32 >>> ((16 : Int32) &&& 31).toUInt32).toInt32).toInt8.toInt32)), (.ref b1)])) _
    refine st68.trans ?_
    show Steps p.tables e below (T68.setTop (mkF m 238 #[.val (.int p1), .val (.int p2), .val (.int p3), .val (.int p4), .val (.int (p1 &&& (3 : Int32))), .val (.int (7 : Int32)), .val (.ref b1), .val (.int (1 : Int32))] [(.ref b1)])) _
    refine XS.aload X68.here hx rfl (hb hby at_238) rfl rfl ?_
    show Steps p.tables e below (T68.setTop (mkF m 240 #[.val (.int p1), .val (.int p2), .val (.int p3), .val (.int p4), .val (.int (p1 &&& (3 : Int32))), .val (.int (7 : Int32)), .val (.ref b1), .val (.int (1 : Int32))] [(.ref b1), (.ref b1)])) _
    refine Jvm.RoadKit.acmp (g := (mkF m 240 #[.val (.int p1), .val (.int p2), .val (.int p3), .val (.int p4), .val (.int (p1 &&& (3 : Int32))), .val (.int (7 : Int32)), .val (.ref b1), .val (.int (1 : Int32))] [(.ref b1), (.ref b1)])) X68 hx rfl rfl rfl (pc0 := 240) (pc' := 243) (same := true) rfl (hb hby at_240) rfl (decide_eq_true rfl) (by decide) (by decide) ?_
    show Steps p.tables e below (T68.setTop (mkF m 243 #[.val (.int p1), .val (.int p2), .val (.int p3), .val (.int p4), .val (.int (p1 &&& (3 : Int32))), .val (.int (7 : Int32)), .val (.ref b1), .val (.int (1 : Int32))] [])) _
    refine XS.iconst X68.here hx rfl (hb hby at_243) ?_
    show Steps p.tables e below (T68.setTop (mkF m 244 #[.val (.int p1), .val (.int p2), .val (.int p3), .val (.int p4), .val (.int (p1 &&& (3 : Int32))), .val (.int (7 : Int32)), .val (.ref b1), .val (.int (1 : Int32))] [(.int (1 : Int32))])) _
    refine XS.goto X68.here hx rfl (pc0 := 244) (pc' := 248) rfl (hb hby at_244) (by decide) (by decide) ?_
    show Steps p.tables e below (T68.setTop (mkF m 248 #[.val (.int p1), .val (.int p2), .val (.int p3), .val (.int p4), .val (.int (p1 &&& (3 : Int32))), .val (.int (7 : Int32)), .val (.ref b1), .val (.int (1 : Int32))] [(.int (1 : Int32))])) _
    refine XS.istore X68.here hx rfl (hb hby at_248) rfl (l' := #[.val (.int p1), .val (.int p2), .val (.int p3), .val (.int p4), .val (.int (p1 &&& (3 : Int32))), .val (.int (7 : Int32)), .val (.ref b1), .val (.int (1 : Int32))]) rfl ?_
    show Steps p.tables e below (T68.setTop (mkF m 250 #[.val (.int p1), .val (.int p2), .val (.int p3), .val (.int p4), .val (.int (p1 &&& (3 : Int32))), .val (.int (7 : Int32)), .val (.ref b1), .val (.int (1 : Int32))] [])) _
    refine XS.iload X68.here hx rfl (hb hby at_250) rfl ?_
    show Steps p.tables e below (T68.setTop (mkF m 252 #[.val (.int p1), .val (.int p2), .val (.int p3), .val (.int p4), .val (.int (p1 &&& (3 : Int32))), .val (.int (7 : Int32)), .val (.ref b1), .val (.int (1 : Int32))] [(.int (1 : Int32))])) _
    refine XS.ifNo X68.here hx rfl (hb hby at_252) rfl ((if0 _ _).trans (feq (by decide : ¬ ((1 : Int32) = (0 : Int32)))).1) ?_
    show Steps p.tables e below (T68.setTop (mkF m 255 #[.val (.int p1), .val (.int p2), .val (.int p3), .val (.int p4), .val (.int (p1 &&& (3 : Int32))), .val (.int (7 : Int32)), .val (.ref b1), .val (.int (1 : Int32))] [])) _
    refine XS.aload X68.here hx rfl (hb hby at_255) rfl rfl ?_
    show Steps p.tables e below (T68.setTop (mkF m 257 #[.val (.int p1), .val (.int p2), .val (.int p3), .val (.int p4), .val (.int (p1 &&& (3 : Int32))), .val (.int (7 : Int32)), .val (.ref b1), .val (.int (1 : Int32))] [(.ref b1)])) _
    refine st81.trans ?_
    show Steps p.tables e below (T81.setTop (mkF m 260 #[.val (.int p1), .val (.int p2), .val (.int p3), .val (.int p4), .val (.int (p1 &&& (3 : Int32))), .val (.int (7 : Int32)), .val (.ref b1), .val (.int (1 : Int32))] [(.int (7 : Int32))])) _
    refine XS.iload X81.here hx rfl (hb hby at_260) rfl ?_
    show Steps p.tables e below (T81.setTop (mkF m 262 #[.val (.int p1), .val (.int p2), .val (.int p3), .val (.int p4), .val (.int (p1 &&& (3 : Int32))), .val (.int (7 : Int32)), .val (.ref b1), .val (.int (1 : Int32))] [(.int (7 : Int32)), (.int (7 : Int32))])) _
    refine XS.icmpNo X81.here hx rfl (hb hby at_262) rfl (teq (by decide : (7 : Int32) = (7 : Int32))).2 ?_
    show Steps p.tables e below (T81.setTop (mkF m 265 #[.val (.int p1), .val (.int p2), .val (.int p3), .val (.int p4), .val (.int (p1 &&& (3 : Int32))), .val (.int (7 : Int32)), .val (.ref b1), .val (.int (1 : Int32))] [])) _
    refine XS.iconst X81.here hx rfl (hb hby at_265) ?_
    show Steps p.tables e below (T81.setTop (mkF m 266 #[.val (.int p1), .val (.int p2), .val (.int p3), .val (.int p4), .val (.int (p1 &&& (3 : Int32))), .val (.int (7 : Int32)), .val (.ref b1), .val (.int (1 : Int32))] [(.int (1 : Int32))])) _
    refine XS.goto X81.here hx rfl (pc0 := 266) (pc' := 270) rfl (hb hby at_266) (by decide) (by decide) ?_
    show Steps p.tables e below (T81.setTop (mkF m 270 #[.val (.int p1), .val (.int p2), .val (.int p3), .val (.int p4), .val (.int (p1 &&& (3 : Int32))), .val (.int (7 : Int32)), .val (.ref b1), .val (.int (1 : Int32))] [(.int (1 : Int32))])) _
    exact retN X81 hx (t := .boolean) Bd.returns (by simp) (hb hby at_270) hr
  · show Q_law Z p1 p2 p3 p4 h0 n0 _ T81.heap _
    rw [e81]
    exact ⟨rfl, N82⟩
theorem own_m7 (x : Int32) : x &&& (7 : Int32) = 0 ∨ x &&& (7 : Int32) = 1 ∨ x &&& (7 : Int32) = 2 ∨ x &&& (7 : Int32) = 3 ∨ x &&& (7 : Int32) = 4 ∨ x &&& (7 : Int32) = 5 ∨ x &&& (7 : Int32) = 6 ∨ x &&& (7 : Int32) = 7 := by
  have e := c_mask x 7 3 (by decide) (by decide)
  have g : ∀ k : Int32, (x &&& 7).toInt = k.toInt → x &&& 7 = k := fun k h => own_eq32 h
  have z0 : (0 : Int32).toInt = 0 := by decide
  have z1 : (1 : Int32).toInt = 1 := by decide
  have z2 : (2 : Int32).toInt = 2 := by decide
  have z3 : (3 : Int32).toInt = 3 := by decide
  have z4 : (4 : Int32).toInt = 4 := by decide
  have z5 : (5 : Int32).toInt = 5 := by decide
  have z6 : (6 : Int32).toInt = 6 := by decide
  have z7 : (7 : Int32).toInt = 7 := by decide
  by_cases c0 : (x &&& 7).toInt = 0
  · exact Or.inl (g 0 (by omega))
  by_cases c1 : (x &&& 7).toInt = 1
  · exact Or.inr (Or.inl (g 1 (by omega)))
  by_cases c2 : (x &&& 7).toInt = 2
  · exact Or.inr (Or.inr (Or.inl (g 2 (by omega))))
  by_cases c3 : (x &&& 7).toInt = 3
  · exact Or.inr (Or.inr (Or.inr (Or.inl (g 3 (by omega)))))
  by_cases c4 : (x &&& 7).toInt = 4
  · exact Or.inr (Or.inr (Or.inr (Or.inr (Or.inl (g 4 (by omega))))))
  by_cases c5 : (x &&& 7).toInt = 5
  · exact Or.inr (Or.inr (Or.inr (Or.inr (Or.inr (Or.inl (g 5 (by omega)))))))
  by_cases c6 : (x &&& 7).toInt = 6
  · exact Or.inr (Or.inr (Or.inr (Or.inr (Or.inr (Or.inr (Or.inl (g 6 (by omega))))))))
  exact Or.inr (Or.inr (Or.inr (Or.inr (Or.inr (Or.inr (Or.inr (g 7 (by omega))))))))
theorem own_plain (p1 p2 p3 p4 : Int32) : Road_n0 p1 p2 p3 p4 ∨ Road_n1 p1 p2 p3 p4 ∨ Road_n2 p1 p2 p3 p4 ∨ Road_n3 p1 p2 p3 p4 ∨ Road_n4 p1 p2 p3 p4 ∨ Road_n5 p1 p2 p3 p4 ∨ Road_n6 p1 p2 p3 p4 ∨ Road_n7 p1 p2 p3 p4 := by
  have e := c_mask p1 3 2 (by decide) (by decide)
  have z0 : (0 : Int32).toInt = 0 := by decide
  have k1 : ¬ ((p1 &&& (3 : Int32)) < (0 : Int32)) := by rw [own_lt32]; omega
  have k2 : (p1 &&& (3 : Int32)).toNatClampNeg ≤ 3 := by simp only [Int32.toNatClampNeg]; omega
  have k3 : own_B (0 : Int32) (p1 &&& (3 : Int32)) (List.replicate 16 (.int (0 : Int32))) := ⟨by decide, by omega, by omega, by simp, fun i _ => own_rep_getD _ _ _⟩
  rcases own_m7 p2 with h | h | h | h | h | h | h | h
  · exact Or.inl ⟨h, k1, k2⟩
  · exact Or.inr (Or.inl ⟨h, k1, k2, k3⟩)
  · exact Or.inr (Or.inr (Or.inl ⟨h, k1, k2, k3⟩))
  · exact Or.inr (Or.inr (Or.inr (Or.inl ⟨h, k1, k2, k3⟩)))
  · exact Or.inr (Or.inr (Or.inr (Or.inr (Or.inl ⟨h, k1, k2, k3⟩))))
  · exact Or.inr (Or.inr (Or.inr (Or.inr (Or.inr (Or.inl ⟨h, k1, k2, k3⟩)))))
  · exact Or.inr (Or.inr (Or.inr (Or.inr (Or.inr (Or.inr (Or.inl ⟨h, k1, k2, k3⟩))))))
  · exact Or.inr (Or.inr (Or.inr (Or.inr (Or.inr (Or.inr (Or.inr (⟨h, k1, k2, k3⟩)))))))
set_option maxRecDepth 65536 in
set_option maxHeartbeats 40000000 in
theorem rm_law (l : Launch) (Z : State) (a0 : Array Value) (hw : ∀ d ∈ tables_1, d.before a0 Z = true) (ws : List Jvm.Cond) (p1 : Int32) (p2 : Int32) (p3 : Int32) (p4 : Int32) (h0 : Heap) (n0 : Nat) (Z0 : n0 ≤ h0.size) :
    MetFree l x (head1 (Jvm.Cond.code x code maxLocals ret :: ws) room_1) (fun a U => a = #[(.int p1), (.int p2), (.int p3), (.int p4)] ∧ Z.Warmed39 U.vm ∧ U.heap = h0) (fun _ _ _ _ _ => True) (fun _ U o U' => ∃ v L, o = .returned v ∧ Q_law Z p1 p2 p3 p4 h0 n0 v U'.heap L ∧ FrameEnd U o U' L room_1.cells room_1.slots) := by
  rcases own_plain p1 p2 p3 p4 with h | h | h | h | h | h | h | h
  · exact rm_law_n0 l Z a0 hw ws p1 p2 p3 p4 h0 n0 Z0 h
  · exact rm_law_n1 l Z a0 hw ws p1 p2 p3 p4 h0 n0 Z0 h
  · exact rm_law_n2 l Z a0 hw ws p1 p2 p3 p4 h0 n0 Z0 h
  · exact rm_law_n3 l Z a0 hw ws p1 p2 p3 p4 h0 n0 Z0 h
  · exact rm_law_n4 l Z a0 hw ws p1 p2 p3 p4 h0 n0 Z0 h
  · exact rm_law_n5 l Z a0 hw ws p1 p2 p3 p4 h0 n0 Z0 h
  · exact rm_law_n6 l Z a0 hw ws p1 p2 p3 p4 h0 n0 Z0 h
  · exact rm_law_n7 l Z a0 hw ws p1 p2 p3 p4 h0 n0 Z0 h
set_option maxRecDepth 65536 in
set_option maxHeartbeats 40000000 in
theorem comes_1 {Post : Tables → Env → Array Value → State → Outcome → State → Prop} (hpost : ∀ tb e args s v u, (limb_1_1.after args s (.returned v) u = true ∧ limb_1_2.after args s (.returned v) u = true ∧ True) → FrameEnd s (.returned v) u (Jvm.fieldLocs frame_1_writes args s ++ Jvm.arrayLocs frame_1_arrays args s ++ Jvm.staticLocs frame_1_statics s) 24 128 → Post tb e args s (.returned v) u) :
    ArmFor flags0 classFile x code maxLocals ret World_1 tables_1 room_1 Calls_1 rest_1 Pre_1 Post := by
  intro l hfl _ _ p e ha hc hk s m args below hf hA hF happ hP
  obtain ⟨hcalls, hrest, hpre⟩ := hP
  obtain ⟨-, -, -, hnamed, -, -, -, hat⟩ := (Spec.applies_iff hf).mp happ
  obtain ⟨hg, hn⟩ := and_e (Cond.before_iff.mp (show (Jvm.Cond.and given_1 narrow_1).before args s = true from hpre))
  obtain ⟨g1, g2⟩ := and_e hg
  obtain ⟨g3, g4⟩ := and_e g2
  obtain ⟨g5, g6⟩ := and_e g4
  obtain ⟨g7, g8⟩ := and_e g6
  obtain ⟨w0, w1, w2, w3, rfl⟩ : ∃ w0 w1 w2 w3 : Value, args = #[w0, w1, w2, w3] := by
    have hs : args.size = 4 := by simpa [Cond.value, given_1] using g1
    obtain ⟨L⟩ := args
    match L, hs with
    | [w0, w1, w2, w3], _ => exact ⟨w0, w1, w2, w3, rfl⟩
  have hw := fun d (hd : d ∈ tables_1) => atoms_spec (ws := Jvm.Cond.code x code maxLocals ret :: tables_1) hat d (List.mem_cons_of_mem _ hd)
  have hfit : Fit s := fun {y c} hc i hi => by
    obtain ⟨ha, rfl⟩ := Array.getElem?_eq_some_iff.mp hc
    have q := List.all_eq_true.mp ((Array.all_eq_true_iff_forall_mem.mp hF) _ (Array.getElem_mem ha)) i (List.mem_range.mpr hi)
    simpa [Array.getElem?_eq_getElem hi] using q
  obtain ⟨i0, ei0⟩ := is_v g3
  obtain rfl : w0 = (.int i0) := Option.some.inj ei0
  obtain ⟨i1, ei1⟩ := is_v g5
  obtain rfl : w1 = (.int i1) := Option.some.inj ei1
  obtain ⟨i2, ei2⟩ := is_v g7
  obtain rfl : w2 = (.int i2) := Option.some.inj ei2
  obtain ⟨i3, ei3⟩ := is_v g8
  obtain rfl : w3 = (.int i3) := Option.some.inj ei3
  obtain ⟨n, o, h1, h2, h3, _, L, rfl, ⟨rfl, N⟩, hq⟩ := rm_law l s _ hw tables_1 i0 i1 i2 i3 s.heap s.heap.size (Nat.le_refl _) p e ha hc hk s m _ below hf ((Spec.applies_iff_loose hf).mp happ).1 ⟨rfl, State.Warmed39.refl s, rfl⟩ trivial
  refine ⟨n, _, h1, h2, h3, hpost _ _ _ _ _ _ ⟨Cond.after_iff.mpr rfl, Cond.after_iff.mpr (eq_i res_at (Term.int_eval (1)) rfl), trivial⟩ ⟨hq.1, hq.2.1, (hq.2.2.sift fun y hy => Or.inr (N y hy)).mono (by decide) (by decide)⟩⟩
theorem main_1_1 : Claimed_1_1 := comes_1 fun _ _ _ _ _ _ h hF => ⟨h.1, hF⟩
theorem main_1_2 : Claimed_1_2 := comes_1 fun _ _ _ _ _ _ h hF => ⟨h.2.1, hF⟩
end Jvm.Pilot.@@N@@
namespace Jvm.Pilot.@@N@@
open Jvm Jvm.ClassFile Sem Op Lib Jvm.Free Jvm.Stand Jvm.Pilot.@@N@@.Jvm.D
/-! MADE BY PROGRAM (witnessworld.py) out of the Statement's table words and the real class files: 12 classes; the members and pool entries that the words name. The judged class is class 1, her method 1. -/
namespace start1
open Jvm.ClassFile
def u (s : String) : CpInfo := .utf8 (stringToUtf16 s)
/-- a pool by its gaps: so many unusable entries, then the entry; so many at the end -/
def gap : Nat → List CpInfo → List CpInfo
  | 0, r => r
  | n + 1, r => .unusable :: gap n r
def poolList (es : List (Nat × CpInfo)) (last : Nat) : List CpInfo := es.foldr (fun e r => gap e.1 (e.2 :: r)) (gap last [])
def pool (es : List (Nat × CpInfo)) (last : Nat) : Array CpInfo := ⟨poolList es last⟩
def fileOf (pool : Array CpInfo) (this : Nat) (attrs : Array Attribute := #[]) (ms : Array MethodInfo := #[]) (fl : Nat := 33) (sup : Nat := 0) (ifs : Array Nat := #[]) (fds : Array FieldInfo := #[]) : ClassFile where
  minorVersion := 0
  majorVersion := 65
  constantPool := pool
  accessFlags := fl
  thisClass := this
  superClass := sup
  interfaces := ifs
  fields := fds
  methods := ms
  attributes := attrs
def plain (name : String) (sup : Option ClassId) : Class where
  name := name
  kind := .ordinary
  loader := none
  accessFlags := 33
  super := sup
  interfaces := #[]
  cf := none
  fields := #[]
  methods := #[]
  instanceTypes := #[]
  staticTypes := #[]
  resolved := #[]
  callSites := []
  init := .initialized
  statics := none
  mirror := none

def pool0 : Array CpInfo := pool [(5, u "<init>"), (0, u "()V"), (1, .class_ 10), (1, u "java/lang/Object")] 113

def k0c0 : Code := { maxStack := 0, maxLocals := 1, code := object_method_1_code, exceptionTable := #[], attributes := #[] }
def k0m0 : Method := { name := "<init>", desc := "()V", sig := { parameters := [], returnType := none }, accessFlags := 1, code := some k0c0 }
/-- java/lang/Object -/
def k0 : Class := { plain "java/lang/Object" none with
  accessFlags := 33
  interfaces := #[]
  cf := some (fileOf pool0 8 #[] #[{ accessFlags := 1, nameIndex := 5, descriptorIndex := 6, attributes := #[] }] 33 0 #[] #[])
  fields := #[]
  methods := #[k0m0]
  instanceTypes := #[]
  staticTypes := #[]
  resolved := Array.replicate 124 none
  statics := none }

def pool1 : Array CpInfo := pool [(2, .class_ 4), (1, u "java/lang/Object"), (0, u "<init>"), (0, u "()V"), (0, .class_ 8), (0, u "com/example/wellform/wellform/cli/ByteBatch"), (0, .methodref 7 10), (0, .nameAndType 5 11), (0, u "(I)V"), (0, .methodref 7 13), (0, .nameAndType 14 15), (0, u "append"), (0, u "(B)Lcom/example/wellform/wellform/cli/ByteBatch;"), (0, .methodref 7 17), (0, .nameAndType 18 19), (0, u "size"), (0, u "()I"), (0, .class_ 21), (0, u "com/example/wellform/wellform/cli/ByteBatchAppendPinLaw"), (2, u "law"), (0, u "(IIII)Z")] 3

def k1m0 : Method := { name := "<init>", desc := "()V", sig := { parameters := [], returnType := none }, accessFlags := 1, code := none }
def k1c1 : Code := { maxStack := 3, maxLocals := 8, code := code, exceptionTable := #[], attributes := #[] }
def k1m1 : Method := { name := "law", desc := "(IIII)Z", sig := { parameters := [.int, .int, .int, .int], returnType := some .boolean }, accessFlags := 9, code := some k1c1 }
/-- com/example/wellform/wellform/cli/ByteBatchAppendPinLaw -/
def k1 : Class := { plain "com/example/wellform/wellform/cli/ByteBatchAppendPinLaw" (some 0) with
  accessFlags := 49
  interfaces := #[]
  cf := some (fileOf pool1 20 #[] #[{ accessFlags := 1, nameIndex := 5, descriptorIndex := 6, attributes := #[] }, { accessFlags := 9, nameIndex := 24, descriptorIndex := 25, attributes := #[] }] 49 2 #[] #[])
  fields := #[]
  methods := #[k1m0, k1m1]
  instanceTypes := #[]
  staticTypes := #[]
  resolved := Array.replicate 29 none
  statics := none }

def pool2 : Array CpInfo := pool [(1, .methodref 2 3), (0, .class_ 4), (0, .nameAndType 5 6), (0, u "java/lang/Object"), (0, u "<init>"), (0, u "()V"), (0, .fieldref 8 9), (0, .class_ 10), (0, .nameAndType 11 12), (0, u "com/example/wellform/wellform/cli/ByteBatch"), (0, u "bytes"), (0, u "[B"), (0, .methodref 8 14), (0, .nameAndType 15 16), (0, u "room"), (0, u "(I)V"), (0, .fieldref 8 18), (0, .nameAndType 19 20), (0, u "size"), (0, u "I"), (2, u "append"), (11, u "(B)Lcom/example/wellform/wellform/cli/ByteBatch;"), (18, u "DIGIT_PAIRS"), (21, u "POWERS_OF_TEN"), (0, u "[J"), (0, .methodref 79 80), (0, .class_ 81), (0, .nameAndType 82 83), (0, u "java/lang/Math"), (0, u "max"), (0, u "(II)I"), (0, .methodref 85 86), (0, .class_ 87), (0, .nameAndType 88 89), (0, u "java/util/Arrays"), (0, u "copyOf"), (0, u "([BI)[B"), (0, u "BYTES_PER_WRITE"), (6, u "()I")] 12

def k2c0 : Code := { maxStack := 2, maxLocals := 2, code := prog_18_method_1_code, exceptionTable := #[], attributes := #[] }
def k2m0 : Method := { name := "<init>", desc := "(I)V", sig := { parameters := [.int], returnType := none }, accessFlags := 0, code := some k2c0 }
def k2c1 : Code := { maxStack := 5, maxLocals := 2, code := prog_18_method_2_code, exceptionTable := #[], attributes := #[] }
def k2m1 : Method := { name := "append", desc := "(B)Lcom/example/wellform/wellform/cli/ByteBatch;", sig := { parameters := [.byte], returnType := some (.object "com/example/wellform/wellform/cli/ByteBatch") }, accessFlags := 0, code := some k2c1 }
def k2c2 : Code := { maxStack := 1, maxLocals := 1, code := prog_18_method_6_code, exceptionTable := #[], attributes := #[] }
def k2m2 : Method := { name := "size", desc := "()I", sig := { parameters := [], returnType := some .int }, accessFlags := 0, code := some k2c2 }
def k2c3 : Code := { maxStack := 5, maxLocals := 2, code := prog_18_method_11_code, exceptionTable := #[], attributes := #[] }
def k2m3 : Method := { name := "room", desc := "(I)V", sig := { parameters := [.int], returnType := none }, accessFlags := 2, code := some k2c3 }
/-- com/example/wellform/wellform/cli/ByteBatch -/
def k2 : Class := { plain "com/example/wellform/wellform/cli/ByteBatch" (some 0) with
  accessFlags := 48
  interfaces := #[]
  cf := some (fileOf pool2 8 #[] #[{ accessFlags := 0, nameIndex := 5, descriptorIndex := 16, attributes := #[] }, { accessFlags := 0, nameIndex := 23, descriptorIndex := 35, attributes := #[] }, { accessFlags := 0, nameIndex := 19, descriptorIndex := 97, attributes := #[] }, { accessFlags := 2, nameIndex := 15, descriptorIndex := 16, attributes := #[] }] 48 2 #[] #[{ accessFlags := 24, nameIndex := 90, descriptorIndex := 20, attributes := #[] }, { accessFlags := 26, nameIndex := 54, descriptorIndex := 12, attributes := #[] }, { accessFlags := 26, nameIndex := 76, descriptorIndex := 77, attributes := #[] }, { accessFlags := 2, nameIndex := 11, descriptorIndex := 12, attributes := #[] }, { accessFlags := 2, nameIndex := 19, descriptorIndex := 20, attributes := #[] }])
  fields := #[{ name := "BYTES_PER_WRITE", type := .int, accessFlags := 24, slot := 0, constantValue := 0 }, { name := "DIGIT_PAIRS", type := (.array .byte), accessFlags := 26, slot := 1, constantValue := 0 }, { name := "POWERS_OF_TEN", type := (.array .long), accessFlags := 26, slot := 2, constantValue := 0 }, { name := "bytes", type := (.array .byte), accessFlags := 2, slot := 0, constantValue := 0 }, { name := "size", type := .int, accessFlags := 2, slot := 1, constantValue := 0 }]
  methods := #[k2m0, k2m1, k2m2, k2m3]
  instanceTypes := #[(.array .byte), .int]
  staticTypes := #[.int, (.array .byte), (.array .long)]
  resolved := Array.replicate 110 none
  statics := none }

def pool3 : Array CpInfo := pool [(1, .class_ 2), (0, u "java/lang/Math"), (1, .class_ 6), (1, u "java/lang/Object"), (0, u "<init>"), (0, u "()V"), (89, .class_ 100), (1, u "java/lang/Math$RandomNumberGeneratorHolder"), (71, u "negativeZeroFloatBits"), (0, u "J"), (2, u "negativeZeroDoubleBits"), (21, u "max"), (2, u "min"), (43, u "$assertionsDisabled"), (0, u "Z"), (88, u "(II)I"), (2, u "twoToTheDoubleScaleDown"), (0, u "D"), (4, u "twoToTheDoubleScaleUp"), (9, u "E"), (3, u "PI"), (2, u "TAU"), (2, u "DEGREES_TO_RADIANS"), (0, u "RADIANS_TO_DEGREES")] 94

def k3m0 : Method := { name := "<init>", desc := "()V", sig := { parameters := [], returnType := none }, accessFlags := 2, code := none }
def k3c1 : Code := { maxStack := 2, maxLocals := 2, code := jdk_29_method_65_code, exceptionTable := #[], attributes := #[] }
def k3m1 : Method := { name := "max", desc := "(II)I", sig := { parameters := [.int, .int], returnType := some .int }, accessFlags := 9, code := some k3c1 }
def k3c2 : Code := { maxStack := 2, maxLocals := 2, code := jdk_29_method_69_code, exceptionTable := #[], attributes := #[] }
def k3m2 : Method := { name := "min", desc := "(II)I", sig := { parameters := [.int, .int], returnType := some .int }, accessFlags := 9, code := some k3c2 }
/-- java/lang/Math -/
def k3 : Class := { plain "java/lang/Math" (some 0) with
  accessFlags := 49
  interfaces := #[]
  cf := some (fileOf pool3 1 #[.nestMembers #[98]] #[{ accessFlags := 2, nameIndex := 7, descriptorIndex := 8, attributes := #[] }, { accessFlags := 9, nameIndex := 198, descriptorIndex := 335, attributes := #[] }, { accessFlags := 9, nameIndex := 201, descriptorIndex := 335, attributes := #[] }] 49 4 #[] #[{ accessFlags := 25, nameIndex := 354, descriptorIndex := 339, attributes := #[] }, { accessFlags := 25, nameIndex := 358, descriptorIndex := 339, attributes := #[] }, { accessFlags := 25, nameIndex := 361, descriptorIndex := 339, attributes := #[] }, { accessFlags := 26, nameIndex := 364, descriptorIndex := 339, attributes := #[] }, { accessFlags := 26, nameIndex := 365, descriptorIndex := 339, attributes := #[] }, { accessFlags := 26, nameIndex := 172, descriptorIndex := 173, attributes := #[] }, { accessFlags := 26, nameIndex := 176, descriptorIndex := 173, attributes := #[] }, { accessFlags := 8, nameIndex := 344, descriptorIndex := 339, attributes := #[] }, { accessFlags := 8, nameIndex := 338, descriptorIndex := 339, attributes := #[] }, { accessFlags := 4120, nameIndex := 245, descriptorIndex := 246, attributes := #[] }])
  fields := #[{ name := "E", type := .double, accessFlags := 25, slot := 0, constantValue := 0 }, { name := "PI", type := .double, accessFlags := 25, slot := 1, constantValue := 0 }, { name := "TAU", type := .double, accessFlags := 25, slot := 2, constantValue := 0 }, { name := "DEGREES_TO_RADIANS", type := .double, accessFlags := 26, slot := 3, constantValue := 0 }, { name := "RADIANS_TO_DEGREES", type := .double, accessFlags := 26, slot := 4, constantValue := 0 }, { name := "negativeZeroFloatBits", type := .long, accessFlags := 26, slot := 5, constantValue := 0 }, { name := "negativeZeroDoubleBits", type := .long, accessFlags := 26, slot := 6, constantValue := 0 }, { name := "twoToTheDoubleScaleUp", type := .double, accessFlags := 8, slot := 7, constantValue := 0 }, { name := "twoToTheDoubleScaleDown", type := .double, accessFlags := 8, slot := 8, constantValue := 0 }, { name := "$assertionsDisabled", type := .boolean, accessFlags := 4120, slot := 9, constantValue := 0 }]
  methods := #[k3m0, k3m1, k3m2]
  instanceTypes := #[]
  staticTypes := #[.double, .double, .double, .double, .double, .long, .long, .double, .double, .boolean]
  resolved := Array.replicate 460 none
  statics := none }

def pool4 : Array CpInfo := pool [(2, .class_ 4), (1, u "java/lang/Object"), (0, u "<init>"), (0, u "()V"), (7, .class_ 16), (1, u "java/util/Arrays"), (57, .class_ 76), (1, u "java/util/Arrays$NaturalOrder"), (36, .class_ 115), (1, u "java/util/Arrays$LegacyMergeSort"), (1, u "Z"), (32, .methodref 151 152), (0, .class_ 153), (0, .nameAndType 154 155), (0, u "java/lang/System"), (0, u "arraycopy"), (0, u "(Ljava/lang/Object;ILjava/lang/Object;II)V"), (146, u "copyOf"), (1, .methodref 305 306), (0, .class_ 307), (0, .nameAndType 308 309), (0, u "java/lang/Math"), (0, u "min"), (0, u "(II)I"), (65, .class_ 376), (0, u "java/util/Arrays$ArrayList"), (68, u "$assertionsDisabled"), (269, u "MIN_ARRAY_SORT_GRAN"), (0, u "I"), (2, u "INSERTIONSORT_THRESHOLD"), (149, u "([BI)[B"), (105, .class_ 976), (0, u "java/util/Arrays$ArrayItr")] 52

def k4m0 : Method := { name := "<init>", desc := "()V", sig := { parameters := [], returnType := none }, accessFlags := 2, code := none }
def k4c1 : Code := { maxStack := 6, maxLocals := 3, code := jdk_65_method_121_code, exceptionTable := #[], attributes := #[] }
def k4m1 : Method := { name := "copyOf", desc := "([BI)[B", sig := { parameters := [(.array .byte), .int], returnType := some (.array .byte) }, accessFlags := 9, code := some k4c1 }
/-- java/util/Arrays -/
def k4 : Class := { plain "java/util/Arrays" (some 0) with
  accessFlags := 49
  interfaces := #[]
  cf := some (fileOf pool4 14 #[.nestMembers #[975, 375, 113, 74]] #[{ accessFlags := 2, nameIndex := 5, descriptorIndex := 6, attributes := #[] }, { accessFlags := 9, nameIndex := 302, descriptorIndex := 869, attributes := #[] }] 49 2 #[] #[{ accessFlags := 26, nameIndex := 715, descriptorIndex := 716, attributes := #[] }, { accessFlags := 26, nameIndex := 719, descriptorIndex := 716, attributes := #[] }, { accessFlags := 4120, nameIndex := 445, descriptorIndex := 117, attributes := #[] }])
  fields := #[{ name := "MIN_ARRAY_SORT_GRAN", type := .int, accessFlags := 26, slot := 0, constantValue := 0 }, { name := "INSERTIONSORT_THRESHOLD", type := .int, accessFlags := 26, slot := 1, constantValue := 0 }, { name := "$assertionsDisabled", type := .boolean, accessFlags := 4120, slot := 2, constantValue := 0 }]
  methods := #[k4m0, k4m1]
  instanceTypes := #[]
  staticTypes := #[.int, .int, .boolean]
  resolved := Array.replicate 1029 none
  statics := none }

def pool5 : Array CpInfo := pool [(2, .class_ 4), (1, u "java/lang/Object"), (0, u "<init>"), (0, u "()V"), (1, .class_ 10), (1, u "java/lang/System"), (0, u "allowSecurityManager"), (0, u "I"), (16, u "cons"), (0, u "Ljava/io/Console;"), (77, .class_ 110), (1, u "java/lang/System$CallersHolder"), (43, u "initialErrStream"), (0, u "Ljava/io/PrintStream;"), (19, u "security"), (0, u "Ljava/lang/SecurityManager;"), (31, .class_ 209), (0, u "java/lang/System$1"), (7, u "props"), (0, u "Ljava/util/Properties;"), (2, u "lineSeparator"), (0, u "Ljava/lang/String;"), (96, .class_ 321), (1, u "java/lang/System$LoggerFinder"), (5, .class_ 328), (0, u "java/lang/System$Logger"), (67, u "err"), (2, u "out"), (91, u "notSupportedJnuEncoding"), (15, u "in"), (17, u "initialIn"), (0, u "Ljava/io/InputStream;"), (35, u "bootLayer"), (0, u "Ljava/lang/ModuleLayer;"), (99, .class_ 664), (0, u "java/lang/System$2"), (9, u "NEVER"), (2, u "MAYBE"), (49, u "arraycopy"), (0, u "(Ljava/lang/Object;ILjava/lang/Object;II)V"), (72, .class_ 802), (0, u "java/lang/System$Logger$Level")] 31

def k5m0 : Method := { name := "<init>", desc := "()V", sig := { parameters := [], returnType := none }, accessFlags := 2, code := none }
def k5m1 : Method := { name := "arraycopy", desc := "(Ljava/lang/Object;ILjava/lang/Object;II)V", sig := { parameters := [(.object "java/lang/Object"), .int, (.object "java/lang/Object"), .int, .int], returnType := none }, accessFlags := 265, code := none }
/-- java/lang/System -/
def k5 : Class := { plain "java/lang/System" (some 0) with
  accessFlags := 49
  interfaces := #[]
  cf := some (fileOf pool5 8 #[.nestMembers #[319, 327, 801, 108, 663, 208]] #[{ accessFlags := 2, nameIndex := 5, descriptorIndex := 6, attributes := #[] }, { accessFlags := 265, nameIndex := 727, descriptorIndex := 728, attributes := #[] }] 49 2 #[] #[{ accessFlags := 25, nameIndex := 507, descriptorIndex := 526, attributes := #[] }, { accessFlags := 25, nameIndex := 399, descriptorIndex := 155, attributes := #[] }, { accessFlags := 25, nameIndex := 396, descriptorIndex := 155, attributes := #[] }, { accessFlags := 10, nameIndex := 525, descriptorIndex := 526, attributes := #[] }, { accessFlags := 26, nameIndex := 674, descriptorIndex := 12, attributes := #[] }, { accessFlags := 26, nameIndex := 677, descriptorIndex := 12, attributes := #[] }, { accessFlags := 10, nameIndex := 11, descriptorIndex := 12, attributes := #[] }, { accessFlags := 74, nameIndex := 175, descriptorIndex := 176, attributes := #[] }, { accessFlags := 10, nameIndex := 491, descriptorIndex := 222, attributes := #[] }, { accessFlags := 74, nameIndex := 29, descriptorIndex := 30, attributes := #[] }, { accessFlags := 74, nameIndex := 154, descriptorIndex := 155, attributes := #[] }, { accessFlags := 10, nameIndex := 217, descriptorIndex := 218, attributes := #[] }, { accessFlags := 10, nameIndex := 221, descriptorIndex := 222, attributes := #[] }, { accessFlags := 8, nameIndex := 562, descriptorIndex := 563, attributes := #[] }])
  fields := #[{ name := "in", type := (.object "java/io/InputStream"), accessFlags := 25, slot := 0, constantValue := 0 }, { name := "out", type := (.object "java/io/PrintStream"), accessFlags := 25, slot := 1, constantValue := 0 }, { name := "err", type := (.object "java/io/PrintStream"), accessFlags := 25, slot := 2, constantValue := 0 }, { name := "initialIn", type := (.object "java/io/InputStream"), accessFlags := 10, slot := 3, constantValue := 0 }, { name := "NEVER", type := .int, accessFlags := 26, slot := 4, constantValue := 0 }, { name := "MAYBE", type := .int, accessFlags := 26, slot := 5, constantValue := 0 }, { name := "allowSecurityManager", type := .int, accessFlags := 10, slot := 6, constantValue := 0 }, { name := "security", type := (.object "java/lang/SecurityManager"), accessFlags := 74, slot := 7, constantValue := 0 }, { name := "notSupportedJnuEncoding", type := (.object "java/lang/String"), accessFlags := 10, slot := 8, constantValue := 0 }, { name := "cons", type := (.object "java/io/Console"), accessFlags := 74, slot := 9, constantValue := 0 }, { name := "initialErrStream", type := (.object "java/io/PrintStream"), accessFlags := 74, slot := 10, constantValue := 0 }, { name := "props", type := (.object "java/util/Properties"), accessFlags := 10, slot := 11, constantValue := 0 }, { name := "lineSeparator", type := (.object "java/lang/String"), accessFlags := 10, slot := 12, constantValue := 0 }, { name := "bootLayer", type := (.object "java/lang/ModuleLayer"), accessFlags := 8, slot := 13, constantValue := 0 }]
  methods := #[k5m0, k5m1]
  instanceTypes := #[]
  staticTypes := #[(.object "java/io/InputStream"), (.object "java/io/PrintStream"), (.object "java/io/PrintStream"), (.object "java/io/InputStream"), .int, .int, .int, (.object "java/lang/SecurityManager"), (.object "java/lang/String"), (.object "java/io/Console"), (.object "java/io/PrintStream"), (.object "java/util/Properties"), (.object "java/lang/String"), (.object "java/lang/ModuleLayer")]
  resolved := Array.replicate 834 none
  statics := none }

def pool6 : Array CpInfo := pool [(1, u "java/lang/Cloneable"), (0, .class_ 1), (0, u "java/lang/Object"), (0, .class_ 3)] 3

/-- java/lang/Cloneable -/
def k6 : Class := { plain "java/lang/Cloneable" (some 0) with
  accessFlags := 1537
  interfaces := #[]
  cf := some (fileOf pool6 2 #[] #[] 1537 4 #[] #[])
  fields := #[]
  methods := #[]
  instanceTypes := #[]
  staticTypes := #[]
  resolved := Array.replicate 8 none
  statics := none }

def pool7 : Array CpInfo := pool [(1, u "java/io/Serializable"), (0, .class_ 1), (0, u "java/lang/Object"), (0, .class_ 3)] 3

/-- java/io/Serializable -/
def k7 : Class := { plain "java/io/Serializable" (some 0) with
  accessFlags := 1537
  interfaces := #[]
  cf := some (fileOf pool7 2 #[] #[] 1537 4 #[] #[])
  fields := #[]
  methods := #[]
  instanceTypes := #[]
  staticTypes := #[]
  resolved := Array.replicate 8 none
  statics := none }

/-- the primitive byte -/
def k8 : Class := { plain "byte" none with kind := .primitive 'B', accessFlags := 0x411 }
/-- [B -/
def k9 : Class := { plain "[B" (some 0) with kind := .array 8 .byte, interfaces := #[6, 7], accessFlags := 1041 }

/-- the primitive int -/
def k10 : Class := { plain "int" none with kind := .primitive 'I', accessFlags := 0x411 }
/-- [I -/
def k11 : Class := { plain "[I" (some 0) with kind := .array 10 .int, interfaces := #[6, 7], accessFlags := 1041 }

def heap : Heap := #[]
def classes : Array Class := #[k0, k1, k2, k3, k4, k5, k6, k7, k8, k9, k10, k11]
def interned : List (Array UInt16 × Addr) := []
def slotsUsed : Nat := 0
def theMethod : MethodId := ⟨1, 1⟩
def args0 : Array Value := #[.int 1, .int 3, .int 7, .int 9]
def aboutOver (below : List Frame) : State where
  vm := { classes := classes, interned := interned.toArray }
  heap := heap
  slotsUsed := slotsUsed
  threads := #[{ frames := .invoking theMethod args0 :: below }]
def below0 : List Frame := [.native { method := ⟨0, 0⟩, args := #[] }]
def about1 : State := aboutOver below0
def p0 : Program := .bare "" "" ""
def e0 : Env := launch0.env 0 0 0
theorem w_frames : about1.frames = Frame.invoking theMethod args0 :: below0 := rfl
set_option maxRecDepth 65536 in
theorem w_args : argsFit about1.vm theMethod args0 = true := by decide +kernel
set_option maxRecDepth 65536 in
theorem w_heap : heapFits about1 = true := by decide +kernel
set_option maxRecDepth 65536 in
theorem w_runnable : about1.curStatus? = some .runnable := by decide +kernel
set_option maxRecDepth 65536 in
theorem w_alone : about1.alone = true := by decide +kernel
set_option maxRecDepth 65536 in
theorem w_named : about1.methodNamed? x = some theMethod := by decide +kernel
set_option maxRecDepth 65536 in
theorem w_hears : about1.hears theMethod below0 = true := by decide +kernel
set_option maxRecDepth 65536 in
theorem w_ripe : about1.ripe theMethod args0 below0 = true := by decide +kernel
theorem w_running : about1.status = .running := rfl
set_option maxRecDepth 65536 in
theorem w_room : about1.hasRoom e0.platform room_1 = true :=
  launch0.hasRoom_least _ room_1 (by decide +kernel) (by decide +kernel) (by decide +kernel) (by decide +kernel) (by decide +kernel) (by decide +kernel)
theorem allAtoms_all (ts : List Jvm.Cond) (a : Array Jvm.Value) (st : Jvm.State) : (allAtoms ts).before a st = ts.all (fun c => c.before a st) := by
  induction ts with
  | nil => rfl
  | cons c t ih =>
    show (Jvm.Cond.and c (allAtoms t)).before a st = _
    rw [Jvm.Cond.before_and, ih, List.all_cons]
def words1 : List Jvm.Cond := Jvm.Cond.code x code maxLocals ret :: tables_1
/-- a 'code' word, met by the world's own term for the bytes: nothing is compared byte by byte -/
theorem code_word {y : MethodName} {bytes : ByteArray} {mx : Nat} {rt : Option FieldType} {a : Array Value} {s : State} {m : MethodId} {meth : Method} {c : Code} (h1 : s.methodNamed? y = some m) (h2 : s.vm.method? m = some meth) (h3 : meth.code = some c) (h4 : c.code = bytes)
    (h5 : (c.maxLocals == mx && c.exceptionTable.isEmpty && decide (c.maxStack ≤ mostOperands) && decide (meth.sig.returnType = rt) && !meth.locks && decide (parseMethodDescriptor y.desc = some meth.sig)) = true) : (Jvm.Cond.code y bytes mx rt).before a s = true := by
  simp only [Bool.and_eq_true, beq_iff_eq, Bool.not_eq_true', decide_eq_true_eq] at h5
  obtain ⟨⟨⟨⟨⟨g1, g2⟩, g3⟩, g4⟩, g5⟩, g6⟩ := h5
  simp [Cond.before, Cond.holds, Cond.value, h1, h2, h3, h4, g1, g2, g3, g4, g5, g6]
def isCode : Jvm.Cond → Bool
  | .code _ _ _ _ => true
  | _ => false
theorem all_split {L : List Jvm.Cond} {P : Jvm.Cond → Bool} (h1 : L.all (fun c => isCode c || P c) = true) (h2 : ∀ c ∈ L.filter isCode, P c = true) : L.all P = true := by
  refine List.all_eq_true.mpr fun c hc => ?_
  have h := List.all_eq_true.mp h1 c hc
  rcases Bool.eq_false_or_eq_true (isCode c) with hi | hi
  · exact h2 c (List.mem_filter.mpr ⟨hc, hi⟩)
  · simpa [hi] using h
set_option maxRecDepth 65536 in
theorem w_c0 : (Jvm.Cond.code x code maxLocals ret).before args0 about1 = true := code_word (m := ⟨1, 1⟩) (meth := k1m1) (c := k1c1) (by decide +kernel) rfl rfl rfl (by decide +kernel)
set_option maxRecDepth 65536 in
theorem w_c1 : (Jvm.Cond.code ({ cls := "com/example/wellform/wellform/cli/ByteBatch", name := "<init>", desc := "(I)V" } : Jvm.MethodName) prog_18_method_1_code (2 : Nat) (Option.none : Option Jvm.ClassFile.FieldType)).before args0 about1 = true := code_word (m := ⟨2, 0⟩) (meth := k2m0) (c := k2c0) (by decide +kernel) rfl rfl rfl (by decide +kernel)
set_option maxRecDepth 65536 in
theorem w_c2 : (Jvm.Cond.code ({ cls := "java/lang/Object", name := "<init>", desc := "()V" } : Jvm.MethodName) object_method_1_code (1 : Nat) (Option.none : Option Jvm.ClassFile.FieldType)).before args0 about1 = true := code_word (m := ⟨0, 0⟩) (meth := k0m0) (c := k0c0) (by decide +kernel) rfl rfl rfl (by decide +kernel)
set_option maxRecDepth 65536 in
theorem w_c3 : (Jvm.Cond.code ({ cls := "com/example/wellform/wellform/cli/ByteBatch", name := "append", desc := "(B)Lcom/example/wellform/wellform/cli/ByteBatch;" } : Jvm.MethodName) prog_18_method_2_code (2 : Nat) (Option.some (Jvm.ClassFile.FieldType.object "com/example/wellform/wellform/cli/ByteBatch"))).before args0 about1 = true := code_word (m := ⟨2, 1⟩) (meth := k2m1) (c := k2c1) (by decide +kernel) rfl rfl rfl (by decide +kernel)
set_option maxRecDepth 65536 in
theorem w_c4 : (Jvm.Cond.code ({ cls := "com/example/wellform/wellform/cli/ByteBatch", name := "room", desc := "(I)V" } : Jvm.MethodName) prog_18_method_11_code (2 : Nat) (Option.none : Option Jvm.ClassFile.FieldType)).before args0 about1 = true := code_word (m := ⟨2, 3⟩) (meth := k2m3) (c := k2c3) (by decide +kernel) rfl rfl rfl (by decide +kernel)
set_option maxRecDepth 65536 in
theorem w_c5 : (Jvm.Cond.code ({ cls := "java/lang/Math", name := "max", desc := "(II)I" } : Jvm.MethodName) jdk_29_method_65_code (2 : Nat) (Option.some Jvm.ClassFile.FieldType.int)).before args0 about1 = true := code_word (m := ⟨3, 1⟩) (meth := k3m1) (c := k3c1) (by decide +kernel) rfl rfl rfl (by decide +kernel)
set_option maxRecDepth 65536 in
theorem w_c6 : (Jvm.Cond.code ({ cls := "java/util/Arrays", name := "copyOf", desc := "([BI)[B" } : Jvm.MethodName) jdk_65_method_121_code (3 : Nat) (Option.some (Jvm.ClassFile.FieldType.array Jvm.ClassFile.FieldType.byte))).before args0 about1 = true := code_word (m := ⟨4, 1⟩) (meth := k4m1) (c := k4c1) (by decide +kernel) rfl rfl rfl (by decide +kernel)
set_option maxRecDepth 65536 in
theorem w_c7 : (Jvm.Cond.code ({ cls := "java/lang/Math", name := "min", desc := "(II)I" } : Jvm.MethodName) jdk_29_method_69_code (2 : Nat) (Option.some Jvm.ClassFile.FieldType.int)).before args0 about1 = true := code_word (m := ⟨3, 2⟩) (meth := k3m2) (c := k3c2) (by decide +kernel) rfl rfl rfl (by decide +kernel)
set_option maxRecDepth 65536 in
theorem w_c8 : (Jvm.Cond.code ({ cls := "com/example/wellform/wellform/cli/ByteBatch", name := "size", desc := "()I" } : Jvm.MethodName) prog_18_method_6_code (1 : Nat) (Option.some Jvm.ClassFile.FieldType.int)).before args0 about1 = true := code_word (m := ⟨2, 2⟩) (meth := k2m2) (c := k2c2) (by decide +kernel) rfl rfl rfl (by decide +kernel)
def codes1 : List Jvm.Cond := [Jvm.Cond.code x code maxLocals ret, Jvm.Cond.code ({ cls := "com/example/wellform/wellform/cli/ByteBatch", name := "<init>", desc := "(I)V" } : Jvm.MethodName) prog_18_method_1_code (2 : Nat) (Option.none : Option Jvm.ClassFile.FieldType), Jvm.Cond.code ({ cls := "java/lang/Object", name := "<init>", desc := "()V" } : Jvm.MethodName) object_method_1_code (1 : Nat) (Option.none : Option Jvm.ClassFile.FieldType), Jvm.Cond.code ({ cls := "com/example/wellform/wellform/cli/ByteBatch", name := "append", desc := "(B)Lcom/example/wellform/wellform/cli/ByteBatch;" } : Jvm.MethodName) prog_18_method_2_code (2 : Nat) (Option.some (Jvm.ClassFile.FieldType.object "com/example/wellform/wellform/cli/ByteBatch")), Jvm.Cond.code ({ cls := "com/example/wellform/wellform/cli/ByteBatch", name := "room", desc := "(I)V" } : Jvm.MethodName) prog_18_method_11_code (2 : Nat) (Option.none : Option Jvm.ClassFile.FieldType), Jvm.Cond.code ({ cls := "java/lang/Math", name := "max", desc := "(II)I" } : Jvm.MethodName) jdk_29_method_65_code (2 : Nat) (Option.some Jvm.ClassFile.FieldType.int), Jvm.Cond.code ({ cls := "java/util/Arrays", name := "copyOf", desc := "([BI)[B" } : Jvm.MethodName) jdk_65_method_121_code (3 : Nat) (Option.some (Jvm.ClassFile.FieldType.array Jvm.ClassFile.FieldType.byte)), Jvm.Cond.code ({ cls := "java/lang/Math", name := "min", desc := "(II)I" } : Jvm.MethodName) jdk_29_method_69_code (2 : Nat) (Option.some Jvm.ClassFile.FieldType.int), Jvm.Cond.code ({ cls := "com/example/wellform/wellform/cli/ByteBatch", name := "size", desc := "()I" } : Jvm.MethodName) prog_18_method_6_code (1 : Nat) (Option.some Jvm.ClassFile.FieldType.int)]
set_option maxRecDepth 65536 in
theorem codes_eq : words1.filter isCode = codes1 := rfl
theorem w_codes : ∀ c ∈ words1.filter isCode, c.before args0 about1 = true := by
  rw [codes_eq]
  intro c hc
  simp only [codes1, List.mem_cons, List.not_mem_nil, or_false] at hc
  rcases hc with rfl | rfl | rfl | rfl | rfl | rfl | rfl | rfl | rfl
  · exact w_c0
  · exact w_c1
  · exact w_c2
  · exact w_c3
  · exact w_c4
  · exact w_c5
  · exact w_c6
  · exact w_c7
  · exact w_c8
set_option maxRecDepth 65536 in
theorem w_t1 : (words1.take 24).all (fun c => isCode c || c.before args0 about1) = true := by decide +kernel
set_option maxRecDepth 65536 in
theorem w_t2 : (words1.drop 24).all (fun c => isCode c || c.before args0 about1) = true := by decide +kernel
theorem w_tables : (allAtoms (Jvm.Cond.code x code maxLocals ret :: tables_1)).before args0 about1 = true := by
  rw [allAtoms_all]
  show words1.all (fun c => c.before args0 about1) = true
  refine all_split ?_ w_codes
  rw [← List.take_append_drop 24 words1, List.all_append, w_t1, w_t2]
  rfl
set_option maxRecDepth 65536 in
theorem w_case : (Jvm.Cond.and given_1 narrow_1).before args0 about1 = true := by decide +kernel
theorem w_applies : (headSpec (Jvm.Cond.code x code maxLocals ret :: tables_1) room_1).applies x e0.platform about1 = true :=
  (Spec.applies_iff w_frames).mpr ⟨w_running, w_runnable, w_alone, w_named, w_hears, w_ripe, w_room, w_tables⟩
theorem atStart : AtStart classFile x code maxLocals ret World_1 tables_1 room_1 Calls_1 rest_1 Pre_1 launch0 p0 e0 about1 theMethod args0 below0 :=
  ⟨lists_1, trivial, launch0.admits_env _ _ _, launch0.least_env, fairChoices_fair.cas, fairChoices_fair.clock, w_frames, w_args, w_heap, w_applies, trivial, trivial, w_case⟩
end start1
theorem witness_1 : WitnessClaimed_1 := ⟨start1.p0, start1.e0, start1.about1, start1.theMethod, start1.args0, start1.below0, start1.atStart⟩
end Jvm.Pilot.@@N@@
