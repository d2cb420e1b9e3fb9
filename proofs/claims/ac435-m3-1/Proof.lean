import JvmDerived
import JvmDerived.Pilot.@@N@@Statement
import JvmDerived.Pilot.@@N@@Code
set_option linter.unusedVariables false
set_option linter.unusedSimpArgs false
namespace Jvm.RoadKit
open Sem ClassFile Op Lib Jvm.Stand Jvm.Free Jvm.LawKit
section New
variable {p : Program} {l : Launch} {e : Env} {R : Room} {s : State} {m : MethodId} {args : Array Value} {below : List Frame} {meth : Method} {c : Code} {T : State} {locs : List Loc} {cells slots : Nat}
theorem retI (X : Stand p l e R s m args below meth c T locs cells slots) (hx : p.tables.exec = Jvm.exec) {pc : Nat} {Ls : Array Slot} {z : Int32} {rest : List Value} (hret : meth.sig.returnType = some .int) (hd : decode c.code pc = .ok (.ireturn, 1)) {fs : List Frame}
    (hl : ∀ (f : JFrame) (acts : List Action), f.method = m → f.locked = none → f.entered = [] → (doReturn e (T.setTop f) acts (some (.int z))).1 = T.setFrames fs) : Steps p.tables e below (T.setTop (mkF m pc Ls (.int z :: rest))) (T.setFrames fs) := by
  have hm' : T.vm.method? m = some meth := X.method'
  have hn : narrow .int (.int z) = .int z := rfl
  show Steps p.tables e below (T.setTop { method := m, pc := pc, locals := Ls, stack := _ :: rest, locked := none }) _
  jvm_step X.here [X.here.top, hx, hd, hm', hret, hn]
  first | (intro acts; rw [hl _ acts rfl rfl rfl]) | rw [hl _ _ rfl rfl rfl]
  exact Steps.refl _
end New
end Jvm.RoadKit
namespace Jvm.Pilot.@@N@@
open Jvm Jvm.ClassFile Sem Op Lib Jvm.Free Jvm.Stand Jvm.LawKit Jvm.RoadKit Bundle Jvm.Pilot.@@N@@.Jvm.D
theorem own_lmod (x y : Int64) (hx : 0 ≤ x.toInt) : (x % y).toInt = x.toInt % y.toInt := by
  rw [Int64.toInt_mod]; exact Int.tmod_eq_emod_of_nonneg hx
theorem own_imod (x y : Int32) (hx : 0 ≤ x.toInt) : (x % y).toInt = x.toInt % y.toInt := by
  rw [Int32.toInt_mod]; exact Int.tmod_eq_emod_of_nonneg hx
theorem own_lmod_rng (x y : Int64) (hx : 0 ≤ x.toInt) (hy : 0 < y.toInt) : 0 ≤ (x % y).toInt ∧ (x % y).toInt < y.toInt := by
  rw [own_lmod x y hx]; exact ⟨Int.emod_nonneg _ (by omega), Int.emod_lt_of_pos _ hy⟩
theorem own_imod_rng (x y : Int32) (hx : 0 ≤ x.toInt) (hy : 0 < y.toInt) : 0 ≤ (x % y).toInt ∧ (x % y).toInt < y.toInt := by
  rw [own_imod x y hx]; exact ⟨Int.emod_nonneg _ (by omega), Int.emod_lt_of_pos _ hy⟩
theorem own_mI (x : Int32) : 0 ≤ (x &&& (2147483647 : Int32)).toInt ∧ (x &&& (2147483647 : Int32)).toInt ≤ 2147483647 := by
  have h := c_and x 2147483647 (by decide)
  have e : (2147483647 : Int32).toInt = 2147483647 := by decide
  omega
theorem own_mL (x : Int64) : 0 ≤ (x &&& (9223372036854775807 : Int64)).toInt ∧ (x &&& (9223372036854775807 : Int64)).toInt ≤ 9223372036854775807 := by
  have h := (c_andSL x 9223372036854775807).2.2 (by decide)
  have := rng64 (x &&& (9223372036854775807 : Int64))
  omega
theorem own_nz32 {x : Int32} (h : 0 < x.toInt) : ¬ (x = (0 : Int32)) := fun e => by subst e; revert h; decide
theorem own_nz64 {x : Int64} (h : 0 < x.toInt) : ¬ (x = (0 : Int64)) := fun e => by subst e; revert h; decide
theorem own_lt32 {x y : Int32} : x < y ↔ x.toInt < y.toInt := Int32.lt_iff_toInt_lt
theorem own_lt64 {x y : Int64} : x < y ↔ x.toInt < y.toInt := Int64.lt_iff_toInt_lt
theorem own_eq32 {x y : Int32} (h : x.toInt = y.toInt) : x = y := Int32.toInt_inj.mp h
theorem own_eq64 {x y : Int64} (h : x.toInt = y.toInt) : x = y := Int64.toInt_inj.mp h
def own_at (vs : List Value) (i : Nat) (d : Value) : Int32 := match vs.getD i d with | .int x => x | _ => 0
theorem own_at_eq {vs : List Value} {i : Nat} {d : Value} {ty : FieldType} (h : fits ty (vs.getD i d) = true) (ht : ty = .int ∨ ty = .boolean ∨ ty = .byte ∨ ty = .char ∨ ty = .short) : vs.getD i d = .int (own_at vs i d) := by
  obtain ⟨x, hx⟩ := fit_I h ht
  simp only [own_at, hx]
def own_cp (vd vs : List Value) (dv : Value) (dp sp nn : Nat) : List Value := vd.take dp ++ ((List.range nn).map fun i => vs.getD (sp + i) dv) ++ vd.drop (dp + nn)
theorem own_conv {Z : State} {h : Heap} {a : Addr} {k : ClassId} {ty : FieldType} {n : Int32} {vs vs' : List Value} {d : Value} (F : Arv Z h a k ty n vs d) (q : ∀ i, i < n.toNatClampNeg → vs'.getD i d = vs.getD i d) : Arv Z h a k ty n vs' d := by
  obtain ⟨c, A, q1, S, q3, H, G⟩ := F
  exact ⟨c, A, q1, S, q3, fun i hi => by rw [q i (S ▸ hi)]; exact H i hi, fun i hi => by rw [q i (S ▸ hi)]; exact G i hi⟩
theorem own_mono {l : Launch} {y : MethodName} {S : Spec} {P : Array Value → State → Prop} {K : Program → Env → List Frame → State → Array Value → Prop} {Q Q' : Array Value → State → Outcome → State → Prop} (h : MetFree l y S P K Q) (hi : ∀ a U o U', Q a U o U' → Q' a U o U') : MetFree l y S P K Q' :=
  fun p e ha hc hk s m args below hf happ hP hK => by
    obtain ⟨n, o, h1, h2, h3, hq⟩ := h p e ha hc hk s m args below hf happ hP hK
    exact ⟨n, o, h1, h2, h3, hi _ _ _ _ hq⟩
theorem own_sta_keep {Z : State} {h h' : Heap} {C n d : String} {v : Value} {ws : List Addr} (F : Sta Z h C n d v) (K : Keep h h' ws) (q : ∀ x ∈ ws, ∃ c : Cell, h[x]? = some c ∧ c.vm.isStatics = false) : Sta Z h' C n d v := by
  obtain ⟨cf, i, k, f, st, cell, h1, h2, h3, h4, h5, h6, h7⟩ := F
  refine ⟨cf, i, k, f, st, cell, h1, h2, h3, h4, K.2.1 st cell h5 (fun hm => ?_), h6, h7⟩
  obtain ⟨c, e1, e2⟩ := q st hm
  cases e1.symm.trans h5
  rw [h6] at e2; cases e2
theorem own_plain_cell {Z : State} {h : Heap} {a : Addr} {C : String} (E : Exa Z h a C) : ∃ c : Cell, h[a]? = some c ∧ c.vm.isStatics = false := by
  obtain ⟨cell, k, h1, -, -, h4, -⟩ := E
  exact ⟨cell, h1, h4⟩
theorem own_arrAt {s : State} {a : Addr} {c cl : Cell} (hc : s.heap[a]? = some cl) (ha : s.arrayAt? a = some c) : c = cl := by
  simp only [State.arrayAt?, Option.bind_eq_bind, Option.bind_eq_some_iff] at ha
  obtain ⟨c', h1, k, -, h3⟩ := ha
  cases hc.symm.trans h1
  split at h3
  · cases h3
  · split at h3
    · exact (Option.some.inj h3).symm
    · cases h3
theorem own_len {s : State} {args : Array Value} {t : Jvm.Term} {a : Addr} {cl : Cell} {z : Int32} (hc : s.heap[a]? = some cl) (ht : t.eval args s none [] s = some (.ref a)) (h : (Jvm.Term.length t).eval args s none [] s = some (.int z)) : cl.slots.size < 2 ^ 31 ∧ cl.slots.size.toInt32 = z := by
  simp only [Term.eval, Option.bind_eq_bind, ht, Option.bind_some] at h
  cases ha : s.arrayAt? a with
  | none => simp [ha] at h
  | some c =>
    have hcc := own_arrAt hc ha
    subst hcc
    simp only [ha, Option.bind_some] at h
    split at h
    · rename_i q; exact ⟨q, Value.int.inj (Option.some.inj h)⟩
    · cases h
theorem own_arvStart {s : State} {args : Array Value} {t : Jvm.Term} {ty : FieldType} {z : Int32} {vs : List Value} {dv : Value} (hf : Fit s) (ha : (Jvm.Cond.arrayOf t ty).value args s none s [] = some true) (hl : (Jvm.Cond.eq (Jvm.Term.length t) (.int z)).value args s none s [] = some true)
    (hz : ¬ z < 0) (hn : z.toNatClampNeg = vs.length) (H : ∀ a cl, t.eval args s none [] s = some (.ref a) → s.heap[a]? = some cl → HasL cl 0 vs) : ∃ a k, t.eval args s none [] s = some (.ref a) ∧ Arv s s.heap a k ty z vs dv := by
  obtain ⟨a, ht⟩ := arr_v ha
  obtain ⟨cl, A⟩ := Arr.start ht ha
  have el := eqv_i (Term.int_eval z) hl
  obtain ⟨q1, q2⟩ := own_len A.1 ht el
  exact ⟨a, _, ht, Arv.start hf A q1 q2 hz hn (H a cl ht A.1)⟩
theorem own_elI {s : State} {args : Array Value} {t : Jvm.Term} {a : Addr} {cl : Cell} {j x : Int32} (h : (Jvm.Cond.eq (Jvm.Term.elem t (.int j)) (.int x)).value args s none s [] = some true) (ht : t.eval args s none [] s = some (.ref a)) (hc : s.heap[a]? = some cl) : cl.slots[j.toNatClampNeg]? = some (.int x) :=
  (elem_in (eqv_i (Term.int_eval x) h) ht (Term.int_eval j) hc).2
theorem own_eqR {s : State} {args : Array Value} {t u : Jvm.Term} {a : Addr} (hu : u.eval args s none [] s = some (.ref a)) (h : (Jvm.Cond.eq t u).value args s none s [] = some true) : t.eval args s none [] s = some (.ref a) := by
  obtain ⟨x, y, e1, e2, k1, k2⟩ := cmp_v (Or.inl h)
  cases hu.symm.trans e2
  have hk : x.isRef = true := by simpa [Kin, Value.isRef] using k2
  have := gotT (eq_R e1 hu hk rfl) h
  rw [e1, this]
theorem own_elR {s : State} {args : Array Value} {t u : Jvm.Term} {a b : Addr} {cl : Cell} {j : Int32} (h : (Jvm.Cond.eq (Jvm.Term.elem t (.int j)) u).value args s none s [] = some true) (hu : u.eval args s none [] s = some (.ref b)) (ht : t.eval args s none [] s = some (.ref a)) (hc : s.heap[a]? = some cl) : cl.slots[j.toNatClampNeg]? = some (.ref b) :=
  (elem_in (own_eqR hu h) ht (Term.int_eval j) hc).2
theorem own_fldStart {s : State} {args : Array Value} {t : Jvm.Term} {a : Addr} {C n d : String} {v : Value} (ht : t.eval args s none [] s = some (.ref a)) (h : (Jvm.Term.field t C n d).eval args s none [] s = some v) : Fld s s.heap a C n d v := Fld.start ((fld_at ht).symm.trans h)
theorem d5_0 : decode jdk_52_method_21_code 0 = .ok (.iconst 0, 1) := by decide +kernel
theorem d5_1 : decode jdk_52_method_21_code 1 = .ok (.istore 5, 2) := by decide +kernel
theorem d5_3 : decode jdk_52_method_21_code 3 = .ok (.iload 5, 2) := by decide +kernel
theorem d5_5 : decode jdk_52_method_21_code 5 = .ok (.iload 4, 2) := by decide +kernel
theorem d5_7 : decode jdk_52_method_21_code 7 = .ok (.if_icmp .ge 37, 3) := by decide +kernel
theorem d5_10 : decode jdk_52_method_21_code 10 = .ok (.aload_n 0, 1) := by decide +kernel
theorem d5_11 : decode jdk_52_method_21_code 11 = .ok (.iload_n 1, 1) := by decide +kernel
theorem d5_12 : decode jdk_52_method_21_code 12 = .ok (.caload, 1) := by decide +kernel
theorem d5_13 : decode jdk_52_method_21_code 13 = .ok (.istore 6, 2) := by decide +kernel
theorem d5_15 : decode jdk_52_method_21_code 15 = .ok (.iload 6, 2) := by decide +kernel
theorem d5_17 : decode jdk_52_method_21_code 17 = .ok (.sipush 255, 3) := by decide +kernel
theorem d5_20 : decode jdk_52_method_21_code 20 = .ok (.if_icmp .le 6, 3) := by decide +kernel
theorem d5_26 : decode jdk_52_method_21_code 26 = .ok (.aload_n 2, 1) := by decide +kernel
theorem d5_27 : decode jdk_52_method_21_code 27 = .ok (.iload_n 3, 1) := by decide +kernel
theorem d5_28 : decode jdk_52_method_21_code 28 = .ok (.iload 6, 2) := by decide +kernel
theorem d5_30 : decode jdk_52_method_21_code 30 = .ok (.i2b, 1) := by decide +kernel
theorem d5_31 : decode jdk_52_method_21_code 31 = .ok (.bastore, 1) := by decide +kernel
theorem d5_32 : decode jdk_52_method_21_code 32 = .ok (.iinc 1 1, 3) := by decide +kernel
theorem d5_35 : decode jdk_52_method_21_code 35 = .ok (.iinc 3 1, 3) := by decide +kernel
theorem d5_38 : decode jdk_52_method_21_code 38 = .ok (.iinc 5 1, 3) := by decide +kernel
theorem d5_41 : decode jdk_52_method_21_code 41 = .ok (.goto (-38), 3) := by decide +kernel
theorem d5_44 : decode jdk_52_method_21_code 44 = .ok (.iload 4, 2) := by decide +kernel
theorem d5_46 : decode jdk_52_method_21_code 46 = .ok (.ireturn, 1) := by decide +kernel
theorem pn_java_lang_StringUTF16 : plainName "java/lang/StringUTF16" = true := by first | (simp [plainName, overriddenIn]; done) | decide +kernel
theorem ef_5_RIRII (m : MethodId) (x0 : Addr) (x1 : Int32) (x2 : Addr) (x3 : Int32) (x4 : Int32) : entryFrame m #[(.ref x0), (.int x1), (.ref x2), (.int x3), (.int x4)] 7 = mkF m 0 #[.val (.ref x0), .val (.int x1), .val (.ref x2), .val (.int x3), .val (.int x4), .unset, .unset] [] := by first | (simp [entryFrame, mkF, argsToLocals, Value.category]; done) | rfl
def Q_compB (Z : State) (a1 : Addr) (a3 : Addr) (k_a1 : ClassId) (k_a3 : ClassId) (h0 : Heap) (n0 : Nat) (v : Option Value) (h : Heap) (L : List Loc) : Prop := v = some (.int (3 : Int32)) ∧ Fr n0 L ∧ Keep h0 h [a3] ∧ Exa Z h a3 "[B" ∧ Arv Z h a3 k_a3 .byte (3 : Int32) [(.int (98 : Int32)), (.int (117 : Int32)), (.int (121 : Int32))] (.int (0 : Int32))
set_option maxRecDepth 65536 in
set_option maxHeartbeats 40000000 in
theorem rm_compB (l : Launch) (Z : State) (a0 : Array Value) (hw : ∀ d ∈ tables_1, d.before a0 Z = true) (ws : List Jvm.Cond) (a1 : Addr) (a3 : Addr) (k_a1 : ClassId) (k_a3 : ClassId) (h0 : Heap) (n0 : Nat) (Z0 : n0 ≤ h0.size) (E_a1 : Exa Z h0 a1 "[C") (E_a3 : Exa Z h0 a3 "[B") (V_a1 : Arv Z h0 a1 k_a1 .char (3 : Int32) [(.int (98 : Int32)), (.int (117 : Int32)), (.int (121 : Int32))] (.int (0 : Int32))) (V_a3 : Arv Z h0 a3 k_a3 .byte (3 : Int32) [(.int (0 : Int32)), (.int (0 : Int32)), (.int (0 : Int32))] (.int (0 : Int32))) (g_a3 : n0 ≤ a3) :
    MetFree l (⟨"java/lang/StringUTF16", "compress", "([CI[BII)I"⟩ : MethodName) (head1 (Jvm.Cond.code (⟨"java/lang/StringUTF16", "compress", "([CI[BII)I"⟩ : MethodName) jdk_52_method_21_code 7 (some .int) :: ws) ({ frames := 0, cells := 0, slots := 0, locals := 0 } : Room)) (fun a U => a = #[(.ref a1), (.int (0 : Int32)), (.ref a3), (.int (0 : Int32)), (.int (3 : Int32))] ∧ Z.Warmed39 U.vm ∧ U.heap = h0) (fun _ _ _ _ _ => True) (fun _ U o U' => ∃ v L, o = .returned v ∧ Q_compB Z a1 a3 k_a1 k_a3 h0 n0 v U'.heap L ∧ FrameEnd U o U' L ({ frames := 0, cells := 0, slots := 0, locals := 0 } : Room).cells ({ frames := 0, cells := 0, slots := 0, locals := 0 } : Room).slots) := by
  refine MetFree.of_bodySF (plainFor_of_name pn_java_lang_StringUTF16) hisR ?_
  intro p e s m args below meth c s₁ Bd hml0 hP hK
  obtain ⟨rfl, hZ, hh⟩ := hP
  have hx := Bd.exec
  have hby := Bd.bytes
  have hml : c.maxLocals = 7 := hml0
  have hown : s.vm.findClass "java/lang/StringUTF16" = some m.cls := findClass_of_methodNamed Bd.named
  have hnm := (name_of_methodNamed Bd.named Bd.method).1
  have X0 : Stand p l e ({ frames := 0, cells := 0, slots := 0, locals := 0 } : Room) s m #[(.ref a1), (.int (0 : Int32)), (.ref a3), (.int (0 : Int32)), (.int (3 : Int32))] below meth c s₁ [] 0 0 := Stand.of_body Bd
  have e0 : s₁.heap = h0 := by rw [← hh, Bd.state]; rfl
  have N0 := Fr.nil n0
  have pre0 : ∀ t, Steps p.tables e below (s₁.setTop (mkF m 0 #[.val (.ref a1), .val (.int (0 : Int32)), .val (.ref a3), .val (.int (0 : Int32)), .val (.int (3 : Int32)), .unset, .unset] [])) t → Steps p.tables e below (s₁.setTop (entryFrame m #[(.ref a1), (.int (0 : Int32)), (.ref a3), (.int (0 : Int32)), (.int (3 : Int32))] 7)) t := fun t k => castTop (ef_5_RIRII m a1 (0 : Int32) a3 (0 : Int32) (3 : Int32)) k
  obtain ⟨clo1, Aro1, qo1, So1, No1, Ho1, Go1⟩ := id V_a1
  have hino1 : ¬ ((0 : Int32) < 0 ∨ clo1.slots.size ≤ ((0 : Int32)).toNatClampNeg) := inb_of So1 ⟨by decide, by decide⟩
  obtain ⟨clo2, Aro2, qo2, So2, No2, Ho2, Go2⟩ := id V_a3
  have hino2 : ¬ ((0 : Int32) < 0 ∨ clo2.slots.size ≤ ((0 : Int32)).toNatClampNeg) := inb_of So2 ⟨by decide, by decide⟩
  obtain ⟨T3, h3, X3, e3, W3, st3⟩ := stB X0 hx hZ e0 Aro2 (j := (0 : Int32)) hino2 (g := (mkF m 31 #[.val (.ref a1), .val (.int (0 : Int32)), .val (.ref a3), .val (.int (0 : Int32)), .val (.int (3 : Int32)), .val (.int (0 : Int32)), .val (.int (98 : Int32))] [(.int (98 : Int32)), (.int (0 : Int32)), (.ref a3)])) rfl rfl (hb hby d5_31)
  have f4 : Arv Z h3 a3 k_a3 .byte (3 : Int32) [(.int (98 : Int32)), (.int (0 : Int32)), (.int (0 : Int32))] (.int (0 : Int32)) := Arv.set Aro2 qo2 So2 No2 Ho2 Go2 (fits_nar_byte _) W3 0 rfl (by decide)
  have ne_a1_a3 : a1 ≠ a3 := ne_exa E_a1 E_a3 (by decide)
  have f5 : Exa Z h3 a1 "[C" := E_a1.wr W3
  have f6 : Exa Z h3 a3 "[B" := E_a3.wr W3
  have f7 : Arv Z h3 a1 k_a1 .char (3 : Int32) [(.int (98 : Int32)), (.int (117 : Int32)), (.int (121 : Int32))] (.int (0 : Int32)) := V_a1.other W3 ne_a1_a3
  have K8 : Keep h0 h3 [a3] := (Keep.refl h0 [a3]).wr W3 (Or.inl (List.mem_of_getElem? (i := 0) rfl))
  have N9 := Fr.snoc X3 N0 g_a3
  have Zs10 : n0 ≤ h3.size := Nat.le_trans Z0 (Keep.of_wr W3).1
  obtain ⟨clo11, Aro11, qo11, So11, No11, Ho11, Go11⟩ := id f7
  have hino11 : ¬ ((1 : Int32) < 0 ∨ clo11.slots.size ≤ ((1 : Int32)).toNatClampNeg) := inb_of So11 ⟨by decide, by decide⟩
  obtain ⟨clo12, Aro12, qo12, So12, No12, Ho12, Go12⟩ := id f4
  have hino12 : ¬ ((1 : Int32) < 0 ∨ clo12.slots.size ≤ ((1 : Int32)).toNatClampNeg) := inb_of So12 ⟨by decide, by decide⟩
  obtain ⟨T13, h13, X13, e13, W13, st13⟩ := stB X3 hx hZ e3 Aro12 (j := (1 : Int32)) hino12 (g := (mkF m 31 #[.val (.ref a1), .val (.int (1 : Int32)), .val (.ref a3), .val (.int (1 : Int32)), .val (.int (3 : Int32)), .val (.int (1 : Int32)), .val (.int (117 : Int32))] [(.int (117 : Int32)), (.int (1 : Int32)), (.ref a3)])) rfl rfl (hb hby d5_31)
  have f14 : Arv Z h13 a3 k_a3 .byte (3 : Int32) [(.int (98 : Int32)), (.int (117 : Int32)), (.int (0 : Int32))] (.int (0 : Int32)) := Arv.set Aro12 qo12 So12 No12 Ho12 Go12 (fits_nar_byte _) W13 1 rfl (by decide)
  have f15 : Exa Z h13 a1 "[C" := f5.wr W13
  have f16 : Exa Z h13 a3 "[B" := f6.wr W13
  have f17 : Arv Z h13 a1 k_a1 .char (3 : Int32) [(.int (98 : Int32)), (.int (117 : Int32)), (.int (121 : Int32))] (.int (0 : Int32)) := f7.other W13 ne_a1_a3
  have K18 : Keep h0 h13 [a3] := K8.wr W13 (Or.inl (List.mem_of_getElem? (i := 0) rfl))
  have N19 := Fr.snoc X13 N9 g_a3
  have Zs20 : n0 ≤ h13.size := Nat.le_trans Zs10 (Keep.of_wr W13).1
  obtain ⟨clo21, Aro21, qo21, So21, No21, Ho21, Go21⟩ := id f17
  have hino21 : ¬ ((2 : Int32) < 0 ∨ clo21.slots.size ≤ ((2 : Int32)).toNatClampNeg) := inb_of So21 ⟨by decide, by decide⟩
  obtain ⟨clo22, Aro22, qo22, So22, No22, Ho22, Go22⟩ := id f14
  have hino22 : ¬ ((2 : Int32) < 0 ∨ clo22.slots.size ≤ ((2 : Int32)).toNatClampNeg) := inb_of So22 ⟨by decide, by decide⟩
  obtain ⟨T23, h23, X23, e23, W23, st23⟩ := stB X13 hx hZ e13 Aro22 (j := (2 : Int32)) hino22 (g := (mkF m 31 #[.val (.ref a1), .val (.int (2 : Int32)), .val (.ref a3), .val (.int (2 : Int32)), .val (.int (3 : Int32)), .val (.int (2 : Int32)), .val (.int (121 : Int32))] [(.int (121 : Int32)), (.int (2 : Int32)), (.ref a3)])) rfl rfl (hb hby d5_31)
  have f24 : Arv Z h23 a3 k_a3 .byte (3 : Int32) [(.int (98 : Int32)), (.int (117 : Int32)), (.int (121 : Int32))] (.int (0 : Int32)) := Arv.set Aro22 qo22 So22 No22 Ho22 Go22 (fits_nar_byte _) W23 2 rfl (by decide)
  have f25 : Exa Z h23 a1 "[C" := f15.wr W23
  have f26 : Exa Z h23 a3 "[B" := f16.wr W23
  have f27 : Arv Z h23 a1 k_a1 .char (3 : Int32) [(.int (98 : Int32)), (.int (117 : Int32)), (.int (121 : Int32))] (.int (0 : Int32)) := f17.other W23 ne_a1_a3
  have K28 : Keep h0 h23 [a3] := K18.wr W23 (Or.inl (List.mem_of_getElem? (i := 0) rfl))
  have N29 := Fr.snoc X23 N19 g_a3
  have Zs30 : n0 ≤ h23.size := Nat.le_trans Zs20 (Keep.of_wr W23).1
  obtain ⟨fs, hr, hrun, hended, hW, hsame⟩ := X23.leave (v := some (.int (3 : Int32))) (fun h => by rw [Bd.returns] at h; cases h) Bd.notSynchronized
  refine ⟨_, _, pre0 _ ?_, hrun, hended, _, _, rfl, ?_, ⟨_, rfl⟩, hW, hsame.mono (by decide) (by decide)⟩
  · show Steps p.tables e below (s₁.setTop (mkF m 0 #[.val (.ref a1), .val (.int (0 : Int32)), .val (.ref a3), .val (.int (0 : Int32)), .val (.int (3 : Int32)), .unset, .unset] [])) _
    refine XS.iconst X0.here hx rfl (hb hby d5_0) ?_
    show Steps p.tables e below (s₁.setTop (mkF m 1 #[.val (.ref a1), .val (.int (0 : Int32)), .val (.ref a3), .val (.int (0 : Int32)), .val (.int (3 : Int32)), .unset, .unset] [(.int (0 : Int32))])) _
    refine XS.istore X0.here hx rfl (hb hby d5_1) rfl (l' := #[.val (.ref a1), .val (.int (0 : Int32)), .val (.ref a3), .val (.int (0 : Int32)), .val (.int (3 : Int32)), .val (.int (0 : Int32)), .unset]) rfl ?_
    show Steps p.tables e below (s₁.setTop (mkF m 3 #[.val (.ref a1), .val (.int (0 : Int32)), .val (.ref a3), .val (.int (0 : Int32)), .val (.int (3 : Int32)), .val (.int (0 : Int32)), .unset] [])) _
    refine XS.iload X0.here hx rfl (hb hby d5_3) rfl ?_
    show Steps p.tables e below (s₁.setTop (mkF m 5 #[.val (.ref a1), .val (.int (0 : Int32)), .val (.ref a3), .val (.int (0 : Int32)), .val (.int (3 : Int32)), .val (.int (0 : Int32)), .unset] [(.int (0 : Int32))])) _
    refine XS.iload X0.here hx rfl (hb hby d5_5) rfl ?_
    show Steps p.tables e below (s₁.setTop (mkF m 7 #[.val (.ref a1), .val (.int (0 : Int32)), .val (.ref a3), .val (.int (0 : Int32)), .val (.int (3 : Int32)), .val (.int (0 : Int32)), .unset] [(.int (3 : Int32)), (.int (0 : Int32))])) _
    refine XS.icmpNo X0.here hx rfl (hb hby d5_7) rfl (tlt (by decide : (0 : Int32) < (3 : Int32))).2.1 ?_
    show Steps p.tables e below (s₁.setTop (mkF m 10 #[.val (.ref a1), .val (.int (0 : Int32)), .val (.ref a3), .val (.int (0 : Int32)), .val (.int (3 : Int32)), .val (.int (0 : Int32)), .unset] [])) _
    refine XS.aloadN X0.here hx rfl (hb hby d5_10) rfl rfl ?_
    show Steps p.tables e below (s₁.setTop (mkF m 11 #[.val (.ref a1), .val (.int (0 : Int32)), .val (.ref a3), .val (.int (0 : Int32)), .val (.int (3 : Int32)), .val (.int (0 : Int32)), .unset] [(.ref a1)])) _
    refine XS.iloadN X0.here hx rfl (hb hby d5_11) rfl ?_
    show Steps p.tables e below (s₁.setTop (mkF m 12 #[.val (.ref a1), .val (.int (0 : Int32)), .val (.ref a3), .val (.int (0 : Int32)), .val (.int (3 : Int32)), .val (.int (0 : Int32)), .unset] [(.int (0 : Int32)), (.ref a1)])) _
    refine X0.caload hx (j := (0 : Int32)) (v := (.int (98 : Int32))) (by rw [e0]; exact Aro1.1) (State.isArrayOf_alike hZ.alike Aro1.2.1) Aro1.2.2 hino1 (Ho1.at hino1 rfl) (g := (mkF m 12 #[.val (.ref a1), .val (.int (0 : Int32)), .val (.ref a3), .val (.int (0 : Int32)), .val (.int (3 : Int32)), .val (.int (0 : Int32)), .unset] [(.int (0 : Int32)), (.ref a1)])) rfl rfl (hb hby d5_12) _ ?_
    show Steps p.tables e below (s₁.setTop (mkF m 13 #[.val (.ref a1), .val (.int (0 : Int32)), .val (.ref a3), .val (.int (0 : Int32)), .val (.int (3 : Int32)), .val (.int (0 : Int32)), .unset] [(.int (98 : Int32))])) _
    refine XS.istore X0.here hx rfl (hb hby d5_13) rfl (l' := #[.val (.ref a1), .val (.int (0 : Int32)), .val (.ref a3), .val (.int (0 : Int32)), .val (.int (3 : Int32)), .val (.int (0 : Int32)), .val (.int (98 : Int32))]) rfl ?_
    show Steps p.tables e below (s₁.setTop (mkF m 15 #[.val (.ref a1), .val (.int (0 : Int32)), .val (.ref a3), .val (.int (0 : Int32)), .val (.int (3 : Int32)), .val (.int (0 : Int32)), .val (.int (98 : Int32))] [])) _
    refine XS.iload X0.here hx rfl (hb hby d5_15) rfl ?_
    show Steps p.tables e below (s₁.setTop (mkF m 17 #[.val (.ref a1), .val (.int (0 : Int32)), .val (.ref a3), .val (.int (0 : Int32)), .val (.int (3 : Int32)), .val (.int (0 : Int32)), .val (.int (98 : Int32))] [(.int (98 : Int32))])) _
    refine XS.sipush X0.here hx rfl (hb hby d5_17) ?_
    show Steps p.tables e below (s₁.setTop (mkF m 20 #[.val (.ref a1), .val (.int (0 : Int32)), .val (.ref a3), .val (.int (0 : Int32)), .val (.int (3 : Int32)), .val (.int (0 : Int32)), .val (.int (98 : Int32))] [(.int (255 : Int32)), (.int (98 : Int32))])) _
    refine XS.icmpYes X0.here hx rfl (pc0 := 20) (pc' := 26) rfl (hb hby d5_20) rfl (flt (by decide : ¬ ((255 : Int32) < (98 : Int32)))).2.2.2 (by decide) (by decide) ?_
    show Steps p.tables e below (s₁.setTop (mkF m 26 #[.val (.ref a1), .val (.int (0 : Int32)), .val (.ref a3), .val (.int (0 : Int32)), .val (.int (3 : Int32)), .val (.int (0 : Int32)), .val (.int (98 : Int32))] [])) _
    refine XS.aloadN X0.here hx rfl (hb hby d5_26) rfl rfl ?_
    show Steps p.tables e below (s₁.setTop (mkF m 27 #[.val (.ref a1), .val (.int (0 : Int32)), .val (.ref a3), .val (.int (0 : Int32)), .val (.int (3 : Int32)), .val (.int (0 : Int32)), .val (.int (98 : Int32))] [(.ref a3)])) _
    refine XS.iloadN X0.here hx rfl (hb hby d5_27) rfl ?_
    show Steps p.tables e below (s₁.setTop (mkF m 28 #[.val (.ref a1), .val (.int (0 : Int32)), .val (.ref a3), .val (.int (0 : Int32)), .val (.int (3 : Int32)), .val (.int (0 : Int32)), .val (.int (98 : Int32))] [(.int (0 : Int32)), (.ref a3)])) _
    refine XS.iload X0.here hx rfl (hb hby d5_28) rfl ?_
    show Steps p.tables e below (s₁.setTop (mkF m 30 #[.val (.ref a1), .val (.int (0 : Int32)), .val (.ref a3), .val (.int (0 : Int32)), .val (.int (3 : Int32)), .val (.int (0 : Int32)), .val (.int (98 : Int32))] [(.int (98 : Int32)), (.int (0 : Int32)), (.ref a3)])) _
    refine XS.i2b X0.here hx rfl (hb hby d5_30) rfl ?_
    show Steps p.tables e below (s₁.setTop (mkF m 31 #[.val (.ref a1), .val (.int (0 : Int32)), .val (.ref a3), .val (.int (0 : Int32)), .val (.int (3 : Int32)), .val (.int (0 : Int32)), .val (.int (98 : Int32))] [(.int (98 : Int32)), (.int (0 : Int32)), (.ref a3)])) _
    refine st3 _ ?_
    show Steps p.tables e below (T3.setTop (mkF m 32 #[.val (.ref a1), .val (.int (0 : Int32)), .val (.ref a3), .val (.int (0 : Int32)), .val (.int (3 : Int32)), .val (.int (0 : Int32)), .val (.int (98 : Int32))] [])) _
    refine XS.iinc X3.here hx rfl (hb hby d5_32) rfl (l' := #[.val (.ref a1), .val (.int (1 : Int32)), .val (.ref a3), .val (.int (0 : Int32)), .val (.int (3 : Int32)), .val (.int (0 : Int32)), .val (.int (98 : Int32))]) rfl ?_
    show Steps p.tables e below (T3.setTop (mkF m 35 #[.val (.ref a1), .val (.int (1 : Int32)), .val (.ref a3), .val (.int (0 : Int32)), .val (.int (3 : Int32)), .val (.int (0 : Int32)), .val (.int (98 : Int32))] [])) _
    refine XS.iinc X3.here hx rfl (hb hby d5_35) rfl (l' := #[.val (.ref a1), .val (.int (1 : Int32)), .val (.ref a3), .val (.int (1 : Int32)), .val (.int (3 : Int32)), .val (.int (0 : Int32)), .val (.int (98 : Int32))]) rfl ?_
    show Steps p.tables e below (T3.setTop (mkF m 38 #[.val (.ref a1), .val (.int (1 : Int32)), .val (.ref a3), .val (.int (1 : Int32)), .val (.int (3 : Int32)), .val (.int (0 : Int32)), .val (.int (98 : Int32))] [])) _
    refine XS.iinc X3.here hx rfl (hb hby d5_38) rfl (l' := #[.val (.ref a1), .val (.int (1 : Int32)), .val (.ref a3), .val (.int (1 : Int32)), .val (.int (3 : Int32)), .val (.int (1 : Int32)), .val (.int (98 : Int32))]) rfl ?_
    show Steps p.tables e below (T3.setTop (mkF m 41 #[.val (.ref a1), .val (.int (1 : Int32)), .val (.ref a3), .val (.int (1 : Int32)), .val (.int (3 : Int32)), .val (.int (1 : Int32)), .val (.int (98 : Int32))] [])) _
    refine XS.goto X3.here hx rfl (pc0 := 41) (pc' := 3) rfl (hb hby d5_41) (by decide) (by decide) ?_
    show Steps p.tables e below (T3.setTop (mkF m 3 #[.val (.ref a1), .val (.int (1 : Int32)), .val (.ref a3), .val (.int (1 : Int32)), .val (.int (3 : Int32)), .val (.int (1 : Int32)), .val (.int (98 : Int32))] [])) _
    refine XS.iload X3.here hx rfl (hb hby d5_3) rfl ?_
    show Steps p.tables e below (T3.setTop (mkF m 5 #[.val (.ref a1), .val (.int (1 : Int32)), .val (.ref a3), .val (.int (1 : Int32)), .val (.int (3 : Int32)), .val (.int (1 : Int32)), .val (.int (98 : Int32))] [(.int (1 : Int32))])) _
    refine XS.iload X3.here hx rfl (hb hby d5_5) rfl ?_
    show Steps p.tables e below (T3.setTop (mkF m 7 #[.val (.ref a1), .val (.int (1 : Int32)), .val (.ref a3), .val (.int (1 : Int32)), .val (.int (3 : Int32)), .val (.int (1 : Int32)), .val (.int (98 : Int32))] [(.int (3 : Int32)), (.int (1 : Int32))])) _
    refine XS.icmpNo X3.here hx rfl (hb hby d5_7) rfl (tlt (by decide : (1 : Int32) < (3 : Int32))).2.1 ?_
    show Steps p.tables e below (T3.setTop (mkF m 10 #[.val (.ref a1), .val (.int (1 : Int32)), .val (.ref a3), .val (.int (1 : Int32)), .val (.int (3 : Int32)), .val (.int (1 : Int32)), .val (.int (98 : Int32))] [])) _
    refine XS.aloadN X3.here hx rfl (hb hby d5_10) rfl rfl ?_
    show Steps p.tables e below (T3.setTop (mkF m 11 #[.val (.ref a1), .val (.int (1 : Int32)), .val (.ref a3), .val (.int (1 : Int32)), .val (.int (3 : Int32)), .val (.int (1 : Int32)), .val (.int (98 : Int32))] [(.ref a1)])) _
    refine XS.iloadN X3.here hx rfl (hb hby d5_11) rfl ?_
    show Steps p.tables e below (T3.setTop (mkF m 12 #[.val (.ref a1), .val (.int (1 : Int32)), .val (.ref a3), .val (.int (1 : Int32)), .val (.int (3 : Int32)), .val (.int (1 : Int32)), .val (.int (98 : Int32))] [(.int (1 : Int32)), (.ref a1)])) _
    refine X3.caload hx (j := (1 : Int32)) (v := (.int (117 : Int32))) (by rw [e3]; exact Aro11.1) (State.isArrayOf_alike hZ.alike Aro11.2.1) Aro11.2.2 hino11 (Ho11.at hino11 rfl) (g := (mkF m 12 #[.val (.ref a1), .val (.int (1 : Int32)), .val (.ref a3), .val (.int (1 : Int32)), .val (.int (3 : Int32)), .val (.int (1 : Int32)), .val (.int (98 : Int32))] [(.int (1 : Int32)), (.ref a1)])) rfl rfl (hb hby d5_12) _ ?_
    show Steps p.tables e below (T3.setTop (mkF m 13 #[.val (.ref a1), .val (.int (1 : Int32)), .val (.ref a3), .val (.int (1 : Int32)), .val (.int (3 : Int32)), .val (.int (1 : Int32)), .val (.int (98 : Int32))] [(.int (117 : Int32))])) _
    refine XS.istore X3.here hx rfl (hb hby d5_13) rfl (l' := #[.val (.ref a1), .val (.int (1 : Int32)), .val (.ref a3), .val (.int (1 : Int32)), .val (.int (3 : Int32)), .val (.int (1 : Int32)), .val (.int (117 : Int32))]) rfl ?_
    show Steps p.tables e below (T3.setTop (mkF m 15 #[.val (.ref a1), .val (.int (1 : Int32)), .val (.ref a3), .val (.int (1 : Int32)), .val (.int (3 : Int32)), .val (.int (1 : Int32)), .val (.int (117 : Int32))] [])) _
    refine XS.iload X3.here hx rfl (hb hby d5_15) rfl ?_
    show Steps p.tables e below (T3.setTop (mkF m 17 #[.val (.ref a1), .val (.int (1 : Int32)), .val (.ref a3), .val (.int (1 : Int32)), .val (.int (3 : Int32)), .val (.int (1 : Int32)), .val (.int (117 : Int32))] [(.int (117 : Int32))])) _
    refine XS.sipush X3.here hx rfl (hb hby d5_17) ?_
    show Steps p.tables e below (T3.setTop (mkF m 20 #[.val (.ref a1), .val (.int (1 : Int32)), .val (.ref a3), .val (.int (1 : Int32)), .val (.int (3 : Int32)), .val (.int (1 : Int32)), .val (.int (117 : Int32))] [(.int (255 : Int32)), (.int (117 : Int32))])) _
    refine XS.icmpYes X3.here hx rfl (pc0 := 20) (pc' := 26) rfl (hb hby d5_20) rfl (flt (by decide : ¬ ((255 : Int32) < (117 : Int32)))).2.2.2 (by decide) (by decide) ?_
    show Steps p.tables e below (T3.setTop (mkF m 26 #[.val (.ref a1), .val (.int (1 : Int32)), .val (.ref a3), .val (.int (1 : Int32)), .val (.int (3 : Int32)), .val (.int (1 : Int32)), .val (.int (117 : Int32))] [])) _
    refine XS.aloadN X3.here hx rfl (hb hby d5_26) rfl rfl ?_
    show Steps p.tables e below (T3.setTop (mkF m 27 #[.val (.ref a1), .val (.int (1 : Int32)), .val (.ref a3), .val (.int (1 : Int32)), .val (.int (3 : Int32)), .val (.int (1 : Int32)), .val (.int (117 : Int32))] [(.ref a3)])) _
    refine XS.iloadN X3.here hx rfl (hb hby d5_27) rfl ?_
    show Steps p.tables e below (T3.setTop (mkF m 28 #[.val (.ref a1), .val (.int (1 : Int32)), .val (.ref a3), .val (.int (1 : Int32)), .val (.int (3 : Int32)), .val (.int (1 : Int32)), .val (.int (117 : Int32))] [(.int (1 : Int32)), (.ref a3)])) _
    refine XS.iload X3.here hx rfl (hb hby d5_28) rfl ?_
    show Steps p.tables e below (T3.setTop (mkF m 30 #[.val (.ref a1), .val (.int (1 : Int32)), .val (.ref a3), .val (.int (1 : Int32)), .val (.int (3 : Int32)), .val (.int (1 : Int32)), .val (.int (117 : Int32))] [(.int (117 : Int32)), (.int (1 : Int32)), (.ref a3)])) _
    refine XS.i2b X3.here hx rfl (hb hby d5_30) rfl ?_
    show Steps p.tables e below (T3.setTop (mkF m 31 #[.val (.ref a1), .val (.int (1 : Int32)), .val (.ref a3), .val (.int (1 : Int32)), .val (.int (3 : Int32)), .val (.int (1 : Int32)), .val (.int (117 : Int32))] [(.int (117 : Int32)), (.int (1 : Int32)), (.ref a3)])) _
    refine st13 _ ?_
    show Steps p.tables e below (T13.setTop (mkF m 32 #[.val (.ref a1), .val (.int (1 : Int32)), .val (.ref a3), .val (.int (1 : Int32)), .val (.int (3 : Int32)), .val (.int (1 : Int32)), .val (.int (117 : Int32))] [])) _
    refine XS.iinc X13.here hx rfl (hb hby d5_32) rfl (l' := #[.val (.ref a1), .val (.int (2 : Int32)), .val (.ref a3), .val (.int (1 : Int32)), .val (.int (3 : Int32)), .val (.int (1 : Int32)), .val (.int (117 : Int32))]) rfl ?_
    show Steps p.tables e below (T13.setTop (mkF m 35 #[.val (.ref a1), .val (.int (2 : Int32)), .val (.ref a3), .val (.int (1 : Int32)), .val (.int (3 : Int32)), .val (.int (1 : Int32)), .val (.int (117 : Int32))] [])) _
    refine XS.iinc X13.here hx rfl (hb hby d5_35) rfl (l' := #[.val (.ref a1), .val (.int (2 : Int32)), .val (.ref a3), .val (.int (2 : Int32)), .val (.int (3 : Int32)), .val (.int (1 : Int32)), .val (.int (117 : Int32))]) rfl ?_
    show Steps p.tables e below (T13.setTop (mkF m 38 #[.val (.ref a1), .val (.int (2 : Int32)), .val (.ref a3), .val (.int (2 : Int32)), .val (.int (3 : Int32)), .val (.int (1 : Int32)), .val (.int (117 : Int32))] [])) _
    refine XS.iinc X13.here hx rfl (hb hby d5_38) rfl (l' := #[.val (.ref a1), .val (.int (2 : Int32)), .val (.ref a3), .val (.int (2 : Int32)), .val (.int (3 : Int32)), .val (.int (2 : Int32)), .val (.int (117 : Int32))]) rfl ?_
    show Steps p.tables e below (T13.setTop (mkF m 41 #[.val (.ref a1), .val (.int (2 : Int32)), .val (.ref a3), .val (.int (2 : Int32)), .val (.int (3 : Int32)), .val (.int (2 : Int32)), .val (.int (117 : Int32))] [])) _
    refine XS.goto X13.here hx rfl (pc0 := 41) (pc' := 3) rfl (hb hby d5_41) (by decide) (by decide) ?_
    show Steps p.tables e below (T13.setTop (mkF m 3 #[.val (.ref a1), .val (.int (2 : Int32)), .val (.ref a3), .val (.int (2 : Int32)), .val (.int (3 : Int32)), .val (.int (2 : Int32)), .val (.int (117 : Int32))] [])) _
    refine XS.iload X13.here hx rfl (hb hby d5_3) rfl ?_
    show Steps p.tables e below (T13.setTop (mkF m 5 #[.val (.ref a1), .val (.int (2 : Int32)), .val (.ref a3), .val (.int (2 : Int32)), .val (.int (3 : Int32)), .val (.int (2 : Int32)), .val (.int (117 : Int32))] [(.int (2 : Int32))])) _
    refine XS.iload X13.here hx rfl (hb hby d5_5) rfl ?_
    show Steps p.tables e below (T13.setTop (mkF m 7 #[.val (.ref a1), .val (.int (2 : Int32)), .val (.ref a3), .val (.int (2 : Int32)), .val (.int (3 : Int32)), .val (.int (2 : Int32)), .val (.int (117 : Int32))] [(.int (3 : Int32)), (.int (2 : Int32))])) _
    refine XS.icmpNo X13.here hx rfl (hb hby d5_7) rfl (tlt (by decide : (2 : Int32) < (3 : Int32))).2.1 ?_
    show Steps p.tables e below (T13.setTop (mkF m 10 #[.val (.ref a1), .val (.int (2 : Int32)), .val (.ref a3), .val (.int (2 : Int32)), .val (.int (3 : Int32)), .val (.int (2 : Int32)), .val (.int (117 : Int32))] [])) _
    refine XS.aloadN X13.here hx rfl (hb hby d5_10) rfl rfl ?_
    show Steps p.tables e below (T13.setTop (mkF m 11 #[.val (.ref a1), .val (.int (2 : Int32)), .val (.ref a3), .val (.int (2 : Int32)), .val (.int (3 : Int32)), .val (.int (2 : Int32)), .val (.int (117 : Int32))] [(.ref a1)])) _
    refine XS.iloadN X13.here hx rfl (hb hby d5_11) rfl ?_
    show Steps p.tables e below (T13.setTop (mkF m 12 #[.val (.ref a1), .val (.int (2 : Int32)), .val (.ref a3), .val (.int (2 : Int32)), .val (.int (3 : Int32)), .val (.int (2 : Int32)), .val (.int (117 : Int32))] [(.int (2 : Int32)), (.ref a1)])) _
    refine X13.caload hx (j := (2 : Int32)) (v := (.int (121 : Int32))) (by rw [e13]; exact Aro21.1) (State.isArrayOf_alike hZ.alike Aro21.2.1) Aro21.2.2 hino21 (Ho21.at hino21 rfl) (g := (mkF m 12 #[.val (.ref a1), .val (.int (2 : Int32)), .val (.ref a3), .val (.int (2 : Int32)), .val (.int (3 : Int32)), .val (.int (2 : Int32)), .val (.int (117 : Int32))] [(.int (2 : Int32)), (.ref a1)])) rfl rfl (hb hby d5_12) _ ?_
    show Steps p.tables e below (T13.setTop (mkF m 13 #[.val (.ref a1), .val (.int (2 : Int32)), .val (.ref a3), .val (.int (2 : Int32)), .val (.int (3 : Int32)), .val (.int (2 : Int32)), .val (.int (117 : Int32))] [(.int (121 : Int32))])) _
    refine XS.istore X13.here hx rfl (hb hby d5_13) rfl (l' := #[.val (.ref a1), .val (.int (2 : Int32)), .val (.ref a3), .val (.int (2 : Int32)), .val (.int (3 : Int32)), .val (.int (2 : Int32)), .val (.int (121 : Int32))]) rfl ?_
    show Steps p.tables e below (T13.setTop (mkF m 15 #[.val (.ref a1), .val (.int (2 : Int32)), .val (.ref a3), .val (.int (2 : Int32)), .val (.int (3 : Int32)), .val (.int (2 : Int32)), .val (.int (121 : Int32))] [])) _
    refine XS.iload X13.here hx rfl (hb hby d5_15) rfl ?_
    show Steps p.tables e below (T13.setTop (mkF m 17 #[.val (.ref a1), .val (.int (2 : Int32)), .val (.ref a3), .val (.int (2 : Int32)), .val (.int (3 : Int32)), .val (.int (2 : Int32)), .val (.int (121 : Int32))] [(.int (121 : Int32))])) _
    refine XS.sipush X13.here hx rfl (hb hby d5_17) ?_
    show Steps p.tables e below (T13.setTop (mkF m 20 #[.val (.ref a1), .val (.int (2 : Int32)), .val (.ref a3), .val (.int (2 : Int32)), .val (.int (3 : Int32)), .val (.int (2 : Int32)), .val (.int (121 : Int32))] [(.int (255 : Int32)), (.int (121 : Int32))])) _
    refine XS.icmpYes X13.here hx rfl (pc0 := 20) (pc' := 26) rfl (hb hby d5_20) rfl (flt (by decide : ¬ ((255 : Int32) < (121 : Int32)))).2.2.2 (by decide) (by decide) ?_
    show Steps p.tables e below (T13.setTop (mkF m 26 #[.val (.ref a1), .val (.int (2 : Int32)), .val (.ref a3), .val (.int (2 : Int32)), .val (.int (3 : Int32)), .val (.int (2 : Int32)), .val (.int (121 : Int32))] [])) _
    refine XS.aloadN X13.here hx rfl (hb hby d5_26) rfl rfl ?_
    show Steps p.tables e below (T13.setTop (mkF m 27 #[.val (.ref a1), .val (.int (2 : Int32)), .val (.ref a3), .val (.int (2 : Int32)), .val (.int (3 : Int32)), .val (.int (2 : Int32)), .val (.int (121 : Int32))] [(.ref a3)])) _
    refine XS.iloadN X13.here hx rfl (hb hby d5_27) rfl ?_
    show Steps p.tables e below (T13.setTop (mkF m 28 #[.val (.ref a1), .val (.int (2 : Int32)), .val (.ref a3), .val (.int (2 : Int32)), .val (.int (3 : Int32)), .val (.int (2 : Int32)), .val (.int (121 : Int32))] [(.int (2 : Int32)), (.ref a3)])) _
    refine XS.iload X13.here hx rfl (hb hby d5_28) rfl ?_
    show Steps p.tables e below (T13.setTop (mkF m 30 #[.val (.ref a1), .val (.int (2 : Int32)), .val (.ref a3), .val (.int (2 : Int32)), .val (.int (3 : Int32)), .val (.int (2 : Int32)), .val (.int (121 : Int32))] [(.int (121 : Int32)), (.int (2 : Int32)), (.ref a3)])) _
    refine XS.i2b X13.here hx rfl (hb hby d5_30) rfl ?_
    show Steps p.tables e below (T13.setTop (mkF m 31 #[.val (.ref a1), .val (.int (2 : Int32)), .val (.ref a3), .val (.int (2 : Int32)), .val (.int (3 : Int32)), .val (.int (2 : Int32)), .val (.int (121 : Int32))] [(.int (121 : Int32)), (.int (2 : Int32)), (.ref a3)])) _
    refine st23 _ ?_
    show Steps p.tables e below (T23.setTop (mkF m 32 #[.val (.ref a1), .val (.int (2 : Int32)), .val (.ref a3), .val (.int (2 : Int32)), .val (.int (3 : Int32)), .val (.int (2 : Int32)), .val (.int (121 : Int32))] [])) _
    refine XS.iinc X23.here hx rfl (hb hby d5_32) rfl (l' := #[.val (.ref a1), .val (.int (3 : Int32)), .val (.ref a3), .val (.int (2 : Int32)), .val (.int (3 : Int32)), .val (.int (2 : Int32)), .val (.int (121 : Int32))]) rfl ?_
    show Steps p.tables e below (T23.setTop (mkF m 35 #[.val (.ref a1), .val (.int (3 : Int32)), .val (.ref a3), .val (.int (2 : Int32)), .val (.int (3 : Int32)), .val (.int (2 : Int32)), .val (.int (121 : Int32))] [])) _
    refine XS.iinc X23.here hx rfl (hb hby d5_35) rfl (l' := #[.val (.ref a1), .val (.int (3 : Int32)), .val (.ref a3), .val (.int (3 : Int32)), .val (.int (3 : Int32)), .val (.int (2 : Int32)), .val (.int (121 : Int32))]) rfl ?_
    show Steps p.tables e below (T23.setTop (mkF m 38 #[.val (.ref a1), .val (.int (3 : Int32)), .val (.ref a3), .val (.int (3 : Int32)), .val (.int (3 : Int32)), .val (.int (2 : Int32)), .val (.int (121 : Int32))] [])) _
    refine XS.iinc X23.here hx rfl (hb hby d5_38) rfl (l' := #[.val (.ref a1), .val (.int (3 : Int32)), .val (.ref a3), .val (.int (3 : Int32)), .val (.int (3 : Int32)), .val (.int (3 : Int32)), .val (.int (121 : Int32))]) rfl ?_
    show Steps p.tables e below (T23.setTop (mkF m 41 #[.val (.ref a1), .val (.int (3 : Int32)), .val (.ref a3), .val (.int (3 : Int32)), .val (.int (3 : Int32)), .val (.int (3 : Int32)), .val (.int (121 : Int32))] [])) _
    refine XS.goto X23.here hx rfl (pc0 := 41) (pc' := 3) rfl (hb hby d5_41) (by decide) (by decide) ?_
    show Steps p.tables e below (T23.setTop (mkF m 3 #[.val (.ref a1), .val (.int (3 : Int32)), .val (.ref a3), .val (.int (3 : Int32)), .val (.int (3 : Int32)), .val (.int (3 : Int32)), .val (.int (121 : Int32))] [])) _
    refine XS.iload X23.here hx rfl (hb hby d5_3) rfl ?_
    show Steps p.tables e below (T23.setTop (mkF m 5 #[.val (.ref a1), .val (.int (3 : Int32)), .val (.ref a3), .val (.int (3 : Int32)), .val (.int (3 : Int32)), .val (.int (3 : Int32)), .val (.int (121 : Int32))] [(.int (3 : Int32))])) _
    refine XS.iload X23.here hx rfl (hb hby d5_5) rfl ?_
    show Steps p.tables e below (T23.setTop (mkF m 7 #[.val (.ref a1), .val (.int (3 : Int32)), .val (.ref a3), .val (.int (3 : Int32)), .val (.int (3 : Int32)), .val (.int (3 : Int32)), .val (.int (121 : Int32))] [(.int (3 : Int32)), (.int (3 : Int32))])) _
    refine XS.icmpYes X23.here hx rfl (pc0 := 7) (pc' := 44) rfl (hb hby d5_7) rfl (flt (by decide : ¬ ((3 : Int32) < (3 : Int32)))).2.1 (by decide) (by decide) ?_
    show Steps p.tables e below (T23.setTop (mkF m 44 #[.val (.ref a1), .val (.int (3 : Int32)), .val (.ref a3), .val (.int (3 : Int32)), .val (.int (3 : Int32)), .val (.int (3 : Int32)), .val (.int (121 : Int32))] [])) _
    refine XS.iload X23.here hx rfl (hb hby d5_44) rfl ?_
    show Steps p.tables e below (T23.setTop (mkF m 46 #[.val (.ref a1), .val (.int (3 : Int32)), .val (.ref a3), .val (.int (3 : Int32)), .val (.int (3 : Int32)), .val (.int (3 : Int32)), .val (.int (121 : Int32))] [(.int (3 : Int32))])) _
    exact retI X23 hx Bd.returns (hb hby d5_46) hr
  · show Q_compB Z a1 a3 k_a1 k_a3 h0 n0 _ T23.heap _
    rw [e23]
    exact ⟨rfl, N29, K28, f26, f24⟩
theorem pd_0 : parseMethodDescriptor "([CI[BII)I" = some ⟨[(.array .char), .int, (.array .byte), .int, .int], some .int⟩ := by decide +kernel
theorem d4_0 : decode jdk_52_method_16_code 0 = .ok (.iload_n 2, 1) := by decide +kernel
theorem d4_1 : decode jdk_52_method_16_code 1 = .ok (.newarray .byte, 2) := by decide +kernel
theorem d4_3 : decode jdk_52_method_16_code 3 = .ok (.astore_n 3, 1) := by decide +kernel
theorem d4_4 : decode jdk_52_method_16_code 4 = .ok (.aload_n 0, 1) := by decide +kernel
theorem d4_5 : decode jdk_52_method_16_code 5 = .ok (.iload_n 1, 1) := by decide +kernel
theorem d4_6 : decode jdk_52_method_16_code 6 = .ok (.aload_n 3, 1) := by decide +kernel
theorem d4_7 : decode jdk_52_method_16_code 7 = .ok (.iconst 0, 1) := by decide +kernel
theorem d4_8 : decode jdk_52_method_16_code 8 = .ok (.iload_n 2, 1) := by decide +kernel
theorem d4_9 : decode jdk_52_method_16_code 9 = .ok (.invokestatic 115, 3) := by decide +kernel
theorem d4_12 : decode jdk_52_method_16_code 12 = .ok (.istore 4, 2) := by decide +kernel
theorem d4_14 : decode jdk_52_method_16_code 14 = .ok (.iload 4, 2) := by decide +kernel
theorem d4_16 : decode jdk_52_method_16_code 16 = .ok (.iload_n 2, 1) := by decide +kernel
theorem d4_17 : decode jdk_52_method_16_code 17 = .ok (.if_icmp .eq 40, 3) := by decide +kernel
theorem d4_57 : decode jdk_52_method_16_code 57 = .ok (.aload_n 3, 1) := by decide +kernel
theorem d4_58 : decode jdk_52_method_16_code 58 = .ok (.areturn, 1) := by decide +kernel
theorem ef_4_RII (m : MethodId) (x0 : Addr) (x1 : Int32) (x2 : Int32) : entryFrame m #[(.ref x0), (.int x1), (.int x2)] 6 = mkF m 0 #[.val (.ref x0), .val (.int x1), .val (.int x2), .unset, .unset, .unset] [] := by first | (simp [entryFrame, mkF, argsToLocals, Value.category]; done) | rfl
def Q_cmpB (Z : State) (a1 : Addr) (k_a1 : ClassId) (h0 : Heap) (n0 : Nat) (v : Option Value) (h : Heap) (L : List Loc) : Prop := ∃ (o1 : Addr), ∃ (ko1 : ClassId), v = some (.ref o1) ∧ Fr n0 L ∧ n0 ≤ o1 ∧ h0.size ≤ o1 ∧ Keep h0 h [] ∧ Exa Z h o1 "[B" ∧ Arv Z h o1 ko1 .byte (3 : Int32) [(.int (98 : Int32)), (.int (117 : Int32)), (.int (121 : Int32))] (.int (0 : Int32))
set_option maxRecDepth 65536 in
set_option maxHeartbeats 40000000 in
theorem rm_cmpB (l : Launch) (Z : State) (a0 : Array Value) (hw : ∀ d ∈ tables_1, d.before a0 Z = true) (ws : List Jvm.Cond) (a1 : Addr) (k_a1 : ClassId) (h0 : Heap) (n0 : Nat) (Z0 : n0 ≤ h0.size) (E_a1 : Exa Z h0 a1 "[C") (V_a1 : Arv Z h0 a1 k_a1 .char (3 : Int32) [(.int (98 : Int32)), (.int (117 : Int32)), (.int (121 : Int32))] (.int (0 : Int32))) :
    MetFree l (⟨"java/lang/StringUTF16", "compress", "([CII)[B"⟩ : MethodName) (head1 (Jvm.Cond.code (⟨"java/lang/StringUTF16", "compress", "([CII)[B"⟩ : MethodName) jdk_52_method_16_code 6 (some (.array .byte)) :: ws) ({ frames := 1, cells := 1, slots := 3, locals := 18 } : Room)) (fun a U => a = #[(.ref a1), (.int (0 : Int32)), (.int (3 : Int32))] ∧ Z.Warmed39 U.vm ∧ U.heap = h0) (fun _ _ _ _ _ => True) (fun _ U o U' => ∃ v L, o = .returned v ∧ Q_cmpB Z a1 k_a1 h0 n0 v U'.heap L ∧ FrameEnd U o U' L ({ frames := 1, cells := 1, slots := 3, locals := 18 } : Room).cells ({ frames := 1, cells := 1, slots := 3, locals := 18 } : Room).slots) := by
  refine MetFree.of_bodySF (plainFor_of_name pn_java_lang_StringUTF16) hisR ?_
  intro p e s m args below meth c s₁ Bd hml0 hP hK
  obtain ⟨rfl, hZ, hh⟩ := hP
  have hx := Bd.exec
  have hby := Bd.bytes
  have hml : c.maxLocals = 6 := hml0
  have hown : s.vm.findClass "java/lang/StringUTF16" = some m.cls := findClass_of_methodNamed Bd.named
  have hnm := (name_of_methodNamed Bd.named Bd.method).1
  have X0 : Stand p l e ({ frames := 1, cells := 1, slots := 3, locals := 18 } : Room) s m #[(.ref a1), (.int (0 : Int32)), (.int (3 : Int32))] below meth c s₁ [] 0 0 := Stand.of_body Bd
  have e0 : s₁.heap = h0 := by rw [← hh, Bd.state]; rfl
  have N0 := Fr.nil n0
  have pre0 : ∀ t, Steps p.tables e below (s₁.setTop (mkF m 0 #[.val (.ref a1), .val (.int (0 : Int32)), .val (.int (3 : Int32)), .unset, .unset, .unset] [])) t → Steps p.tables e below (s₁.setTop (entryFrame m #[(.ref a1), (.int (0 : Int32)), (.int (3 : Int32))] 6)) t := fun t k => castTop (ef_4_RII m a1 (0 : Int32) (3 : Int32)) k
  obtain ⟨T1, h1, k1, X1, e1, E1, A1, Ex1, st1⟩ := newPE X0 hx hZ (hw _ (List.mem_of_getElem? (i := 19) rfl)) e0 (g := (mkF m 1 #[.val (.ref a1), .val (.int (0 : Int32)), .val (.int (3 : Int32)), .unset, .unset, .unset] [(.int (3 : Int32))])) rfl (hb hby d4_1) rfl (by decide) (cap := 3) (by decide) (by decide) (by decide) (by decide) (ad := "[B") (by decide)
  obtain ⟨b1, g1⟩ : ∃ z, z = h0.size := ⟨_, rfl⟩
  rw [← g1] at A1 Ex1 st1
  have g_b1 : n0 ≤ b1 := Nat.le_trans Z0 (Nat.le_of_eq g1.symm)
  have sz_b1 : h0.size ≤ b1 := Nat.le_trans (Keep.refl h0 []).1 (Nat.le_of_eq g1.symm)
  have ne_a1_b1 : a1 ≠ b1 := Nat.ne_of_lt (Nat.lt_of_lt_of_le E_a1.lt (Nat.le_of_eq g1.symm))
  have f2 : Exa Z h1 a1 "[C" := E_a1.ext E1
  have f3 : Arv Z h1 a1 k_a1 .char (3 : Int32) [(.int (98 : Int32)), (.int (117 : Int32)), (.int (121 : Int32))] (.int (0 : Int32)) := V_a1.ext E1
  have K4 : Keep h0 h1 [] := (Keep.refl h0 []).ext E1
  have Zs5 : n0 ≤ h1.size := Nat.le_trans Z0 E1.1
  have f6 : Arv Z h1 b1 k1 .byte (3 : Int32) [(.int (0 : Int32)), (.int (0 : Int32)), (.int (0 : Int32))] (.int (0 : Int32)) := (Arv.new A1 (by decide)).pad (pad_rep [] (.int (0 : Int32)) 3)
  obtain ⟨_, _, ⟨T7, L7, k7, n7⟩, -, X7, ⟨Lc7, hQ7, l7, y7, z7⟩, st7⟩ := Jvm.LawKit.callS X1 hx (y := (⟨"java/lang/StringUTF16", "compress", "([CI[BII)I"⟩ : MethodName)) hown (mvT hZ (hw _ (List.mem_of_getElem? (i := 20) rfl))) (mvT hZ (hw _ (List.mem_of_getElem? (i := 21) rfl))) (mvT hZ (hw _ (List.mem_of_getElem? (i := 17) rfl))) (mvT hZ (hw _ (List.mem_of_getElem? (i := 22) rfl))) (by decide) (backOf (W := 0) (rm_compB l Z a0 hw [] a1 b1 k_a1 k1 h1 n0 Zs5 f2 Ex1 f3 f6 g_b1) hZ (hw _ (List.mem_of_getElem? (i := 22) rfl)) (hw _ (List.mem_of_getElem? (i := 17) rfl)) (by decide) (by decide)) (g := (mkF m 9 #[.val (.ref a1), .val (.int (0 : Int32)), .val (.int (3 : Int32)), .val (.ref b1), .unset, .unset] [(.int (3 : Int32)), (.int (0 : Int32)), (.ref b1), (.int (0 : Int32)), (.ref a1)])) rfl (by rw [hml]; rfl) (argsL := [(.ref a1), (.int (0 : Int32)), (.ref b1), (.int (0 : Int32)), (.int (3 : Int32))]) (rest := []) (lenOf pd_0 rfl) rfl (by show 2 * 0 + _ ≤ _; exact Nat.le_of_eq rfl) (hb hby d4_9) (fun _ _ => ⟨rfl, e1, (by decide : 1 + 0 ≤ _), (by decide : 3 + 0 ≤ _)⟩)
  dsimp only [Pt.U, Pt.locs, Pt.cells, Pt.slots] at X7 l7 y7 z7 st7 hQ7
  subst l7 y7 z7
  obtain ⟨rfl, Nq7, Kc7, fq7_0, fq7_1⟩ := hQ7
  have f9 : Exa Z T7.heap a1 "[C" := f2.keep Kc7
  have f10 : Arv Z T7.heap a1 k_a1 .char (3 : Int32) [(.int (98 : Int32)), (.int (117 : Int32)), (.int (121 : Int32))] (.int (0 : Int32)) := f3.keep Kc7 (ninS ne_a1_b1 nin0)
  have f11 : Arv Z T7.heap b1 k1 .byte (3 : Int32) [(.int (98 : Int32)), (.int (117 : Int32)), (.int (121 : Int32))] (.int (0 : Int32)) := fq7_1
  have K12 : Keep h0 T7.heap [] := K4.trans Kc7 (allS (Or.inr sz_b1) all0)
  have Zs13 : n0 ≤ T7.heap.size := Nat.le_trans Zs5 Kc7.1
  have N8 := Fr.app N0 Nq7
  obtain ⟨fs, hr, hrun, hended, hW, hsame⟩ := X7.leave (v := some (.ref b1)) (fun h => by rw [Bd.returns] at h; cases h) Bd.notSynchronized
  refine ⟨_, _, pre0 _ ?_, hrun, hended, _, _, rfl, ?_, ⟨_, rfl⟩, hW, hsame.mono (by decide) (by decide)⟩
  · show Steps p.tables e below (s₁.setTop (mkF m 0 #[.val (.ref a1), .val (.int (0 : Int32)), .val (.int (3 : Int32)), .unset, .unset, .unset] [])) _
    refine XS.iloadN X0.here hx rfl (hb hby d4_0) rfl ?_
    show Steps p.tables e below (s₁.setTop (mkF m 1 #[.val (.ref a1), .val (.int (0 : Int32)), .val (.int (3 : Int32)), .unset, .unset, .unset] [(.int (3 : Int32))])) _
    refine st1 _ ?_
    show Steps p.tables e below (T1.setTop (mkF m 3 #[.val (.ref a1), .val (.int (0 : Int32)), .val (.int (3 : Int32)), .unset, .unset, .unset] [(.ref b1)])) _
    refine XS.astoreN X1.here hx rfl (hb hby d4_3) rfl rfl (l' := #[.val (.ref a1), .val (.int (0 : Int32)), .val (.int (3 : Int32)), .val (.ref b1), .unset, .unset]) rfl ?_
    show Steps p.tables e below (T1.setTop (mkF m 4 #[.val (.ref a1), .val (.int (0 : Int32)), .val (.int (3 : Int32)), .val (.ref b1), .unset, .unset] [])) _
    refine XS.aloadN X1.here hx rfl (hb hby d4_4) rfl rfl ?_
    show Steps p.tables e below (T1.setTop (mkF m 5 #[.val (.ref a1), .val (.int (0 : Int32)), .val (.int (3 : Int32)), .val (.ref b1), .unset, .unset] [(.ref a1)])) _
    refine XS.iloadN X1.here hx rfl (hb hby d4_5) rfl ?_
    show Steps p.tables e below (T1.setTop (mkF m 6 #[.val (.ref a1), .val (.int (0 : Int32)), .val (.int (3 : Int32)), .val (.ref b1), .unset, .unset] [(.int (0 : Int32)), (.ref a1)])) _
    refine XS.aloadN X1.here hx rfl (hb hby d4_6) rfl rfl ?_
    show Steps p.tables e below (T1.setTop (mkF m 7 #[.val (.ref a1), .val (.int (0 : Int32)), .val (.int (3 : Int32)), .val (.ref b1), .unset, .unset] [(.ref b1), (.int (0 : Int32)), (.ref a1)])) _
    refine XS.iconst X1.here hx rfl (hb hby d4_7) ?_
    show Steps p.tables e below (T1.setTop (mkF m 8 #[.val (.ref a1), .val (.int (0 : Int32)), .val (.int (3 : Int32)), .val (.ref b1), .unset, .unset] [(.int (0 : Int32)), (.ref b1), (.int (0 : Int32)), (.ref a1)])) _
    refine XS.iloadN X1.here hx rfl (hb hby d4_8) rfl ?_
    show Steps p.tables e below (T1.setTop (mkF m 9 #[.val (.ref a1), .val (.int (0 : Int32)), .val (.int (3 : Int32)), .val (.ref b1), .unset, .unset] [(.int (3 : Int32)), (.int (0 : Int32)), (.ref b1), (.int (0 : Int32)), (.ref a1)])) _
    refine st7 _ ?_
    show Steps p.tables e below (T7.setTop (mkF m 12 #[.val (.ref a1), .val (.int (0 : Int32)), .val (.int (3 : Int32)), .val (.ref b1), .unset, .unset] [(.int (3 : Int32))])) _
    refine XS.istore X7.here hx rfl (hb hby d4_12) rfl (l' := #[.val (.ref a1), .val (.int (0 : Int32)), .val (.int (3 : Int32)), .val (.ref b1), .val (.int (3 : Int32)), .unset]) rfl ?_
    show Steps p.tables e below (T7.setTop (mkF m 14 #[.val (.ref a1), .val (.int (0 : Int32)), .val (.int (3 : Int32)), .val (.ref b1), .val (.int (3 : Int32)), .unset] [])) _
    refine XS.iload X7.here hx rfl (hb hby d4_14) rfl ?_
    show Steps p.tables e below (T7.setTop (mkF m 16 #[.val (.ref a1), .val (.int (0 : Int32)), .val (.int (3 : Int32)), .val (.ref b1), .val (.int (3 : Int32)), .unset] [(.int (3 : Int32))])) _
    refine XS.iloadN X7.here hx rfl (hb hby d4_16) rfl ?_
    show Steps p.tables e below (T7.setTop (mkF m 17 #[.val (.ref a1), .val (.int (0 : Int32)), .val (.int (3 : Int32)), .val (.ref b1), .val (.int (3 : Int32)), .unset] [(.int (3 : Int32)), (.int (3 : Int32))])) _
    refine XS.icmpYes X7.here hx rfl (pc0 := 17) (pc' := 57) rfl (hb hby d4_17) rfl (teq (by decide : (3 : Int32) = (3 : Int32))).1 (by decide) (by decide) ?_
    show Steps p.tables e below (T7.setTop (mkF m 57 #[.val (.ref a1), .val (.int (0 : Int32)), .val (.int (3 : Int32)), .val (.ref b1), .val (.int (3 : Int32)), .unset] [])) _
    refine XS.aloadN X7.here hx rfl (hb hby d4_57) rfl rfl ?_
    show Steps p.tables e below (T7.setTop (mkF m 58 #[.val (.ref a1), .val (.int (0 : Int32)), .val (.int (3 : Int32)), .val (.ref b1), .val (.int (3 : Int32)), .unset] [(.ref b1)])) _
    exact retOut X7 hx (t := (.array .byte)) (i := .areturn) Bd.returns rfl (Or.inr (Or.inr (Or.inr (Or.inr ⟨rfl, rfl, rfl⟩)))) (hb hby d4_58) hr
  · show Q_cmpB Z a1 k_a1 h0 n0 _ T7.heap _
    exact ⟨b1, k1, rfl, N8, g_b1, sz_b1, K12, fq7_0, f11⟩
theorem d6_0 : decode jdk_52_method_15_code 0 = .ok (.iload_n 1, 1) := by decide +kernel
theorem d6_1 : decode jdk_52_method_15_code 1 = .ok (.aload_n 0, 1) := by decide +kernel
theorem d6_2 : decode jdk_52_method_15_code 2 = .ok (.arraylength, 1) := by decide +kernel
theorem d6_3 : decode jdk_52_method_15_code 3 = .ok (.isub, 1) := by decide +kernel
theorem d6_4 : decode jdk_52_method_15_code 4 = .ok (.bipush 31, 2) := by decide +kernel
theorem d6_6 : decode jdk_52_method_15_code 6 = .ok (.iushr, 1) := by decide +kernel
theorem d6_7 : decode jdk_52_method_15_code 7 = .ok (.i2b, 1) := by decide +kernel
theorem d6_8 : decode jdk_52_method_15_code 8 = .ok (.ireturn, 1) := by decide +kernel
theorem ef_6_RI (m : MethodId) (x0 : Addr) (x1 : Int32) : entryFrame m #[(.ref x0), (.int x1)] 2 = mkF m 0 #[.val (.ref x0), .val (.int x1)] [] := by first | (simp [entryFrame, mkF, argsToLocals, Value.category]; done) | rfl
def Q_codB (Z : State) (a1 : Addr) (k_a1 : ClassId) (h0 : Heap) (n0 : Nat) (v : Option Value) (h : Heap) (L : List Loc) : Prop := v = some (.int (0 : Int32)) ∧ Fr n0 L ∧ h = h0
set_option maxRecDepth 65536 in
set_option maxHeartbeats 40000000 in
theorem rm_codB (l : Launch) (Z : State) (a0 : Array Value) (hw : ∀ d ∈ tables_1, d.before a0 Z = true) (ws : List Jvm.Cond) (a1 : Addr) (k_a1 : ClassId) (h0 : Heap) (n0 : Nat) (Z0 : n0 ≤ h0.size) (V_a1 : Arv Z h0 a1 k_a1 .byte (3 : Int32) [(.int (98 : Int32)), (.int (117 : Int32)), (.int (121 : Int32))] (.int (0 : Int32))) :
    MetFree l (⟨"java/lang/StringUTF16", "coderFromArrayLen", "([BI)B"⟩ : MethodName) (head1 (Jvm.Cond.code (⟨"java/lang/StringUTF16", "coderFromArrayLen", "([BI)B"⟩ : MethodName) jdk_52_method_15_code 2 (some .byte) :: ws) ({ frames := 0, cells := 0, slots := 0, locals := 0 } : Room)) (fun a U => a = #[(.ref a1), (.int (3 : Int32))] ∧ Z.Warmed39 U.vm ∧ U.heap = h0) (fun _ _ _ _ _ => True) (fun _ U o U' => ∃ v L, o = .returned v ∧ Q_codB Z a1 k_a1 h0 n0 v U'.heap L ∧ FrameEnd U o U' L ({ frames := 0, cells := 0, slots := 0, locals := 0 } : Room).cells ({ frames := 0, cells := 0, slots := 0, locals := 0 } : Room).slots) := by
  refine MetFree.of_bodySF (plainFor_of_name pn_java_lang_StringUTF16) hisR ?_
  intro p e s m args below meth c s₁ Bd hml0 hP hK
  obtain ⟨rfl, hZ, hh⟩ := hP
  have hx := Bd.exec
  have hby := Bd.bytes
  have hml : c.maxLocals = 2 := hml0
  have hown : s.vm.findClass "java/lang/StringUTF16" = some m.cls := findClass_of_methodNamed Bd.named
  have hnm := (name_of_methodNamed Bd.named Bd.method).1
  have X0 : Stand p l e ({ frames := 0, cells := 0, slots := 0, locals := 0 } : Room) s m #[(.ref a1), (.int (3 : Int32))] below meth c s₁ [] 0 0 := Stand.of_body Bd
  have e0 : s₁.heap = h0 := by rw [← hh, Bd.state]; rfl
  have N0 := Fr.nil n0
  have pre0 : ∀ t, Steps p.tables e below (s₁.setTop (mkF m 0 #[.val (.ref a1), .val (.int (3 : Int32))] [])) t → Steps p.tables e below (s₁.setTop (entryFrame m #[(.ref a1), (.int (3 : Int32))] 2)) t := fun t k => castTop (ef_6_RI m a1 (3 : Int32)) k
  obtain ⟨clo1, Aro1, -, So1, No1, -, -⟩ := id V_a1
  obtain ⟨fs, hr, hrun, hended, hW, hsame⟩ := X0.leave (v := some (.int (0 : Int32))) (fun h => by rw [Bd.returns] at h; cases h) Bd.notSynchronized
  refine ⟨_, _, pre0 _ ?_, hrun, hended, _, _, rfl, ?_, ⟨_, rfl⟩, hW, hsame.mono (by decide) (by decide)⟩
  · show Steps p.tables e below (s₁.setTop (mkF m 0 #[.val (.ref a1), .val (.int (3 : Int32))] [])) _
    refine XS.iloadN X0.here hx rfl (hb hby d6_0) rfl ?_
    show Steps p.tables e below (s₁.setTop (mkF m 1 #[.val (.ref a1), .val (.int (3 : Int32))] [(.int (3 : Int32))])) _
    refine XS.aloadN X0.here hx rfl (hb hby d6_1) rfl rfl ?_
    show Steps p.tables e below (s₁.setTop (mkF m 2 #[.val (.ref a1), .val (.int (3 : Int32))] [(.ref a1), (.int (3 : Int32))])) _
    refine X0.arraylength hx (by rw [e0]; exact Aro1.1) (State.isArrayOf_alike hZ.alike Aro1.2.1) (g := (mkF m 2 #[.val (.ref a1), .val (.int (3 : Int32))] [(.ref a1), (.int (3 : Int32))])) rfl rfl (hb hby d6_2) _ ?_
    rw [len_of So1 No1]
    show Steps p.tables e below (s₁.setTop (mkF m 3 #[.val (.ref a1), .val (.int (3 : Int32))] [(.int (3 : Int32)), (.int (3 : Int32))])) _
    refine XS.isub X0.here hx rfl (hb hby d6_3) rfl ?_
    show Steps p.tables e below (s₁.setTop (mkF m 4 #[.val (.ref a1), .val (.int (3 : Int32))] [(.int (0 : Int32))])) _
    refine XS.bipush X0.here hx rfl (hb hby d6_4) ?_
    show Steps p.tables e below (s₁.setTop (mkF m 6 #[.val (.ref a1), .val (.int (3 : Int32))] [(.int (31 : Int32)), (.int (0 : Int32))])) _
    refine XS.iushr X0.here hx rfl (hb hby d6_6) rfl ?_
    show Steps p.tables e below (s₁.setTop (mkF m 7 #[.val (.ref a1), .val (.int (3 : Int32))] [(.int (0 : Int32))])) _
    refine XS.i2b X0.here hx rfl (hb hby d6_7) rfl ?_
    show Steps p.tables e below (s₁.setTop (mkF m 8 #[.val (.ref a1), .val (.int (3 : Int32))] [(.int (0 : Int32))])) _
    exact retN X0 hx (t := .byte) Bd.returns (by simp) (hb hby d6_8) hr
  · show Q_codB Z a1 k_a1 h0 n0 _ s₁.heap _
    rw [e0]
    exact ⟨rfl, N0, rfl⟩
theorem pd_1 : parseMethodDescriptor "([CII)[B" = some ⟨[(.array .char), .int, .int], some (.array .byte)⟩ := by decide +kernel
theorem pd_2 : parseMethodDescriptor "([BI)B" = some ⟨[(.array .byte), .int], some .byte⟩ := by decide +kernel
theorem d2_0 : decode jdk_42_method_149_code 0 = .ok (.aload_n 0, 1) := by decide +kernel
theorem d2_1 : decode jdk_42_method_149_code 1 = .ok (.invokespecial 1, 3) := by decide +kernel
theorem d2_4 : decode jdk_42_method_149_code 4 = .ok (.iload_n 3, 1) := by decide +kernel
theorem d2_5 : decode jdk_42_method_149_code 5 = .ok (.ifCond .ne 22, 3) := by decide +kernel
theorem d2_27 : decode jdk_42_method_149_code 27 = .ok (.getstatic 38, 3) := by decide +kernel
theorem d2_30 : decode jdk_42_method_149_code 30 = .ok (.ifCond .eq 28, 3) := by decide +kernel
theorem d2_33 : decode jdk_42_method_149_code 33 = .ok (.aload_n 1, 1) := by decide +kernel
theorem d2_34 : decode jdk_42_method_149_code 34 = .ok (.iload_n 2, 1) := by decide +kernel
theorem d2_35 : decode jdk_42_method_149_code 35 = .ok (.iload_n 3, 1) := by decide +kernel
theorem d2_36 : decode jdk_42_method_149_code 36 = .ok (.invokestatic 177, 3) := by decide +kernel
theorem d2_39 : decode jdk_42_method_149_code 39 = .ok (.astore 5, 2) := by decide +kernel
theorem d2_41 : decode jdk_42_method_149_code 41 = .ok (.aload_n 0, 1) := by decide +kernel
theorem d2_42 : decode jdk_42_method_149_code 42 = .ok (.aload 5, 2) := by decide +kernel
theorem d2_44 : decode jdk_42_method_149_code 44 = .ok (.iload_n 3, 1) := by decide +kernel
theorem d2_45 : decode jdk_42_method_149_code 45 = .ok (.invokestatic 47, 3) := by decide +kernel
theorem d2_48 : decode jdk_42_method_149_code 48 = .ok (.putfield 15, 3) := by decide +kernel
theorem d2_51 : decode jdk_42_method_149_code 51 = .ok (.aload_n 0, 1) := by decide +kernel
theorem d2_52 : decode jdk_42_method_149_code 52 = .ok (.aload 5, 2) := by decide +kernel
theorem d2_54 : decode jdk_42_method_149_code 54 = .ok (.putfield 9, 3) := by decide +kernel
theorem d2_57 : decode jdk_42_method_149_code 57 = .ok (.return_, 1) := by decide +kernel
theorem pn_java_lang_String : plainName "java/lang/String" = true := by first | (simp [plainName, overriddenIn]; done) | decide +kernel
theorem ef_2_RRIIN (m : MethodId) (x0 : Addr) (x1 : Addr) (x2 : Int32) (x3 : Int32) : entryFrame m #[(.ref x0), (.ref x1), (.int x2), (.int x3), .null] 6 = mkF m 0 #[.val (.ref x0), .val (.ref x1), .val (.int x2), .val (.int x3), .val .null, .unset] [] := by first | (simp [entryFrame, mkF, argsToLocals, Value.category]; done) | rfl
def Q_iniB (Z : State) (a1 : Addr) (a2 : Addr) (sc : Int32) (k_a2 : ClassId) (h0 : Heap) (n0 : Nat) (v : Option Value) (h : Heap) (L : List Loc) : Prop := ∃ (o1 : Addr), ∃ (ko1 : ClassId), v = none ∧ Fr n0 L ∧ n0 ≤ o1 ∧ h0.size ≤ o1 ∧ Keep h0 h [a1] ∧ Exa Z h a1 "java/lang/String" ∧ Fld Z h a1 "java/lang/String" "coder" "B" (.int (0 : Int32)) ∧ Fld Z h a1 "java/lang/String" "value" "[B" (.ref o1) ∧ Exa Z h o1 "[B" ∧ Arv Z h o1 ko1 .byte (3 : Int32) [(.int (98 : Int32)), (.int (117 : Int32)), (.int (121 : Int32))] (.int (0 : Int32))
set_option maxRecDepth 65536 in
set_option maxHeartbeats 40000000 in
theorem rm_iniB (l : Launch) (Z : State) (a0 : Array Value) (hw : ∀ d ∈ tables_1, d.before a0 Z = true) (ws : List Jvm.Cond) (a1 : Addr) (a2 : Addr) (sc : Int32) (k_a2 : ClassId) (h0 : Heap) (n0 : Nat) (Z0 : n0 ≤ h0.size) (S_COMPACT_STRINGS : Sta Z h0 "java/lang/String" "COMPACT_STRINGS" "Z" (.int sc)) (hsc : ¬ (sc = (0 : Int32))) (E_a2 : Exa Z h0 a2 "[C") (V_a2 : Arv Z h0 a2 k_a2 .char (3 : Int32) [(.int (98 : Int32)), (.int (117 : Int32)), (.int (121 : Int32))] (.int (0 : Int32))) (E_a1 : Exa Z h0 a1 "java/lang/String") (F_coder_a1 : Fld Z h0 a1 "java/lang/String" "coder" "B" (.int (0 : Int32))) (g_a1 : n0 ≤ a1) (F_value_a1 : Fld Z h0 a1 "java/lang/String" "value" "[B" .null) :
    MetFree l (⟨"java/lang/String", "<init>", "([CIILjava/lang/Void;)V"⟩ : MethodName) (head1 (Jvm.Cond.code (⟨"java/lang/String", "<init>", "([CIILjava/lang/Void;)V"⟩ : MethodName) jdk_42_method_149_code 6 none :: ws) ({ frames := 2, cells := 1, slots := 3, locals := 35 } : Room)) (fun a U => a = #[(.ref a1), (.ref a2), (.int (0 : Int32)), (.int (3 : Int32)), .null] ∧ Z.Warmed39 U.vm ∧ U.heap = h0) (fun _ _ _ _ _ => True) (fun _ U o U' => ∃ v L, o = .returned v ∧ Q_iniB Z a1 a2 sc k_a2 h0 n0 v U'.heap L ∧ FrameEnd U o U' L ({ frames := 2, cells := 1, slots := 3, locals := 35 } : Room).cells ({ frames := 2, cells := 1, slots := 3, locals := 35 } : Room).slots) := by
  refine MetFree.of_bodySF (plainFor_of_name pn_java_lang_String) hisR ?_
  intro p e s m args below meth c s₁ Bd hml0 hP hK
  obtain ⟨rfl, hZ, hh⟩ := hP
  have hx := Bd.exec
  have hby := Bd.bytes
  have hml : c.maxLocals = 6 := hml0
  have hown : s.vm.findClass "java/lang/String" = some m.cls := findClass_of_methodNamed Bd.named
  have hnm := (name_of_methodNamed Bd.named Bd.method).1
  have X0 : Stand p l e ({ frames := 2, cells := 1, slots := 3, locals := 35 } : Room) s m #[(.ref a1), (.ref a2), (.int (0 : Int32)), (.int (3 : Int32)), .null] below meth c s₁ [] 0 0 := Stand.of_body Bd
  have e0 : s₁.heap = h0 := by rw [← hh, Bd.state]; rfl
  have N0 := Fr.nil n0
  have pre0 : ∀ t, Steps p.tables e below (s₁.setTop (mkF m 0 #[.val (.ref a1), .val (.ref a2), .val (.int (0 : Int32)), .val (.int (3 : Int32)), .val .null, .unset] [])) t → Steps p.tables e below (s₁.setTop (entryFrame m #[(.ref a1), (.ref a2), (.int (0 : Int32)), (.int (3 : Int32)), .null] 6)) t := fun t k => castTop (ef_2_RRIIN m a1 a2 (0 : Int32) (3 : Int32)) k
  obtain ⟨T1, X1, e1, st1⟩ := initO X0 hx hZ hown (hw _ (List.mem_of_getElem? (i := 11) rfl)) (hw _ (List.mem_of_getElem? (i := 12) rfl)) (hw _ (List.mem_of_getElem? (i := 13) rfl)) e0 (g := (mkF m 1 #[.val (.ref a1), .val (.ref a2), .val (.int (0 : Int32)), .val (.int (3 : Int32)), .val .null, .unset] [(.ref a1)])) rfl (by rw [hml]; rfl) rfl (hb hby d2_1) (by decide) (W := 0) (by show 2 * 0 + _ ≤ _; exact Nat.le_of_eq rfl) (by decide)
  obtain ⟨T2, X2, e2, st2⟩ := getS2 X1 hx hZ hown (host := "") (Or.inl (hw _ (List.mem_of_getElem? (i := 14) rfl))) Via.refl e1 S_COMPACT_STRINGS (g := (mkF m 27 #[.val (.ref a1), .val (.ref a2), .val (.int (0 : Int32)), .val (.int (3 : Int32)), .val .null, .unset] [])) rfl (hb hby d2_27)
  obtain ⟨_, _, ⟨T3, L3, k3, n3⟩, -, X3, ⟨Lc3, hQ3, l3, y3, z3⟩, st3⟩ := Jvm.LawKit.callS X2 hx (y := (⟨"java/lang/StringUTF16", "compress", "([CII)[B"⟩ : MethodName)) hown (mvT hZ (hw _ (List.mem_of_getElem? (i := 15) rfl))) (mvT hZ (hw _ (List.mem_of_getElem? (i := 16) rfl))) (mvT hZ (hw _ (List.mem_of_getElem? (i := 17) rfl))) (mvT hZ (hw _ (List.mem_of_getElem? (i := 18) rfl))) (by decide) (backOf (W := 0) (rm_cmpB l Z a0 hw [] a2 k_a2 h0 n0 Z0 E_a2 V_a2) hZ (hw _ (List.mem_of_getElem? (i := 18) rfl)) (hw _ (List.mem_of_getElem? (i := 17) rfl)) (by decide) (by decide)) (g := (mkF m 36 #[.val (.ref a1), .val (.ref a2), .val (.int (0 : Int32)), .val (.int (3 : Int32)), .val .null, .unset] [(.int (3 : Int32)), (.int (0 : Int32)), (.ref a2)])) rfl (by rw [hml]; rfl) (argsL := [(.ref a2), (.int (0 : Int32)), (.int (3 : Int32))]) (rest := []) (lenOf pd_1 rfl) rfl (by show 2 * 0 + _ ≤ _; exact Nat.le_of_eq rfl) (hb hby d2_36) (fun _ _ => ⟨rfl, e2, (by decide : 0 + 1 ≤ _), (by decide : 0 + 3 ≤ _)⟩)
  dsimp only [Pt.U, Pt.locs, Pt.cells, Pt.slots] at X3 l3 y3 z3 st3 hQ3
  subst l3 y3 z3
  obtain ⟨b3_1, k3_2, rfl, Nq3, g_b3_1, szq_b3_1, Kc3, fq3_0, fq3_1⟩ := hQ3
  have sz_b3_1 : h0.size ≤ b3_1 := Nat.le_trans (Keep.refl h0 [a1]).1 szq_b3_1
  have ne_a2_b3_1 : a2 ≠ b3_1 := Nat.ne_of_lt (Nat.lt_of_lt_of_le E_a2.lt szq_b3_1)
  have ne_a1_b3_1 : a1 ≠ b3_1 := Nat.ne_of_lt (Nat.lt_of_lt_of_le E_a1.lt szq_b3_1)
  have ne_a2_a1 : a2 ≠ a1 := ne_exa E_a2 E_a1 (by decide)
  have f5 : Sta Z T3.heap "java/lang/String" "COMPACT_STRINGS" "Z" (.int sc) := own_sta_keep S_COMPACT_STRINGS Kc3 all0
  have f6 : Exa Z T3.heap a2 "[C" := E_a2.keep Kc3
  have f7 : Arv Z T3.heap a2 k_a2 .char (3 : Int32) [(.int (98 : Int32)), (.int (117 : Int32)), (.int (121 : Int32))] (.int (0 : Int32)) := V_a2.keep Kc3 nin0
  have f8 : Exa Z T3.heap a1 "java/lang/String" := E_a1.keep Kc3
  have f9 : Fld Z T3.heap a1 "java/lang/String" "coder" "B" (.int (0 : Int32)) := F_coder_a1.keep Kc3 nin0
  have f10 : Fld Z T3.heap a1 "java/lang/String" "value" "[B" .null := F_value_a1.keep Kc3 nin0
  have f11 : Arv Z T3.heap b3_1 k3_2 .byte (3 : Int32) [(.int (98 : Int32)), (.int (117 : Int32)), (.int (121 : Int32))] (.int (0 : Int32)) := fq3_1
  have K12 : Keep h0 T3.heap [a1] := (Keep.refl h0 [a1]).trans Kc3 all0
  have Zs13 : n0 ≤ T3.heap.size := Nat.le_trans Z0 Kc3.1
  have N4 := Fr.app N0 Nq3
  obtain ⟨_, _, ⟨T14, L14, k14, n14⟩, -, X14, ⟨Lc14, hQ14, l14, y14, z14⟩, st14⟩ := Jvm.LawKit.callS X3 hx (y := (⟨"java/lang/StringUTF16", "coderFromArrayLen", "([BI)B"⟩ : MethodName)) hown (mvT hZ (hw _ (List.mem_of_getElem? (i := 23) rfl))) (mvT hZ (hw _ (List.mem_of_getElem? (i := 24) rfl))) (mvT hZ (hw _ (List.mem_of_getElem? (i := 17) rfl))) (mvT hZ (hw _ (List.mem_of_getElem? (i := 25) rfl))) (by decide) (backOf (W := 1) (rm_codB l Z a0 hw [] b3_1 k3_2 T3.heap n0 Zs13 f11) hZ (hw _ (List.mem_of_getElem? (i := 25) rfl)) (hw _ (List.mem_of_getElem? (i := 17) rfl)) (by decide) (by decide)) (g := (mkF m 45 #[.val (.ref a1), .val (.ref a2), .val (.int (0 : Int32)), .val (.int (3 : Int32)), .val .null, .val (.ref b3_1)] [(.int (3 : Int32)), (.ref b3_1), (.ref a1)])) rfl (by rw [hml]; rfl) (argsL := [(.ref b3_1), (.int (3 : Int32))]) (rest := [(.ref a1)]) (lenOf pd_2 rfl) rfl (by show 2 * 0 + _ ≤ _; exact Nat.le_of_eq rfl) (hb hby d2_45) (fun _ _ => ⟨rfl, rfl, (by decide : 1 + 0 ≤ _), (by decide : 3 + 0 ≤ _)⟩)
  dsimp only [Pt.U, Pt.locs, Pt.cells, Pt.slots] at X14 l14 y14 z14 st14 hQ14
  subst l14 y14 z14
  obtain ⟨rfl, Nq14, e14⟩ := hQ14
  have N15 := Fr.app N4 Nq14
  obtain ⟨T16, h16, X16, e16, W16, st16⟩ := putFN X14 hx hZ hown (hw _ (List.mem_of_getElem? (i := 26) rfl)) Via.refl e14 f9 f8 (Or.inr ⟨(hw _ (List.mem_of_getElem? (i := 27) rfl)), rfl, hnm⟩) (hw _ (List.mem_of_getElem? (i := 2) rfl)) (ty := .byte) (v' := (.int (0 : Int32))) (by decide) rfl (by decide) (g := (mkF m 48 #[.val (.ref a1), .val (.ref a2), .val (.int (0 : Int32)), .val (.int (3 : Int32)), .val .null, .val (.ref b3_1)] [(.int (0 : Int32)), (.ref a1)])) rfl rfl (hb hby d2_48)
  have f17 : Sta Z h16 "java/lang/String" "COMPACT_STRINGS" "Z" (.int sc) := f5.wr W16
  have f18 : Exa Z h16 a2 "[C" := f6.wr W16
  have f19 : Arv Z h16 a2 k_a2 .char (3 : Int32) [(.int (98 : Int32)), (.int (117 : Int32)), (.int (121 : Int32))] (.int (0 : Int32)) := f7.other W16 ne_a2_a1
  have f20 : Exa Z h16 a1 "java/lang/String" := f8.wr W16
  have f21 : Fld Z h16 a1 "java/lang/String" "coder" "B" (.int (0 : Int32)) := f9.same W16
  have f22 : Fld Z h16 a1 "java/lang/String" "value" "[B" .null := f10.other W16 (Or.inr (slot_ne (Or.inr (hw _ (List.mem_of_getElem? (i := 29) rfl))) (Or.inr (hw _ (List.mem_of_getElem? (i := 27) rfl))) (by decide) (t := (.array .byte)) (t' := .byte) (by decide) (by decide)))
  have f23 : Exa Z h16 b3_1 "[B" := fq3_0.wr W16
  have f24 : Arv Z h16 b3_1 k3_2 .byte (3 : Int32) [(.int (98 : Int32)), (.int (117 : Int32)), (.int (121 : Int32))] (.int (0 : Int32)) := f11.other W16 (Ne.symm ne_a1_b3_1)
  have K25 : Keep h0 h16 [a1] := K12.wr W16 (Or.inl (List.mem_of_getElem? (i := 0) rfl))
  have N26 := Fr.snoc X16 N15 g_a1
  have Zs27 : n0 ≤ h16.size := Nat.le_trans Zs13 (Keep.of_wr W16).1
  obtain ⟨T28, h28, X28, e28, W28, st28⟩ := putF X16 hx hZ hown (host := "") (Or.inl (hw _ (List.mem_of_getElem? (i := 28) rfl))) Via.refl e16 f22 f20 (Or.inr ⟨(hw _ (List.mem_of_getElem? (i := 29) rfl)), rfl, hnm⟩) (hw _ (List.mem_of_getElem? (i := 2) rfl)) (ty := (.array .byte)) (by decide) rfl rfl (g := (mkF m 54 #[.val (.ref a1), .val (.ref a2), .val (.int (0 : Int32)), .val (.int (3 : Int32)), .val .null, .val (.ref b3_1)] [(.ref b3_1), (.ref a1)])) rfl rfl (hb hby d2_54)
  have f29 : Sta Z h28 "java/lang/String" "COMPACT_STRINGS" "Z" (.int sc) := f17.wr W28
  have f30 : Exa Z h28 a2 "[C" := f18.wr W28
  have f31 : Arv Z h28 a2 k_a2 .char (3 : Int32) [(.int (98 : Int32)), (.int (117 : Int32)), (.int (121 : Int32))] (.int (0 : Int32)) := f19.other W28 ne_a2_a1
  have f32 : Exa Z h28 a1 "java/lang/String" := f20.wr W28
  have f33 : Fld Z h28 a1 "java/lang/String" "coder" "B" (.int (0 : Int32)) := f21.other W28 (Or.inr (slot_ne (Or.inr (hw _ (List.mem_of_getElem? (i := 27) rfl))) (Or.inr (hw _ (List.mem_of_getElem? (i := 29) rfl))) (by decide) (t := .byte) (t' := (.array .byte)) (by decide) (by decide)))
  have f34 : Fld Z h28 a1 "java/lang/String" "value" "[B" (.ref b3_1) := f22.same W28
  have f35 : Exa Z h28 b3_1 "[B" := f23.wr W28
  have f36 : Arv Z h28 b3_1 k3_2 .byte (3 : Int32) [(.int (98 : Int32)), (.int (117 : Int32)), (.int (121 : Int32))] (.int (0 : Int32)) := f24.other W28 (Ne.symm ne_a1_b3_1)
  have K37 : Keep h0 h28 [a1] := K25.wr W28 (Or.inl (List.mem_of_getElem? (i := 0) rfl))
  have N38 := Fr.snoc X28 N26 g_a1
  have Zs39 : n0 ≤ h28.size := Nat.le_trans Zs27 (Keep.of_wr W28).1
  obtain ⟨fs, hr, hrun, hended, hW, hsame⟩ := X28.leave (v := none) (fun _ => rfl) Bd.notSynchronized
  refine ⟨_, _, pre0 _ ?_, hrun, hended, _, _, rfl, ?_, ⟨_, rfl⟩, hW, hsame.mono (by decide) (by decide)⟩
  · show Steps p.tables e below (s₁.setTop (mkF m 0 #[.val (.ref a1), .val (.ref a2), .val (.int (0 : Int32)), .val (.int (3 : Int32)), .val .null, .unset] [])) _
    refine XS.aloadN X0.here hx rfl (hb hby d2_0) rfl rfl ?_
    show Steps p.tables e below (s₁.setTop (mkF m 1 #[.val (.ref a1), .val (.ref a2), .val (.int (0 : Int32)), .val (.int (3 : Int32)), .val .null, .unset] [(.ref a1)])) _
    refine st1 _ ?_
    show Steps p.tables e below (T1.setTop (mkF m 4 #[.val (.ref a1), .val (.ref a2), .val (.int (0 : Int32)), .val (.int (3 : Int32)), .val .null, .unset] [])) _
    refine XS.iloadN X1.here hx rfl (hb hby d2_4) rfl ?_
    show Steps p.tables e below (T1.setTop (mkF m 5 #[.val (.ref a1), .val (.ref a2), .val (.int (0 : Int32)), .val (.int (3 : Int32)), .val .null, .unset] [(.int (3 : Int32))])) _
    refine XS.ifYes X1.here hx rfl (pc0 := 5) (pc' := 27) rfl (hb hby d2_5) rfl ((if0 _ _).trans (feq (by decide : ¬ ((3 : Int32) = (0 : Int32)))).2) (by decide) (by decide) ?_
    show Steps p.tables e below (T1.setTop (mkF m 27 #[.val (.ref a1), .val (.ref a2), .val (.int (0 : Int32)), .val (.int (3 : Int32)), .val .null, .unset] [])) _
    refine st2 _ ?_
    show Steps p.tables e below (T2.setTop (mkF m 30 #[.val (.ref a1), .val (.ref a2), .val (.int (0 : Int32)), .val (.int (3 : Int32)), .val .null, .unset] [(.int sc)])) _
    refine XS.ifNo X2.here hx rfl (hb hby d2_30) rfl ((if0 _ _).trans (feq hsc).1) ?_
    show Steps p.tables e below (T2.setTop (mkF m 33 #[.val (.ref a1), .val (.ref a2), .val (.int (0 : Int32)), .val (.int (3 : Int32)), .val .null, .unset] [])) _
    refine XS.aloadN X2.here hx rfl (hb hby d2_33) rfl rfl ?_
    show Steps p.tables e below (T2.setTop (mkF m 34 #[.val (.ref a1), .val (.ref a2), .val (.int (0 : Int32)), .val (.int (3 : Int32)), .val .null, .unset] [(.ref a2)])) _
    refine XS.iloadN X2.here hx rfl (hb hby d2_34) rfl ?_
    show Steps p.tables e below (T2.setTop (mkF m 35 #[.val (.ref a1), .val (.ref a2), .val (.int (0 : Int32)), .val (.int (3 : Int32)), .val .null, .unset] [(.int (0 : Int32)), (.ref a2)])) _
    refine XS.iloadN X2.here hx rfl (hb hby d2_35) rfl ?_
    show Steps p.tables e below (T2.setTop (mkF m 36 #[.val (.ref a1), .val (.ref a2), .val (.int (0 : Int32)), .val (.int (3 : Int32)), .val .null, .unset] [(.int (3 : Int32)), (.int (0 : Int32)), (.ref a2)])) _
    refine st3 _ ?_
    show Steps p.tables e below (T3.setTop (mkF m 39 #[.val (.ref a1), .val (.ref a2), .val (.int (0 : Int32)), .val (.int (3 : Int32)), .val .null, .unset] [(.ref b3_1)])) _
    refine XS.astore X3.here hx rfl (hb hby d2_39) rfl rfl (l' := #[.val (.ref a1), .val (.ref a2), .val (.int (0 : Int32)), .val (.int (3 : Int32)), .val .null, .val (.ref b3_1)]) rfl ?_
    show Steps p.tables e below (T3.setTop (mkF m 41 #[.val (.ref a1), .val (.ref a2), .val (.int (0 : Int32)), .val (.int (3 : Int32)), .val .null, .val (.ref b3_1)] [])) _
    refine XS.aloadN X3.here hx rfl (hb hby d2_41) rfl rfl ?_
    show Steps p.tables e below (T3.setTop (mkF m 42 #[.val (.ref a1), .val (.ref a2), .val (.int (0 : Int32)), .val (.int (3 : Int32)), .val .null, .val (.ref b3_1)] [(.ref a1)])) _
    refine XS.aload X3.here hx rfl (hb hby d2_42) rfl rfl ?_
    show Steps p.tables e below (T3.setTop (mkF m 44 #[.val (.ref a1), .val (.ref a2), .val (.int (0 : Int32)), .val (.int (3 : Int32)), .val .null, .val (.ref b3_1)] [(.ref b3_1), (.ref a1)])) _
    refine XS.iloadN X3.here hx rfl (hb hby d2_44) rfl ?_
    show Steps p.tables e below (T3.setTop (mkF m 45 #[.val (.ref a1), .val (.ref a2), .val (.int (0 : Int32)), .val (.int (3 : Int32)), .val .null, .val (.ref b3_1)] [(.int (3 : Int32)), (.ref b3_1), (.ref a1)])) _
    refine st14 _ ?_
    show Steps p.tables e below (T14.setTop (mkF m 48 #[.val (.ref a1), .val (.ref a2), .val (.int (0 : Int32)), .val (.int (3 : Int32)), .val .null, .val (.ref b3_1)] [(.int (0 : Int32)), (.ref a1)])) _
    refine st16 _ ?_
    show Steps p.tables e below (T16.setTop (mkF m 51 #[.val (.ref a1), .val (.ref a2), .val (.int (0 : Int32)), .val (.int (3 : Int32)), .val .null, .val (.ref b3_1)] [])) _
    refine XS.aloadN X16.here hx rfl (hb hby d2_51) rfl rfl ?_
    show Steps p.tables e below (T16.setTop (mkF m 52 #[.val (.ref a1), .val (.ref a2), .val (.int (0 : Int32)), .val (.int (3 : Int32)), .val .null, .val (.ref b3_1)] [(.ref a1)])) _
    refine XS.aload X16.here hx rfl (hb hby d2_52) rfl rfl ?_
    show Steps p.tables e below (T16.setTop (mkF m 54 #[.val (.ref a1), .val (.ref a2), .val (.int (0 : Int32)), .val (.int (3 : Int32)), .val .null, .val (.ref b3_1)] [(.ref b3_1), (.ref a1)])) _
    refine st28 _ ?_
    show Steps p.tables e below (T28.setTop (mkF m 57 #[.val (.ref a1), .val (.ref a2), .val (.int (0 : Int32)), .val (.int (3 : Int32)), .val .null, .val (.ref b3_1)] [])) _
    exact X28.returnOut hx Bd.returns (hb hby d2_57) hr
  · show Q_iniB Z a1 a2 sc k_a2 h0 n0 _ T28.heap _
    rw [e28]
    exact ⟨b3_1, k3_2, rfl, N38, g_b3_1, sz_b3_1, K37, f32, f33, f34, f35, f36⟩
theorem pd_3 : parseMethodDescriptor "([CIILjava/lang/Void;)V" = some ⟨[(.array .char), .int, .int, (.object "java/lang/Void")], none⟩ := by decide +kernel
theorem d1_0 : decode jdk_42_method_3_code 0 = .ok (.aload_n 0, 1) := by decide +kernel
theorem d1_1 : decode jdk_42_method_3_code 1 = .ok (.aload_n 1, 1) := by decide +kernel
theorem d1_2 : decode jdk_42_method_3_code 2 = .ok (.iconst 0, 1) := by decide +kernel
theorem d1_3 : decode jdk_42_method_3_code 3 = .ok (.aload_n 1, 1) := by decide +kernel
theorem d1_4 : decode jdk_42_method_3_code 4 = .ok (.arraylength, 1) := by decide +kernel
theorem d1_5 : decode jdk_42_method_3_code 5 = .ok (.aconst_null, 1) := by decide +kernel
theorem d1_6 : decode jdk_42_method_3_code 6 = .ok (.invokespecial 27, 3) := by decide +kernel
theorem d1_9 : decode jdk_42_method_3_code 9 = .ok (.return_, 1) := by decide +kernel
theorem ef_1_RR (m : MethodId) (x0 : Addr) (x1 : Addr) : entryFrame m #[(.ref x0), (.ref x1)] 2 = mkF m 0 #[.val (.ref x0), .val (.ref x1)] [] := by first | (simp [entryFrame, mkF, argsToLocals, Value.category]; done) | rfl
def Q_strB (Z : State) (a1 : Addr) (a2 : Addr) (sc : Int32) (k_a2 : ClassId) (h0 : Heap) (n0 : Nat) (v : Option Value) (h : Heap) (L : List Loc) : Prop := ∃ (o1 : Addr), ∃ (ko1 : ClassId), v = none ∧ Fr n0 L ∧ n0 ≤ o1 ∧ h0.size ≤ o1 ∧ Keep h0 h [a1] ∧ Exa Z h a1 "java/lang/String" ∧ Fld Z h a1 "java/lang/String" "coder" "B" (.int (0 : Int32)) ∧ Fld Z h a1 "java/lang/String" "value" "[B" (.ref o1) ∧ Exa Z h o1 "[B" ∧ Arv Z h o1 ko1 .byte (3 : Int32) [(.int (98 : Int32)), (.int (117 : Int32)), (.int (121 : Int32))] (.int (0 : Int32))
set_option maxRecDepth 65536 in
set_option maxHeartbeats 40000000 in
theorem rm_strB (l : Launch) (Z : State) (a0 : Array Value) (hw : ∀ d ∈ tables_1, d.before a0 Z = true) (ws : List Jvm.Cond) (a1 : Addr) (a2 : Addr) (sc : Int32) (k_a2 : ClassId) (h0 : Heap) (n0 : Nat) (Z0 : n0 ≤ h0.size) (S_COMPACT_STRINGS : Sta Z h0 "java/lang/String" "COMPACT_STRINGS" "Z" (.int sc)) (hsc : ¬ (sc = (0 : Int32))) (E_a2 : Exa Z h0 a2 "[C") (V_a2 : Arv Z h0 a2 k_a2 .char (3 : Int32) [(.int (98 : Int32)), (.int (117 : Int32)), (.int (121 : Int32))] (.int (0 : Int32))) (E_a1 : Exa Z h0 a1 "java/lang/String") (F_coder_a1 : Fld Z h0 a1 "java/lang/String" "coder" "B" (.int (0 : Int32))) (g_a1 : n0 ≤ a1) (F_value_a1 : Fld Z h0 a1 "java/lang/String" "value" "[B" .null) :
    MetFree l (⟨"java/lang/String", "<init>", "([C)V"⟩ : MethodName) (head1 (Jvm.Cond.code (⟨"java/lang/String", "<init>", "([C)V"⟩ : MethodName) jdk_42_method_3_code 2 none :: ws) ({ frames := 3, cells := 1, slots := 3, locals := 52 } : Room)) (fun a U => a = #[(.ref a1), (.ref a2)] ∧ Z.Warmed39 U.vm ∧ U.heap = h0) (fun _ _ _ _ _ => True) (fun _ U o U' => ∃ v L, o = .returned v ∧ Q_strB Z a1 a2 sc k_a2 h0 n0 v U'.heap L ∧ FrameEnd U o U' L ({ frames := 3, cells := 1, slots := 3, locals := 52 } : Room).cells ({ frames := 3, cells := 1, slots := 3, locals := 52 } : Room).slots) := by
  refine MetFree.of_bodySF (plainFor_of_name pn_java_lang_String) hisR ?_
  intro p e s m args below meth c s₁ Bd hml0 hP hK
  obtain ⟨rfl, hZ, hh⟩ := hP
  have hx := Bd.exec
  have hby := Bd.bytes
  have hml : c.maxLocals = 2 := hml0
  have hown : s.vm.findClass "java/lang/String" = some m.cls := findClass_of_methodNamed Bd.named
  have hnm := (name_of_methodNamed Bd.named Bd.method).1
  have X0 : Stand p l e ({ frames := 3, cells := 1, slots := 3, locals := 52 } : Room) s m #[(.ref a1), (.ref a2)] below meth c s₁ [] 0 0 := Stand.of_body Bd
  have e0 : s₁.heap = h0 := by rw [← hh, Bd.state]; rfl
  have N0 := Fr.nil n0
  have pre0 : ∀ t, Steps p.tables e below (s₁.setTop (mkF m 0 #[.val (.ref a1), .val (.ref a2)] [])) t → Steps p.tables e below (s₁.setTop (entryFrame m #[(.ref a1), (.ref a2)] 2)) t := fun t k => castTop (ef_1_RR m a1 a2) k
  obtain ⟨clo1, Aro1, -, So1, No1, -, -⟩ := id V_a2
  obtain ⟨_, _, ⟨T2, L2, k2, n2⟩, -, X2, ⟨Lc2, hQ2, l2, y2, z2⟩, st2⟩ := X0.specialBack hx (y := (⟨"java/lang/String", "<init>", "([CIILjava/lang/Void;)V"⟩ : MethodName)) rfl hown (mvT hZ (hw _ (List.mem_of_getElem? (i := 7) rfl))) (mvT hZ (hw _ (List.mem_of_getElem? (i := 8) rfl))) (mvT hZ (hw _ (List.mem_of_getElem? (i := 10) rfl))) (by decide) (backOf (W := 0) (rm_iniB l Z a0 hw [] a1 a2 sc k_a2 h0 n0 Z0 S_COMPACT_STRINGS hsc E_a2 V_a2 E_a1 F_coder_a1 g_a1 F_value_a1) hZ (hw _ (List.mem_of_getElem? (i := 10) rfl)) (hw _ (List.mem_of_getElem? (i := 3) rfl)) (by decide) (by decide)) (g := (mkF m 6 #[.val (.ref a1), .val (.ref a2)] [.null, (.int (3 : Int32)), (.int (0 : Int32)), (.ref a2), (.ref a1)])) rfl (by rw [hml]; rfl) (Steps.refl _) (a := a1) (argsL := [(.ref a2), (.int (0 : Int32)), (.int (3 : Int32)), .null]) (rest := []) (lenOf pd_3 rfl) rfl (by show 2 * 0 + _ ≤ _; exact Nat.le_of_eq rfl) (hb hby d1_6) (fun _ _ => ⟨rfl, e0, (by decide : 0 + 1 ≤ _), (by decide : 0 + 3 ≤ _)⟩)
  dsimp only [Pt.U, Pt.locs, Pt.cells, Pt.slots] at X2 l2 y2 z2 st2 hQ2
  subst l2 y2 z2
  obtain ⟨b2_1, k2_2, rfl, Nq2, g_b2_1, szq_b2_1, Kc2, fq2_0, fq2_1, fq2_2, fq2_3, fq2_4⟩ := hQ2
  have sz_b2_1 : h0.size ≤ b2_1 := Nat.le_trans (Keep.refl h0 [a1]).1 szq_b2_1
  have ne_a2_b2_1 : a2 ≠ b2_1 := Nat.ne_of_lt (Nat.lt_of_lt_of_le E_a2.lt szq_b2_1)
  have ne_a1_b2_1 : a1 ≠ b2_1 := Nat.ne_of_lt (Nat.lt_of_lt_of_le E_a1.lt szq_b2_1)
  have ne_a2_a1 : a2 ≠ a1 := ne_exa E_a2 E_a1 (by decide)
  have f4 : Sta Z T2.heap "java/lang/String" "COMPACT_STRINGS" "Z" (.int sc) := own_sta_keep S_COMPACT_STRINGS Kc2 (allS (own_plain_cell E_a1) all0)
  have f5 : Exa Z T2.heap a2 "[C" := E_a2.keep Kc2
  have f6 : Arv Z T2.heap a2 k_a2 .char (3 : Int32) [(.int (98 : Int32)), (.int (117 : Int32)), (.int (121 : Int32))] (.int (0 : Int32)) := V_a2.keep Kc2 (ninS ne_a2_a1 nin0)
  have f7 : Fld Z T2.heap a1 "java/lang/String" "coder" "B" (.int (0 : Int32)) := fq2_1
  have f8 : Fld Z T2.heap a1 "java/lang/String" "value" "[B" (.ref b2_1) := fq2_2
  have f9 : Arv Z T2.heap b2_1 k2_2 .byte (3 : Int32) [(.int (98 : Int32)), (.int (117 : Int32)), (.int (121 : Int32))] (.int (0 : Int32)) := fq2_4
  have K10 : Keep h0 T2.heap [a1] := (Keep.refl h0 [a1]).trans Kc2 (allS (Or.inl (List.mem_of_getElem? (i := 0) rfl)) all0)
  have Zs11 : n0 ≤ T2.heap.size := Nat.le_trans Z0 Kc2.1
  have N3 := Fr.app N0 Nq2
  obtain ⟨fs, hr, hrun, hended, hW, hsame⟩ := X2.leave (v := none) (fun _ => rfl) Bd.notSynchronized
  refine ⟨_, _, pre0 _ ?_, hrun, hended, _, _, rfl, ?_, ⟨_, rfl⟩, hW, hsame.mono (by decide) (by decide)⟩
  · show Steps p.tables e below (s₁.setTop (mkF m 0 #[.val (.ref a1), .val (.ref a2)] [])) _
    refine XS.aloadN X0.here hx rfl (hb hby d1_0) rfl rfl ?_
    show Steps p.tables e below (s₁.setTop (mkF m 1 #[.val (.ref a1), .val (.ref a2)] [(.ref a1)])) _
    refine XS.aloadN X0.here hx rfl (hb hby d1_1) rfl rfl ?_
    show Steps p.tables e below (s₁.setTop (mkF m 2 #[.val (.ref a1), .val (.ref a2)] [(.ref a2), (.ref a1)])) _
    refine XS.iconst X0.here hx rfl (hb hby d1_2) ?_
    show Steps p.tables e below (s₁.setTop (mkF m 3 #[.val (.ref a1), .val (.ref a2)] [(.int (0 : Int32)), (.ref a2), (.ref a1)])) _
    refine XS.aloadN X0.here hx rfl (hb hby d1_3) rfl rfl ?_
    show Steps p.tables e below (s₁.setTop (mkF m 4 #[.val (.ref a1), .val (.ref a2)] [(.ref a2), (.int (0 : Int32)), (.ref a2), (.ref a1)])) _
    refine X0.arraylength hx (by rw [e0]; exact Aro1.1) (State.isArrayOf_alike hZ.alike Aro1.2.1) (g := (mkF m 4 #[.val (.ref a1), .val (.ref a2)] [(.ref a2), (.int (0 : Int32)), (.ref a2), (.ref a1)])) rfl rfl (hb hby d1_4) _ ?_
    rw [len_of So1 No1]
    show Steps p.tables e below (s₁.setTop (mkF m 5 #[.val (.ref a1), .val (.ref a2)] [(.int (3 : Int32)), (.int (0 : Int32)), (.ref a2), (.ref a1)])) _
    refine XS.aconstNull X0.here hx rfl (hb hby d1_5) ?_
    show Steps p.tables e below (s₁.setTop (mkF m 6 #[.val (.ref a1), .val (.ref a2)] [.null, (.int (3 : Int32)), (.int (0 : Int32)), (.ref a2), (.ref a1)])) _
    refine st2.trans ?_
    show Steps p.tables e below (T2.setTop (mkF m 9 #[.val (.ref a1), .val (.ref a2)] [])) _
    exact X2.returnOut hx Bd.returns (hb hby d1_9) hr
  · show Q_strB Z a1 a2 sc k_a2 h0 n0 _ T2.heap _
    exact ⟨b2_1, k2_2, rfl, N3, g_b2_1, sz_b2_1, K10, fq2_0, f7, f8, fq2_3, f9⟩
def Q_compS (Z : State) (a1 : Addr) (a3 : Addr) (k_a1 : ClassId) (k_a3 : ClassId) (h0 : Heap) (n0 : Nat) (v : Option Value) (h : Heap) (L : List Loc) : Prop := v = some (.int (4 : Int32)) ∧ Fr n0 L ∧ Keep h0 h [a3] ∧ Exa Z h a3 "[B" ∧ Arv Z h a3 k_a3 .byte (4 : Int32) [(.int (115 : Int32)), (.int (101 : Int32)), (.int (108 : Int32)), (.int (108 : Int32))] (.int (0 : Int32))
set_option maxRecDepth 65536 in
set_option maxHeartbeats 40000000 in
theorem rm_compS (l : Launch) (Z : State) (a0 : Array Value) (hw : ∀ d ∈ tables_1, d.before a0 Z = true) (ws : List Jvm.Cond) (a1 : Addr) (a3 : Addr) (k_a1 : ClassId) (k_a3 : ClassId) (h0 : Heap) (n0 : Nat) (Z0 : n0 ≤ h0.size) (E_a1 : Exa Z h0 a1 "[C") (E_a3 : Exa Z h0 a3 "[B") (V_a1 : Arv Z h0 a1 k_a1 .char (4 : Int32) [(.int (115 : Int32)), (.int (101 : Int32)), (.int (108 : Int32)), (.int (108 : Int32))] (.int (0 : Int32))) (V_a3 : Arv Z h0 a3 k_a3 .byte (4 : Int32) [(.int (0 : Int32)), (.int (0 : Int32)), (.int (0 : Int32)), (.int (0 : Int32))] (.int (0 : Int32))) (g_a3 : n0 ≤ a3) :
    MetFree l (⟨"java/lang/StringUTF16", "compress", "([CI[BII)I"⟩ : MethodName) (head1 (Jvm.Cond.code (⟨"java/lang/StringUTF16", "compress", "([CI[BII)I"⟩ : MethodName) jdk_52_method_21_code 7 (some .int) :: ws) ({ frames := 0, cells := 0, slots := 0, locals := 0 } : Room)) (fun a U => a = #[(.ref a1), (.int (0 : Int32)), (.ref a3), (.int (0 : Int32)), (.int (4 : Int32))] ∧ Z.Warmed39 U.vm ∧ U.heap = h0) (fun _ _ _ _ _ => True) (fun _ U o U' => ∃ v L, o = .returned v ∧ Q_compS Z a1 a3 k_a1 k_a3 h0 n0 v U'.heap L ∧ FrameEnd U o U' L ({ frames := 0, cells := 0, slots := 0, locals := 0 } : Room).cells ({ frames := 0, cells := 0, slots := 0, locals := 0 } : Room).slots) := by
  refine MetFree.of_bodySF (plainFor_of_name pn_java_lang_StringUTF16) hisR ?_
  intro p e s m args below meth c s₁ Bd hml0 hP hK
  obtain ⟨rfl, hZ, hh⟩ := hP
  have hx := Bd.exec
  have hby := Bd.bytes
  have hml : c.maxLocals = 7 := hml0
  have hown : s.vm.findClass "java/lang/StringUTF16" = some m.cls := findClass_of_methodNamed Bd.named
  have hnm := (name_of_methodNamed Bd.named Bd.method).1
  have X0 : Stand p l e ({ frames := 0, cells := 0, slots := 0, locals := 0 } : Room) s m #[(.ref a1), (.int (0 : Int32)), (.ref a3), (.int (0 : Int32)), (.int (4 : Int32))] below meth c s₁ [] 0 0 := Stand.of_body Bd
  have e0 : s₁.heap = h0 := by rw [← hh, Bd.state]; rfl
  have N0 := Fr.nil n0
  have pre0 : ∀ t, Steps p.tables e below (s₁.setTop (mkF m 0 #[.val (.ref a1), .val (.int (0 : Int32)), .val (.ref a3), .val (.int (0 : Int32)), .val (.int (4 : Int32)), .unset, .unset] [])) t → Steps p.tables e below (s₁.setTop (entryFrame m #[(.ref a1), (.int (0 : Int32)), (.ref a3), (.int (0 : Int32)), (.int (4 : Int32))] 7)) t := fun t k => castTop (ef_5_RIRII m a1 (0 : Int32) a3 (0 : Int32) (4 : Int32)) k
  obtain ⟨clo1, Aro1, qo1, So1, No1, Ho1, Go1⟩ := id V_a1
  have hino1 : ¬ ((0 : Int32) < 0 ∨ clo1.slots.size ≤ ((0 : Int32)).toNatClampNeg) := inb_of So1 ⟨by decide, by decide⟩
  obtain ⟨clo2, Aro2, qo2, So2, No2, Ho2, Go2⟩ := id V_a3
  have hino2 : ¬ ((0 : Int32) < 0 ∨ clo2.slots.size ≤ ((0 : Int32)).toNatClampNeg) := inb_of So2 ⟨by decide, by decide⟩
  obtain ⟨T3, h3, X3, e3, W3, st3⟩ := stB X0 hx hZ e0 Aro2 (j := (0 : Int32)) hino2 (g := (mkF m 31 #[.val (.ref a1), .val (.int (0 : Int32)), .val (.ref a3), .val (.int (0 : Int32)), .val (.int (4 : Int32)), .val (.int (0 : Int32)), .val (.int (115 : Int32))] [(.int (115 : Int32)), (.int (0 : Int32)), (.ref a3)])) rfl rfl (hb hby d5_31)
  have f4 : Arv Z h3 a3 k_a3 .byte (4 : Int32) [(.int (115 : Int32)), (.int (0 : Int32)), (.int (0 : Int32)), (.int (0 : Int32))] (.int (0 : Int32)) := Arv.set Aro2 qo2 So2 No2 Ho2 Go2 (fits_nar_byte _) W3 0 rfl (by decide)
  have ne_a1_a3 : a1 ≠ a3 := ne_exa E_a1 E_a3 (by decide)
  have f5 : Exa Z h3 a1 "[C" := E_a1.wr W3
  have f6 : Exa Z h3 a3 "[B" := E_a3.wr W3
  have f7 : Arv Z h3 a1 k_a1 .char (4 : Int32) [(.int (115 : Int32)), (.int (101 : Int32)), (.int (108 : Int32)), (.int (108 : Int32))] (.int (0 : Int32)) := V_a1.other W3 ne_a1_a3
  have K8 : Keep h0 h3 [a3] := (Keep.refl h0 [a3]).wr W3 (Or.inl (List.mem_of_getElem? (i := 0) rfl))
  have N9 := Fr.snoc X3 N0 g_a3
  have Zs10 : n0 ≤ h3.size := Nat.le_trans Z0 (Keep.of_wr W3).1
  obtain ⟨clo11, Aro11, qo11, So11, No11, Ho11, Go11⟩ := id f7
  have hino11 : ¬ ((1 : Int32) < 0 ∨ clo11.slots.size ≤ ((1 : Int32)).toNatClampNeg) := inb_of So11 ⟨by decide, by decide⟩
  obtain ⟨clo12, Aro12, qo12, So12, No12, Ho12, Go12⟩ := id f4
  have hino12 : ¬ ((1 : Int32) < 0 ∨ clo12.slots.size ≤ ((1 : Int32)).toNatClampNeg) := inb_of So12 ⟨by decide, by decide⟩
  obtain ⟨T13, h13, X13, e13, W13, st13⟩ := stB X3 hx hZ e3 Aro12 (j := (1 : Int32)) hino12 (g := (mkF m 31 #[.val (.ref a1), .val (.int (1 : Int32)), .val (.ref a3), .val (.int (1 : Int32)), .val (.int (4 : Int32)), .val (.int (1 : Int32)), .val (.int (101 : Int32))] [(.int (101 : Int32)), (.int (1 : Int32)), (.ref a3)])) rfl rfl (hb hby d5_31)
  have f14 : Arv Z h13 a3 k_a3 .byte (4 : Int32) [(.int (115 : Int32)), (.int (101 : Int32)), (.int (0 : Int32)), (.int (0 : Int32))] (.int (0 : Int32)) := Arv.set Aro12 qo12 So12 No12 Ho12 Go12 (fits_nar_byte _) W13 1 rfl (by decide)
  have f15 : Exa Z h13 a1 "[C" := f5.wr W13
  have f16 : Exa Z h13 a3 "[B" := f6.wr W13
  have f17 : Arv Z h13 a1 k_a1 .char (4 : Int32) [(.int (115 : Int32)), (.int (101 : Int32)), (.int (108 : Int32)), (.int (108 : Int32))] (.int (0 : Int32)) := f7.other W13 ne_a1_a3
  have K18 : Keep h0 h13 [a3] := K8.wr W13 (Or.inl (List.mem_of_getElem? (i := 0) rfl))
  have N19 := Fr.snoc X13 N9 g_a3
  have Zs20 : n0 ≤ h13.size := Nat.le_trans Zs10 (Keep.of_wr W13).1
  obtain ⟨clo21, Aro21, qo21, So21, No21, Ho21, Go21⟩ := id f17
  have hino21 : ¬ ((2 : Int32) < 0 ∨ clo21.slots.size ≤ ((2 : Int32)).toNatClampNeg) := inb_of So21 ⟨by decide, by decide⟩
  obtain ⟨clo22, Aro22, qo22, So22, No22, Ho22, Go22⟩ := id f14
  have hino22 : ¬ ((2 : Int32) < 0 ∨ clo22.slots.size ≤ ((2 : Int32)).toNatClampNeg) := inb_of So22 ⟨by decide, by decide⟩
  obtain ⟨T23, h23, X23, e23, W23, st23⟩ := stB X13 hx hZ e13 Aro22 (j := (2 : Int32)) hino22 (g := (mkF m 31 #[.val (.ref a1), .val (.int (2 : Int32)), .val (.ref a3), .val (.int (2 : Int32)), .val (.int (4 : Int32)), .val (.int (2 : Int32)), .val (.int (108 : Int32))] [(.int (108 : Int32)), (.int (2 : Int32)), (.ref a3)])) rfl rfl (hb hby d5_31)
  have f24 : Arv Z h23 a3 k_a3 .byte (4 : Int32) [(.int (115 : Int32)), (.int (101 : Int32)), (.int (108 : Int32)), (.int (0 : Int32))] (.int (0 : Int32)) := Arv.set Aro22 qo22 So22 No22 Ho22 Go22 (fits_nar_byte _) W23 2 rfl (by decide)
  have f25 : Exa Z h23 a1 "[C" := f15.wr W23
  have f26 : Exa Z h23 a3 "[B" := f16.wr W23
  have f27 : Arv Z h23 a1 k_a1 .char (4 : Int32) [(.int (115 : Int32)), (.int (101 : Int32)), (.int (108 : Int32)), (.int (108 : Int32))] (.int (0 : Int32)) := f17.other W23 ne_a1_a3
  have K28 : Keep h0 h23 [a3] := K18.wr W23 (Or.inl (List.mem_of_getElem? (i := 0) rfl))
  have N29 := Fr.snoc X23 N19 g_a3
  have Zs30 : n0 ≤ h23.size := Nat.le_trans Zs20 (Keep.of_wr W23).1
  obtain ⟨clo31, Aro31, qo31, So31, No31, Ho31, Go31⟩ := id f27
  have hino31 : ¬ ((3 : Int32) < 0 ∨ clo31.slots.size ≤ ((3 : Int32)).toNatClampNeg) := inb_of So31 ⟨by decide, by decide⟩
  obtain ⟨clo32, Aro32, qo32, So32, No32, Ho32, Go32⟩ := id f24
  have hino32 : ¬ ((3 : Int32) < 0 ∨ clo32.slots.size ≤ ((3 : Int32)).toNatClampNeg) := inb_of So32 ⟨by decide, by decide⟩
  obtain ⟨T33, h33, X33, e33, W33, st33⟩ := stB X23 hx hZ e23 Aro32 (j := (3 : Int32)) hino32 (g := (mkF m 31 #[.val (.ref a1), .val (.int (3 : Int32)), .val (.ref a3), .val (.int (3 : Int32)), .val (.int (4 : Int32)), .val (.int (3 : Int32)), .val (.int (108 : Int32))] [(.int (108 : Int32)), (.int (3 : Int32)), (.ref a3)])) rfl rfl (hb hby d5_31)
  have f34 : Arv Z h33 a3 k_a3 .byte (4 : Int32) [(.int (115 : Int32)), (.int (101 : Int32)), (.int (108 : Int32)), (.int (108 : Int32))] (.int (0 : Int32)) := Arv.set Aro32 qo32 So32 No32 Ho32 Go32 (fits_nar_byte _) W33 3 rfl (by decide)
  have f35 : Exa Z h33 a1 "[C" := f25.wr W33
  have f36 : Exa Z h33 a3 "[B" := f26.wr W33
  have f37 : Arv Z h33 a1 k_a1 .char (4 : Int32) [(.int (115 : Int32)), (.int (101 : Int32)), (.int (108 : Int32)), (.int (108 : Int32))] (.int (0 : Int32)) := f27.other W33 ne_a1_a3
  have K38 : Keep h0 h33 [a3] := K28.wr W33 (Or.inl (List.mem_of_getElem? (i := 0) rfl))
  have N39 := Fr.snoc X33 N29 g_a3
  have Zs40 : n0 ≤ h33.size := Nat.le_trans Zs30 (Keep.of_wr W33).1
  obtain ⟨fs, hr, hrun, hended, hW, hsame⟩ := X33.leave (v := some (.int (4 : Int32))) (fun h => by rw [Bd.returns] at h; cases h) Bd.notSynchronized
  refine ⟨_, _, pre0 _ ?_, hrun, hended, _, _, rfl, ?_, ⟨_, rfl⟩, hW, hsame.mono (by decide) (by decide)⟩
  · show Steps p.tables e below (s₁.setTop (mkF m 0 #[.val (.ref a1), .val (.int (0 : Int32)), .val (.ref a3), .val (.int (0 : Int32)), .val (.int (4 : Int32)), .unset, .unset] [])) _
    refine XS.iconst X0.here hx rfl (hb hby d5_0) ?_
    show Steps p.tables e below (s₁.setTop (mkF m 1 #[.val (.ref a1), .val (.int (0 : Int32)), .val (.ref a3), .val (.int (0 : Int32)), .val (.int (4 : Int32)), .unset, .unset] [(.int (0 : Int32))])) _
    refine XS.istore X0.here hx rfl (hb hby d5_1) rfl (l' := #[.val (.ref a1), .val (.int (0 : Int32)), .val (.ref a3), .val (.int (0 : Int32)), .val (.int (4 : Int32)), .val (.int (0 : Int32)), .unset]) rfl ?_
    show Steps p.tables e below (s₁.setTop (mkF m 3 #[.val (.ref a1), .val (.int (0 : Int32)), .val (.ref a3), .val (.int (0 : Int32)), .val (.int (4 : Int32)), .val (.int (0 : Int32)), .unset] [])) _
    refine XS.iload X0.here hx rfl (hb hby d5_3) rfl ?_
    show Steps p.tables e below (s₁.setTop (mkF m 5 #[.val (.ref a1), .val (.int (0 : Int32)), .val (.ref a3), .val (.int (0 : Int32)), .val (.int (4 : Int32)), .val (.int (0 : Int32)), .unset] [(.int (0 : Int32))])) _
    refine XS.iload X0.here hx rfl (hb hby d5_5) rfl ?_
    show Steps p.tables e below (s₁.setTop (mkF m 7 #[.val (.ref a1), .val (.int (0 : Int32)), .val (.ref a3), .val (.int (0 : Int32)), .val (.int (4 : Int32)), .val (.int (0 : Int32)), .unset] [(.int (4 : Int32)), (.int (0 : Int32))])) _
    refine XS.icmpNo X0.here hx rfl (hb hby d5_7) rfl (tlt (by decide : (0 : Int32) < (4 : Int32))).2.1 ?_
    show Steps p.tables e below (s₁.setTop (mkF m 10 #[.val (.ref a1), .val (.int (0 : Int32)), .val (.ref a3), .val (.int (0 : Int32)), .val (.int (4 : Int32)), .val (.int (0 : Int32)), .unset] [])) _
    refine XS.aloadN X0.here hx rfl (hb hby d5_10) rfl rfl ?_
    show Steps p.tables e below (s₁.setTop (mkF m 11 #[.val (.ref a1), .val (.int (0 : Int32)), .val (.ref a3), .val (.int (0 : Int32)), .val (.int (4 : Int32)), .val (.int (0 : Int32)), .unset] [(.ref a1)])) _
    refine XS.iloadN X0.here hx rfl (hb hby d5_11) rfl ?_
    show Steps p.tables e below (s₁.setTop (mkF m 12 #[.val (.ref a1), .val (.int (0 : Int32)), .val (.ref a3), .val (.int (0 : Int32)), .val (.int (4 : Int32)), .val (.int (0 : Int32)), .unset] [(.int (0 : Int32)), (.ref a1)])) _
    refine X0.caload hx (j := (0 : Int32)) (v := (.int (115 : Int32))) (by rw [e0]; exact Aro1.1) (State.isArrayOf_alike hZ.alike Aro1.2.1) Aro1.2.2 hino1 (Ho1.at hino1 rfl) (g := (mkF m 12 #[.val (.ref a1), .val (.int (0 : Int32)), .val (.ref a3), .val (.int (0 : Int32)), .val (.int (4 : Int32)), .val (.int (0 : Int32)), .unset] [(.int (0 : Int32)), (.ref a1)])) rfl rfl (hb hby d5_12) _ ?_
    show Steps p.tables e below (s₁.setTop (mkF m 13 #[.val (.ref a1), .val (.int (0 : Int32)), .val (.ref a3), .val (.int (0 : Int32)), .val (.int (4 : Int32)), .val (.int (0 : Int32)), .unset] [(.int (115 : Int32))])) _
    refine XS.istore X0.here hx rfl (hb hby d5_13) rfl (l' := #[.val (.ref a1), .val (.int (0 : Int32)), .val (.ref a3), .val (.int (0 : Int32)), .val (.int (4 : Int32)), .val (.int (0 : Int32)), .val (.int (115 : Int32))]) rfl ?_
    show Steps p.tables e below (s₁.setTop (mkF m 15 #[.val (.ref a1), .val (.int (0 : Int32)), .val (.ref a3), .val (.int (0 : Int32)), .val (.int (4 : Int32)), .val (.int (0 : Int32)), .val (.int (115 : Int32))] [])) _
    refine XS.iload X0.here hx rfl (hb hby d5_15) rfl ?_
    show Steps p.tables e below (s₁.setTop (mkF m 17 #[.val (.ref a1), .val (.int (0 : Int32)), .val (.ref a3), .val (.int (0 : Int32)), .val (.int (4 : Int32)), .val (.int (0 : Int32)), .val (.int (115 : Int32))] [(.int (115 : Int32))])) _
    refine XS.sipush X0.here hx rfl (hb hby d5_17) ?_
    show Steps p.tables e below (s₁.setTop (mkF m 20 #[.val (.ref a1), .val (.int (0 : Int32)), .val (.ref a3), .val (.int (0 : Int32)), .val (.int (4 : Int32)), .val (.int (0 : Int32)), .val (.int (115 : Int32))] [(.int (255 : Int32)), (.int (115 : Int32))])) _
    refine XS.icmpYes X0.here hx rfl (pc0 := 20) (pc' := 26) rfl (hb hby d5_20) rfl (flt (by decide : ¬ ((255 : Int32) < (115 : Int32)))).2.2.2 (by decide) (by decide) ?_
    show Steps p.tables e below (s₁.setTop (mkF m 26 #[.val (.ref a1), .val (.int (0 : Int32)), .val (.ref a3), .val (.int (0 : Int32)), .val (.int (4 : Int32)), .val (.int (0 : Int32)), .val (.int (115 : Int32))] [])) _
    refine XS.aloadN X0.here hx rfl (hb hby d5_26) rfl rfl ?_
    show Steps p.tables e below (s₁.setTop (mkF m 27 #[.val (.ref a1), .val (.int (0 : Int32)), .val (.ref a3), .val (.int (0 : Int32)), .val (.int (4 : Int32)), .val (.int (0 : Int32)), .val (.int (115 : Int32))] [(.ref a3)])) _
    refine XS.iloadN X0.here hx rfl (hb hby d5_27) rfl ?_
    show Steps p.tables e below (s₁.setTop (mkF m 28 #[.val (.ref a1), .val (.int (0 : Int32)), .val (.ref a3), .val (.int (0 : Int32)), .val (.int (4 : Int32)), .val (.int (0 : Int32)), .val (.int (115 : Int32))] [(.int (0 : Int32)), (.ref a3)])) _
    refine XS.iload X0.here hx rfl (hb hby d5_28) rfl ?_
    show Steps p.tables e below (s₁.setTop (mkF m 30 #[.val (.ref a1), .val (.int (0 : Int32)), .val (.ref a3), .val (.int (0 : Int32)), .val (.int (4 : Int32)), .val (.int (0 : Int32)), .val (.int (115 : Int32))] [(.int (115 : Int32)), (.int (0 : Int32)), (.ref a3)])) _
    refine XS.i2b X0.here hx rfl (hb hby d5_30) rfl ?_
    show Steps p.tables e below (s₁.setTop (mkF m 31 #[.val (.ref a1), .val (.int (0 : Int32)), .val (.ref a3), .val (.int (0 : Int32)), .val (.int (4 : Int32)), .val (.int (0 : Int32)), .val (.int (115 : Int32))] [(.int (115 : Int32)), (.int (0 : Int32)), (.ref a3)])) _
    refine st3 _ ?_
    show Steps p.tables e below (T3.setTop (mkF m 32 #[.val (.ref a1), .val (.int (0 : Int32)), .val (.ref a3), .val (.int (0 : Int32)), .val (.int (4 : Int32)), .val (.int (0 : Int32)), .val (.int (115 : Int32))] [])) _
    refine XS.iinc X3.here hx rfl (hb hby d5_32) rfl (l' := #[.val (.ref a1), .val (.int (1 : Int32)), .val (.ref a3), .val (.int (0 : Int32)), .val (.int (4 : Int32)), .val (.int (0 : Int32)), .val (.int (115 : Int32))]) rfl ?_
    show Steps p.tables e below (T3.setTop (mkF m 35 #[.val (.ref a1), .val (.int (1 : Int32)), .val (.ref a3), .val (.int (0 : Int32)), .val (.int (4 : Int32)), .val (.int (0 : Int32)), .val (.int (115 : Int32))] [])) _
    refine XS.iinc X3.here hx rfl (hb hby d5_35) rfl (l' := #[.val (.ref a1), .val (.int (1 : Int32)), .val (.ref a3), .val (.int (1 : Int32)), .val (.int (4 : Int32)), .val (.int (0 : Int32)), .val (.int (115 : Int32))]) rfl ?_
    show Steps p.tables e below (T3.setTop (mkF m 38 #[.val (.ref a1), .val (.int (1 : Int32)), .val (.ref a3), .val (.int (1 : Int32)), .val (.int (4 : Int32)), .val (.int (0 : Int32)), .val (.int (115 : Int32))] [])) _
    refine XS.iinc X3.here hx rfl (hb hby d5_38) rfl (l' := #[.val (.ref a1), .val (.int (1 : Int32)), .val (.ref a3), .val (.int (1 : Int32)), .val (.int (4 : Int32)), .val (.int (1 : Int32)), .val (.int (115 : Int32))]) rfl ?_
    show Steps p.tables e below (T3.setTop (mkF m 41 #[.val (.ref a1), .val (.int (1 : Int32)), .val (.ref a3), .val (.int (1 : Int32)), .val (.int (4 : Int32)), .val (.int (1 : Int32)), .val (.int (115 : Int32))] [])) _
    refine XS.goto X3.here hx rfl (pc0 := 41) (pc' := 3) rfl (hb hby d5_41) (by decide) (by decide) ?_
    show Steps p.tables e below (T3.setTop (mkF m 3 #[.val (.ref a1), .val (.int (1 : Int32)), .val (.ref a3), .val (.int (1 : Int32)), .val (.int (4 : Int32)), .val (.int (1 : Int32)), .val (.int (115 : Int32))] [])) _
    refine XS.iload X3.here hx rfl (hb hby d5_3) rfl ?_
    show Steps p.tables e below (T3.setTop (mkF m 5 #[.val (.ref a1), .val (.int (1 : Int32)), .val (.ref a3), .val (.int (1 : Int32)), .val (.int (4 : Int32)), .val (.int (1 : Int32)), .val (.int (115 : Int32))] [(.int (1 : Int32))])) _
    refine XS.iload X3.here hx rfl (hb hby d5_5) rfl ?_
    show Steps p.tables e below (T3.setTop (mkF m 7 #[.val (.ref a1), .val (.int (1 : Int32)), .val (.ref a3), .val (.int (1 : Int32)), .val (.int (4 : Int32)), .val (.int (1 : Int32)), .val (.int (115 : Int32))] [(.int (4 : Int32)), (.int (1 : Int32))])) _
    refine XS.icmpNo X3.here hx rfl (hb hby d5_7) rfl (tlt (by decide : (1 : Int32) < (4 : Int32))).2.1 ?_
    show Steps p.tables e below (T3.setTop (mkF m 10 #[.val (.ref a1), .val (.int (1 : Int32)), .val (.ref a3), .val (.int (1 : Int32)), .val (.int (4 : Int32)), .val (.int (1 : Int32)), .val (.int (115 : Int32))] [])) _
    refine XS.aloadN X3.here hx rfl (hb hby d5_10) rfl rfl ?_
    show Steps p.tables e below (T3.setTop (mkF m 11 #[.val (.ref a1), .val (.int (1 : Int32)), .val (.ref a3), .val (.int (1 : Int32)), .val (.int (4 : Int32)), .val (.int (1 : Int32)), .val (.int (115 : Int32))] [(.ref a1)])) _
    refine XS.iloadN X3.here hx rfl (hb hby d5_11) rfl ?_
    show Steps p.tables e below (T3.setTop (mkF m 12 #[.val (.ref a1), .val (.int (1 : Int32)), .val (.ref a3), .val (.int (1 : Int32)), .val (.int (4 : Int32)), .val (.int (1 : Int32)), .val (.int (115 : Int32))] [(.int (1 : Int32)), (.ref a1)])) _
    refine X3.caload hx (j := (1 : Int32)) (v := (.int (101 : Int32))) (by rw [e3]; exact Aro11.1) (State.isArrayOf_alike hZ.alike Aro11.2.1) Aro11.2.2 hino11 (Ho11.at hino11 rfl) (g := (mkF m 12 #[.val (.ref a1), .val (.int (1 : Int32)), .val (.ref a3), .val (.int (1 : Int32)), .val (.int (4 : Int32)), .val (.int (1 : Int32)), .val (.int (115 : Int32))] [(.int (1 : Int32)), (.ref a1)])) rfl rfl (hb hby d5_12) _ ?_
    show Steps p.tables e below (T3.setTop (mkF m 13 #[.val (.ref a1), .val (.int (1 : Int32)), .val (.ref a3), .val (.int (1 : Int32)), .val (.int (4 : Int32)), .val (.int (1 : Int32)), .val (.int (115 : Int32))] [(.int (101 : Int32))])) _
    refine XS.istore X3.here hx rfl (hb hby d5_13) rfl (l' := #[.val (.ref a1), .val (.int (1 : Int32)), .val (.ref a3), .val (.int (1 : Int32)), .val (.int (4 : Int32)), .val (.int (1 : Int32)), .val (.int (101 : Int32))]) rfl ?_
    show Steps p.tables e below (T3.setTop (mkF m 15 #[.val (.ref a1), .val (.int (1 : Int32)), .val (.ref a3), .val (.int (1 : Int32)), .val (.int (4 : Int32)), .val (.int (1 : Int32)), .val (.int (101 : Int32))] [])) _
    refine XS.iload X3.here hx rfl (hb hby d5_15) rfl ?_
    show Steps p.tables e below (T3.setTop (mkF m 17 #[.val (.ref a1), .val (.int (1 : Int32)), .val (.ref a3), .val (.int (1 : Int32)), .val (.int (4 : Int32)), .val (.int (1 : Int32)), .val (.int (101 : Int32))] [(.int (101 : Int32))])) _
    refine XS.sipush X3.here hx rfl (hb hby d5_17) ?_
    show Steps p.tables e below (T3.setTop (mkF m 20 #[.val (.ref a1), .val (.int (1 : Int32)), .val (.ref a3), .val (.int (1 : Int32)), .val (.int (4 : Int32)), .val (.int (1 : Int32)), .val (.int (101 : Int32))] [(.int (255 : Int32)), (.int (101 : Int32))])) _
    refine XS.icmpYes X3.here hx rfl (pc0 := 20) (pc' := 26) rfl (hb hby d5_20) rfl (flt (by decide : ¬ ((255 : Int32) < (101 : Int32)))).2.2.2 (by decide) (by decide) ?_
    show Steps p.tables e below (T3.setTop (mkF m 26 #[.val (.ref a1), .val (.int (1 : Int32)), .val (.ref a3), .val (.int (1 : Int32)), .val (.int (4 : Int32)), .val (.int (1 : Int32)), .val (.int (101 : Int32))] [])) _
    refine XS.aloadN X3.here hx rfl (hb hby d5_26) rfl rfl ?_
    show Steps p.tables e below (T3.setTop (mkF m 27 #[.val (.ref a1), .val (.int (1 : Int32)), .val (.ref a3), .val (.int (1 : Int32)), .val (.int (4 : Int32)), .val (.int (1 : Int32)), .val (.int (101 : Int32))] [(.ref a3)])) _
    refine XS.iloadN X3.here hx rfl (hb hby d5_27) rfl ?_
    show Steps p.tables e below (T3.setTop (mkF m 28 #[.val (.ref a1), .val (.int (1 : Int32)), .val (.ref a3), .val (.int (1 : Int32)), .val (.int (4 : Int32)), .val (.int (1 : Int32)), .val (.int (101 : Int32))] [(.int (1 : Int32)), (.ref a3)])) _
    refine XS.iload X3.here hx rfl (hb hby d5_28) rfl ?_
    show Steps p.tables e below (T3.setTop (mkF m 30 #[.val (.ref a1), .val (.int (1 : Int32)), .val (.ref a3), .val (.int (1 : Int32)), .val (.int (4 : Int32)), .val (.int (1 : Int32)), .val (.int (101 : Int32))] [(.int (101 : Int32)), (.int (1 : Int32)), (.ref a3)])) _
    refine XS.i2b X3.here hx rfl (hb hby d5_30) rfl ?_
    show Steps p.tables e below (T3.setTop (mkF m 31 #[.val (.ref a1), .val (.int (1 : Int32)), .val (.ref a3), .val (.int (1 : Int32)), .val (.int (4 : Int32)), .val (.int (1 : Int32)), .val (.int (101 : Int32))] [(.int (101 : Int32)), (.int (1 : Int32)), (.ref a3)])) _
    refine st13 _ ?_
    show Steps p.tables e below (T13.setTop (mkF m 32 #[.val (.ref a1), .val (.int (1 : Int32)), .val (.ref a3), .val (.int (1 : Int32)), .val (.int (4 : Int32)), .val (.int (1 : Int32)), .val (.int (101 : Int32))] [])) _
    refine XS.iinc X13.here hx rfl (hb hby d5_32) rfl (l' := #[.val (.ref a1), .val (.int (2 : Int32)), .val (.ref a3), .val (.int (1 : Int32)), .val (.int (4 : Int32)), .val (.int (1 : Int32)), .val (.int (101 : Int32))]) rfl ?_
    show Steps p.tables e below (T13.setTop (mkF m 35 #[.val (.ref a1), .val (.int (2 : Int32)), .val (.ref a3), .val (.int (1 : Int32)), .val (.int (4 : Int32)), .val (.int (1 : Int32)), .val (.int (101 : Int32))] [])) _
    refine XS.iinc X13.here hx rfl (hb hby d5_35) rfl (l' := #[.val (.ref a1), .val (.int (2 : Int32)), .val (.ref a3), .val (.int (2 : Int32)), .val (.int (4 : Int32)), .val (.int (1 : Int32)), .val (.int (101 : Int32))]) rfl ?_
    show Steps p.tables e below (T13.setTop (mkF m 38 #[.val (.ref a1), .val (.int (2 : Int32)), .val (.ref a3), .val (.int (2 : Int32)), .val (.int (4 : Int32)), .val (.int (1 : Int32)), .val (.int (101 : Int32))] [])) _
    refine XS.iinc X13.here hx rfl (hb hby d5_38) rfl (l' := #[.val (.ref a1), .val (.int (2 : Int32)), .val (.ref a3), .val (.int (2 : Int32)), .val (.int (4 : Int32)), .val (.int (2 : Int32)), .val (.int (101 : Int32))]) rfl ?_
    show Steps p.tables e below (T13.setTop (mkF m 41 #[.val (.ref a1), .val (.int (2 : Int32)), .val (.ref a3), .val (.int (2 : Int32)), .val (.int (4 : Int32)), .val (.int (2 : Int32)), .val (.int (101 : Int32))] [])) _
    refine XS.goto X13.here hx rfl (pc0 := 41) (pc' := 3) rfl (hb hby d5_41) (by decide) (by decide) ?_
    show Steps p.tables e below (T13.setTop (mkF m 3 #[.val (.ref a1), .val (.int (2 : Int32)), .val (.ref a3), .val (.int (2 : Int32)), .val (.int (4 : Int32)), .val (.int (2 : Int32)), .val (.int (101 : Int32))] [])) _
    refine XS.iload X13.here hx rfl (hb hby d5_3) rfl ?_
    show Steps p.tables e below (T13.setTop (mkF m 5 #[.val (.ref a1), .val (.int (2 : Int32)), .val (.ref a3), .val (.int (2 : Int32)), .val (.int (4 : Int32)), .val (.int (2 : Int32)), .val (.int (101 : Int32))] [(.int (2 : Int32))])) _
    refine XS.iload X13.here hx rfl (hb hby d5_5) rfl ?_
    show Steps p.tables e below (T13.setTop (mkF m 7 #[.val (.ref a1), .val (.int (2 : Int32)), .val (.ref a3), .val (.int (2 : Int32)), .val (.int (4 : Int32)), .val (.int (2 : Int32)), .val (.int (101 : Int32))] [(.int (4 : Int32)), (.int (2 : Int32))])) _
    refine XS.icmpNo X13.here hx rfl (hb hby d5_7) rfl (tlt (by decide : (2 : Int32) < (4 : Int32))).2.1 ?_
    show Steps p.tables e below (T13.setTop (mkF m 10 #[.val (.ref a1), .val (.int (2 : Int32)), .val (.ref a3), .val (.int (2 : Int32)), .val (.int (4 : Int32)), .val (.int (2 : Int32)), .val (.int (101 : Int32))] [])) _
    refine XS.aloadN X13.here hx rfl (hb hby d5_10) rfl rfl ?_
    show Steps p.tables e below (T13.setTop (mkF m 11 #[.val (.ref a1), .val (.int (2 : Int32)), .val (.ref a3), .val (.int (2 : Int32)), .val (.int (4 : Int32)), .val (.int (2 : Int32)), .val (.int (101 : Int32))] [(.ref a1)])) _
    refine XS.iloadN X13.here hx rfl (hb hby d5_11) rfl ?_
    show Steps p.tables e below (T13.setTop (mkF m 12 #[.val (.ref a1), .val (.int (2 : Int32)), .val (.ref a3), .val (.int (2 : Int32)), .val (.int (4 : Int32)), .val (.int (2 : Int32)), .val (.int (101 : Int32))] [(.int (2 : Int32)), (.ref a1)])) _
    refine X13.caload hx (j := (2 : Int32)) (v := (.int (108 : Int32))) (by rw [e13]; exact Aro21.1) (State.isArrayOf_alike hZ.alike Aro21.2.1) Aro21.2.2 hino21 (Ho21.at hino21 rfl) (g := (mkF m 12 #[.val (.ref a1), .val (.int (2 : Int32)), .val (.ref a3), .val (.int (2 : Int32)), .val (.int (4 : Int32)), .val (.int (2 : Int32)), .val (.int (101 : Int32))] [(.int (2 : Int32)), (.ref a1)])) rfl rfl (hb hby d5_12) _ ?_
    show Steps p.tables e below (T13.setTop (mkF m 13 #[.val (.ref a1), .val (.int (2 : Int32)), .val (.ref a3), .val (.int (2 : Int32)), .val (.int (4 : Int32)), .val (.int (2 : Int32)), .val (.int (101 : Int32))] [(.int (108 : Int32))])) _
    refine XS.istore X13.here hx rfl (hb hby d5_13) rfl (l' := #[.val (.ref a1), .val (.int (2 : Int32)), .val (.ref a3), .val (.int (2 : Int32)), .val (.int (4 : Int32)), .val (.int (2 : Int32)), .val (.int (108 : Int32))]) rfl ?_
    show Steps p.tables e below (T13.setTop (mkF m 15 #[.val (.ref a1), .val (.int (2 : Int32)), .val (.ref a3), .val (.int (2 : Int32)), .val (.int (4 : Int32)), .val (.int (2 : Int32)), .val (.int (108 : Int32))] [])) _
    refine XS.iload X13.here hx rfl (hb hby d5_15) rfl ?_
    show Steps p.tables e below (T13.setTop (mkF m 17 #[.val (.ref a1), .val (.int (2 : Int32)), .val (.ref a3), .val (.int (2 : Int32)), .val (.int (4 : Int32)), .val (.int (2 : Int32)), .val (.int (108 : Int32))] [(.int (108 : Int32))])) _
    refine XS.sipush X13.here hx rfl (hb hby d5_17) ?_
    show Steps p.tables e below (T13.setTop (mkF m 20 #[.val (.ref a1), .val (.int (2 : Int32)), .val (.ref a3), .val (.int (2 : Int32)), .val (.int (4 : Int32)), .val (.int (2 : Int32)), .val (.int (108 : Int32))] [(.int (255 : Int32)), (.int (108 : Int32))])) _
    refine XS.icmpYes X13.here hx rfl (pc0 := 20) (pc' := 26) rfl (hb hby d5_20) rfl (flt (by decide : ¬ ((255 : Int32) < (108 : Int32)))).2.2.2 (by decide) (by decide) ?_
    show Steps p.tables e below (T13.setTop (mkF m 26 #[.val (.ref a1), .val (.int (2 : Int32)), .val (.ref a3), .val (.int (2 : Int32)), .val (.int (4 : Int32)), .val (.int (2 : Int32)), .val (.int (108 : Int32))] [])) _
    refine XS.aloadN X13.here hx rfl (hb hby d5_26) rfl rfl ?_
    show Steps p.tables e below (T13.setTop (mkF m 27 #[.val (.ref a1), .val (.int (2 : Int32)), .val (.ref a3), .val (.int (2 : Int32)), .val (.int (4 : Int32)), .val (.int (2 : Int32)), .val (.int (108 : Int32))] [(.ref a3)])) _
    refine XS.iloadN X13.here hx rfl (hb hby d5_27) rfl ?_
    show Steps p.tables e below (T13.setTop (mkF m 28 #[.val (.ref a1), .val (.int (2 : Int32)), .val (.ref a3), .val (.int (2 : Int32)), .val (.int (4 : Int32)), .val (.int (2 : Int32)), .val (.int (108 : Int32))] [(.int (2 : Int32)), (.ref a3)])) _
    refine XS.iload X13.here hx rfl (hb hby d5_28) rfl ?_
    show Steps p.tables e below (T13.setTop (mkF m 30 #[.val (.ref a1), .val (.int (2 : Int32)), .val (.ref a3), .val (.int (2 : Int32)), .val (.int (4 : Int32)), .val (.int (2 : Int32)), .val (.int (108 : Int32))] [(.int (108 : Int32)), (.int (2 : Int32)), (.ref a3)])) _
    refine XS.i2b X13.here hx rfl (hb hby d5_30) rfl ?_
    show Steps p.tables e below (T13.setTop (mkF m 31 #[.val (.ref a1), .val (.int (2 : Int32)), .val (.ref a3), .val (.int (2 : Int32)), .val (.int (4 : Int32)), .val (.int (2 : Int32)), .val (.int (108 : Int32))] [(.int (108 : Int32)), (.int (2 : Int32)), (.ref a3)])) _
    refine st23 _ ?_
    show Steps p.tables e below (T23.setTop (mkF m 32 #[.val (.ref a1), .val (.int (2 : Int32)), .val (.ref a3), .val (.int (2 : Int32)), .val (.int (4 : Int32)), .val (.int (2 : Int32)), .val (.int (108 : Int32))] [])) _
    refine XS.iinc X23.here hx rfl (hb hby d5_32) rfl (l' := #[.val (.ref a1), .val (.int (3 : Int32)), .val (.ref a3), .val (.int (2 : Int32)), .val (.int (4 : Int32)), .val (.int (2 : Int32)), .val (.int (108 : Int32))]) rfl ?_
    show Steps p.tables e below (T23.setTop (mkF m 35 #[.val (.ref a1), .val (.int (3 : Int32)), .val (.ref a3), .val (.int (2 : Int32)), .val (.int (4 : Int32)), .val (.int (2 : Int32)), .val (.int (108 : Int32))] [])) _
    refine XS.iinc X23.here hx rfl (hb hby d5_35) rfl (l' := #[.val (.ref a1), .val (.int (3 : Int32)), .val (.ref a3), .val (.int (3 : Int32)), .val (.int (4 : Int32)), .val (.int (2 : Int32)), .val (.int (108 : Int32))]) rfl ?_
    show Steps p.tables e below (T23.setTop (mkF m 38 #[.val (.ref a1), .val (.int (3 : Int32)), .val (.ref a3), .val (.int (3 : Int32)), .val (.int (4 : Int32)), .val (.int (2 : Int32)), .val (.int (108 : Int32))] [])) _
    refine XS.iinc X23.here hx rfl (hb hby d5_38) rfl (l' := #[.val (.ref a1), .val (.int (3 : Int32)), .val (.ref a3), .val (.int (3 : Int32)), .val (.int (4 : Int32)), .val (.int (3 : Int32)), .val (.int (108 : Int32))]) rfl ?_
    show Steps p.tables e below (T23.setTop (mkF m 41 #[.val (.ref a1), .val (.int (3 : Int32)), .val (.ref a3), .val (.int (3 : Int32)), .val (.int (4 : Int32)), .val (.int (3 : Int32)), .val (.int (108 : Int32))] [])) _
    refine XS.goto X23.here hx rfl (pc0 := 41) (pc' := 3) rfl (hb hby d5_41) (by decide) (by decide) ?_
    show Steps p.tables e below (T23.setTop (mkF m 3 #[.val (.ref a1), .val (.int (3 : Int32)), .val (.ref a3), .val (.int (3 : Int32)), .val (.int (4 : Int32)), .val (.int (3 : Int32)), .val (.int (108 : Int32))] [])) _
    refine XS.iload X23.here hx rfl (hb hby d5_3) rfl ?_
    show Steps p.tables e below (T23.setTop (mkF m 5 #[.val (.ref a1), .val (.int (3 : Int32)), .val (.ref a3), .val (.int (3 : Int32)), .val (.int (4 : Int32)), .val (.int (3 : Int32)), .val (.int (108 : Int32))] [(.int (3 : Int32))])) _
    refine XS.iload X23.here hx rfl (hb hby d5_5) rfl ?_
    show Steps p.tables e below (T23.setTop (mkF m 7 #[.val (.ref a1), .val (.int (3 : Int32)), .val (.ref a3), .val (.int (3 : Int32)), .val (.int (4 : Int32)), .val (.int (3 : Int32)), .val (.int (108 : Int32))] [(.int (4 : Int32)), (.int (3 : Int32))])) _
    refine XS.icmpNo X23.here hx rfl (hb hby d5_7) rfl (tlt (by decide : (3 : Int32) < (4 : Int32))).2.1 ?_
    show Steps p.tables e below (T23.setTop (mkF m 10 #[.val (.ref a1), .val (.int (3 : Int32)), .val (.ref a3), .val (.int (3 : Int32)), .val (.int (4 : Int32)), .val (.int (3 : Int32)), .val (.int (108 : Int32))] [])) _
    refine XS.aloadN X23.here hx rfl (hb hby d5_10) rfl rfl ?_
    show Steps p.tables e below (T23.setTop (mkF m 11 #[.val (.ref a1), .val (.int (3 : Int32)), .val (.ref a3), .val (.int (3 : Int32)), .val (.int (4 : Int32)), .val (.int (3 : Int32)), .val (.int (108 : Int32))] [(.ref a1)])) _
    refine XS.iloadN X23.here hx rfl (hb hby d5_11) rfl ?_
    show Steps p.tables e below (T23.setTop (mkF m 12 #[.val (.ref a1), .val (.int (3 : Int32)), .val (.ref a3), .val (.int (3 : Int32)), .val (.int (4 : Int32)), .val (.int (3 : Int32)), .val (.int (108 : Int32))] [(.int (3 : Int32)), (.ref a1)])) _
    refine X23.caload hx (j := (3 : Int32)) (v := (.int (108 : Int32))) (by rw [e23]; exact Aro31.1) (State.isArrayOf_alike hZ.alike Aro31.2.1) Aro31.2.2 hino31 (Ho31.at hino31 rfl) (g := (mkF m 12 #[.val (.ref a1), .val (.int (3 : Int32)), .val (.ref a3), .val (.int (3 : Int32)), .val (.int (4 : Int32)), .val (.int (3 : Int32)), .val (.int (108 : Int32))] [(.int (3 : Int32)), (.ref a1)])) rfl rfl (hb hby d5_12) _ ?_
    show Steps p.tables e below (T23.setTop (mkF m 13 #[.val (.ref a1), .val (.int (3 : Int32)), .val (.ref a3), .val (.int (3 : Int32)), .val (.int (4 : Int32)), .val (.int (3 : Int32)), .val (.int (108 : Int32))] [(.int (108 : Int32))])) _
    refine XS.istore X23.here hx rfl (hb hby d5_13) rfl (l' := #[.val (.ref a1), .val (.int (3 : Int32)), .val (.ref a3), .val (.int (3 : Int32)), .val (.int (4 : Int32)), .val (.int (3 : Int32)), .val (.int (108 : Int32))]) rfl ?_
    show Steps p.tables e below (T23.setTop (mkF m 15 #[.val (.ref a1), .val (.int (3 : Int32)), .val (.ref a3), .val (.int (3 : Int32)), .val (.int (4 : Int32)), .val (.int (3 : Int32)), .val (.int (108 : Int32))] [])) _
    refine XS.iload X23.here hx rfl (hb hby d5_15) rfl ?_
    show Steps p.tables e below (T23.setTop (mkF m 17 #[.val (.ref a1), .val (.int (3 : Int32)), .val (.ref a3), .val (.int (3 : Int32)), .val (.int (4 : Int32)), .val (.int (3 : Int32)), .val (.int (108 : Int32))] [(.int (108 : Int32))])) _
    refine XS.sipush X23.here hx rfl (hb hby d5_17) ?_
    show Steps p.tables e below (T23.setTop (mkF m 20 #[.val (.ref a1), .val (.int (3 : Int32)), .val (.ref a3), .val (.int (3 : Int32)), .val (.int (4 : Int32)), .val (.int (3 : Int32)), .val (.int (108 : Int32))] [(.int (255 : Int32)), (.int (108 : Int32))])) _
    refine XS.icmpYes X23.here hx rfl (pc0 := 20) (pc' := 26) rfl (hb hby d5_20) rfl (flt (by decide : ¬ ((255 : Int32) < (108 : Int32)))).2.2.2 (by decide) (by decide) ?_
    show Steps p.tables e below (T23.setTop (mkF m 26 #[.val (.ref a1), .val (.int (3 : Int32)), .val (.ref a3), .val (.int (3 : Int32)), .val (.int (4 : Int32)), .val (.int (3 : Int32)), .val (.int (108 : Int32))] [])) _
    refine XS.aloadN X23.here hx rfl (hb hby d5_26) rfl rfl ?_
    show Steps p.tables e below (T23.setTop (mkF m 27 #[.val (.ref a1), .val (.int (3 : Int32)), .val (.ref a3), .val (.int (3 : Int32)), .val (.int (4 : Int32)), .val (.int (3 : Int32)), .val (.int (108 : Int32))] [(.ref a3)])) _
    refine XS.iloadN X23.here hx rfl (hb hby d5_27) rfl ?_
    show Steps p.tables e below (T23.setTop (mkF m 28 #[.val (.ref a1), .val (.int (3 : Int32)), .val (.ref a3), .val (.int (3 : Int32)), .val (.int (4 : Int32)), .val (.int (3 : Int32)), .val (.int (108 : Int32))] [(.int (3 : Int32)), (.ref a3)])) _
    refine XS.iload X23.here hx rfl (hb hby d5_28) rfl ?_
    show Steps p.tables e below (T23.setTop (mkF m 30 #[.val (.ref a1), .val (.int (3 : Int32)), .val (.ref a3), .val (.int (3 : Int32)), .val (.int (4 : Int32)), .val (.int (3 : Int32)), .val (.int (108 : Int32))] [(.int (108 : Int32)), (.int (3 : Int32)), (.ref a3)])) _
    refine XS.i2b X23.here hx rfl (hb hby d5_30) rfl ?_
    show Steps p.tables e below (T23.setTop (mkF m 31 #[.val (.ref a1), .val (.int (3 : Int32)), .val (.ref a3), .val (.int (3 : Int32)), .val (.int (4 : Int32)), .val (.int (3 : Int32)), .val (.int (108 : Int32))] [(.int (108 : Int32)), (.int (3 : Int32)), (.ref a3)])) _
    refine st33 _ ?_
    show Steps p.tables e below (T33.setTop (mkF m 32 #[.val (.ref a1), .val (.int (3 : Int32)), .val (.ref a3), .val (.int (3 : Int32)), .val (.int (4 : Int32)), .val (.int (3 : Int32)), .val (.int (108 : Int32))] [])) _
    refine XS.iinc X33.here hx rfl (hb hby d5_32) rfl (l' := #[.val (.ref a1), .val (.int (4 : Int32)), .val (.ref a3), .val (.int (3 : Int32)), .val (.int (4 : Int32)), .val (.int (3 : Int32)), .val (.int (108 : Int32))]) rfl ?_
    show Steps p.tables e below (T33.setTop (mkF m 35 #[.val (.ref a1), .val (.int (4 : Int32)), .val (.ref a3), .val (.int (3 : Int32)), .val (.int (4 : Int32)), .val (.int (3 : Int32)), .val (.int (108 : Int32))] [])) _
    refine XS.iinc X33.here hx rfl (hb hby d5_35) rfl (l' := #[.val (.ref a1), .val (.int (4 : Int32)), .val (.ref a3), .val (.int (4 : Int32)), .val (.int (4 : Int32)), .val (.int (3 : Int32)), .val (.int (108 : Int32))]) rfl ?_
    show Steps p.tables e below (T33.setTop (mkF m 38 #[.val (.ref a1), .val (.int (4 : Int32)), .val (.ref a3), .val (.int (4 : Int32)), .val (.int (4 : Int32)), .val (.int (3 : Int32)), .val (.int (108 : Int32))] [])) _
    refine XS.iinc X33.here hx rfl (hb hby d5_38) rfl (l' := #[.val (.ref a1), .val (.int (4 : Int32)), .val (.ref a3), .val (.int (4 : Int32)), .val (.int (4 : Int32)), .val (.int (4 : Int32)), .val (.int (108 : Int32))]) rfl ?_
    show Steps p.tables e below (T33.setTop (mkF m 41 #[.val (.ref a1), .val (.int (4 : Int32)), .val (.ref a3), .val (.int (4 : Int32)), .val (.int (4 : Int32)), .val (.int (4 : Int32)), .val (.int (108 : Int32))] [])) _
    refine XS.goto X33.here hx rfl (pc0 := 41) (pc' := 3) rfl (hb hby d5_41) (by decide) (by decide) ?_
    show Steps p.tables e below (T33.setTop (mkF m 3 #[.val (.ref a1), .val (.int (4 : Int32)), .val (.ref a3), .val (.int (4 : Int32)), .val (.int (4 : Int32)), .val (.int (4 : Int32)), .val (.int (108 : Int32))] [])) _
    refine XS.iload X33.here hx rfl (hb hby d5_3) rfl ?_
    show Steps p.tables e below (T33.setTop (mkF m 5 #[.val (.ref a1), .val (.int (4 : Int32)), .val (.ref a3), .val (.int (4 : Int32)), .val (.int (4 : Int32)), .val (.int (4 : Int32)), .val (.int (108 : Int32))] [(.int (4 : Int32))])) _
    refine XS.iload X33.here hx rfl (hb hby d5_5) rfl ?_
    show Steps p.tables e below (T33.setTop (mkF m 7 #[.val (.ref a1), .val (.int (4 : Int32)), .val (.ref a3), .val (.int (4 : Int32)), .val (.int (4 : Int32)), .val (.int (4 : Int32)), .val (.int (108 : Int32))] [(.int (4 : Int32)), (.int (4 : Int32))])) _
    refine XS.icmpYes X33.here hx rfl (pc0 := 7) (pc' := 44) rfl (hb hby d5_7) rfl (flt (by decide : ¬ ((4 : Int32) < (4 : Int32)))).2.1 (by decide) (by decide) ?_
    show Steps p.tables e below (T33.setTop (mkF m 44 #[.val (.ref a1), .val (.int (4 : Int32)), .val (.ref a3), .val (.int (4 : Int32)), .val (.int (4 : Int32)), .val (.int (4 : Int32)), .val (.int (108 : Int32))] [])) _
    refine XS.iload X33.here hx rfl (hb hby d5_44) rfl ?_
    show Steps p.tables e below (T33.setTop (mkF m 46 #[.val (.ref a1), .val (.int (4 : Int32)), .val (.ref a3), .val (.int (4 : Int32)), .val (.int (4 : Int32)), .val (.int (4 : Int32)), .val (.int (108 : Int32))] [(.int (4 : Int32))])) _
    exact retI X33 hx Bd.returns (hb hby d5_46) hr
  · show Q_compS Z a1 a3 k_a1 k_a3 h0 n0 _ T33.heap _
    rw [e33]
    exact ⟨rfl, N39, K38, f36, f34⟩
def Q_cmpS (Z : State) (a1 : Addr) (k_a1 : ClassId) (h0 : Heap) (n0 : Nat) (v : Option Value) (h : Heap) (L : List Loc) : Prop := ∃ (o1 : Addr), ∃ (ko1 : ClassId), v = some (.ref o1) ∧ Fr n0 L ∧ n0 ≤ o1 ∧ h0.size ≤ o1 ∧ Keep h0 h [] ∧ Exa Z h o1 "[B" ∧ Arv Z h o1 ko1 .byte (4 : Int32) [(.int (115 : Int32)), (.int (101 : Int32)), (.int (108 : Int32)), (.int (108 : Int32))] (.int (0 : Int32))
set_option maxRecDepth 65536 in
set_option maxHeartbeats 40000000 in
theorem rm_cmpS (l : Launch) (Z : State) (a0 : Array Value) (hw : ∀ d ∈ tables_1, d.before a0 Z = true) (ws : List Jvm.Cond) (a1 : Addr) (k_a1 : ClassId) (h0 : Heap) (n0 : Nat) (Z0 : n0 ≤ h0.size) (E_a1 : Exa Z h0 a1 "[C") (V_a1 : Arv Z h0 a1 k_a1 .char (4 : Int32) [(.int (115 : Int32)), (.int (101 : Int32)), (.int (108 : Int32)), (.int (108 : Int32))] (.int (0 : Int32))) :
    MetFree l (⟨"java/lang/StringUTF16", "compress", "([CII)[B"⟩ : MethodName) (head1 (Jvm.Cond.code (⟨"java/lang/StringUTF16", "compress", "([CII)[B"⟩ : MethodName) jdk_52_method_16_code 6 (some (.array .byte)) :: ws) ({ frames := 1, cells := 1, slots := 4, locals := 18 } : Room)) (fun a U => a = #[(.ref a1), (.int (0 : Int32)), (.int (4 : Int32))] ∧ Z.Warmed39 U.vm ∧ U.heap = h0) (fun _ _ _ _ _ => True) (fun _ U o U' => ∃ v L, o = .returned v ∧ Q_cmpS Z a1 k_a1 h0 n0 v U'.heap L ∧ FrameEnd U o U' L ({ frames := 1, cells := 1, slots := 4, locals := 18 } : Room).cells ({ frames := 1, cells := 1, slots := 4, locals := 18 } : Room).slots) := by
  refine MetFree.of_bodySF (plainFor_of_name pn_java_lang_StringUTF16) hisR ?_
  intro p e s m args below meth c s₁ Bd hml0 hP hK
  obtain ⟨rfl, hZ, hh⟩ := hP
  have hx := Bd.exec
  have hby := Bd.bytes
  have hml : c.maxLocals = 6 := hml0
  have hown : s.vm.findClass "java/lang/StringUTF16" = some m.cls := findClass_of_methodNamed Bd.named
  have hnm := (name_of_methodNamed Bd.named Bd.method).1
  have X0 : Stand p l e ({ frames := 1, cells := 1, slots := 4, locals := 18 } : Room) s m #[(.ref a1), (.int (0 : Int32)), (.int (4 : Int32))] below meth c s₁ [] 0 0 := Stand.of_body Bd
  have e0 : s₁.heap = h0 := by rw [← hh, Bd.state]; rfl
  have N0 := Fr.nil n0
  have pre0 : ∀ t, Steps p.tables e below (s₁.setTop (mkF m 0 #[.val (.ref a1), .val (.int (0 : Int32)), .val (.int (4 : Int32)), .unset, .unset, .unset] [])) t → Steps p.tables e below (s₁.setTop (entryFrame m #[(.ref a1), (.int (0 : Int32)), (.int (4 : Int32))] 6)) t := fun t k => castTop (ef_4_RII m a1 (0 : Int32) (4 : Int32)) k
  obtain ⟨T1, h1, k1, X1, e1, E1, A1, Ex1, st1⟩ := newPE X0 hx hZ (hw _ (List.mem_of_getElem? (i := 19) rfl)) e0 (g := (mkF m 1 #[.val (.ref a1), .val (.int (0 : Int32)), .val (.int (4 : Int32)), .unset, .unset, .unset] [(.int (4 : Int32))])) rfl (hb hby d4_1) rfl (by decide) (cap := 4) (by decide) (by decide) (by decide) (by decide) (ad := "[B") (by decide)
  obtain ⟨b1, g1⟩ : ∃ z, z = h0.size := ⟨_, rfl⟩
  rw [← g1] at A1 Ex1 st1
  have g_b1 : n0 ≤ b1 := Nat.le_trans Z0 (Nat.le_of_eq g1.symm)
  have sz_b1 : h0.size ≤ b1 := Nat.le_trans (Keep.refl h0 []).1 (Nat.le_of_eq g1.symm)
  have ne_a1_b1 : a1 ≠ b1 := Nat.ne_of_lt (Nat.lt_of_lt_of_le E_a1.lt (Nat.le_of_eq g1.symm))
  have f2 : Exa Z h1 a1 "[C" := E_a1.ext E1
  have f3 : Arv Z h1 a1 k_a1 .char (4 : Int32) [(.int (115 : Int32)), (.int (101 : Int32)), (.int (108 : Int32)), (.int (108 : Int32))] (.int (0 : Int32)) := V_a1.ext E1
  have K4 : Keep h0 h1 [] := (Keep.refl h0 []).ext E1
  have Zs5 : n0 ≤ h1.size := Nat.le_trans Z0 E1.1
  have f6 : Arv Z h1 b1 k1 .byte (4 : Int32) [(.int (0 : Int32)), (.int (0 : Int32)), (.int (0 : Int32)), (.int (0 : Int32))] (.int (0 : Int32)) := (Arv.new A1 (by decide)).pad (pad_rep [] (.int (0 : Int32)) 4)
  obtain ⟨_, _, ⟨T7, L7, k7, n7⟩, -, X7, ⟨Lc7, hQ7, l7, y7, z7⟩, st7⟩ := Jvm.LawKit.callS X1 hx (y := (⟨"java/lang/StringUTF16", "compress", "([CI[BII)I"⟩ : MethodName)) hown (mvT hZ (hw _ (List.mem_of_getElem? (i := 20) rfl))) (mvT hZ (hw _ (List.mem_of_getElem? (i := 21) rfl))) (mvT hZ (hw _ (List.mem_of_getElem? (i := 17) rfl))) (mvT hZ (hw _ (List.mem_of_getElem? (i := 22) rfl))) (by decide) (backOf (W := 0) (rm_compS l Z a0 hw [] a1 b1 k_a1 k1 h1 n0 Zs5 f2 Ex1 f3 f6 g_b1) hZ (hw _ (List.mem_of_getElem? (i := 22) rfl)) (hw _ (List.mem_of_getElem? (i := 17) rfl)) (by decide) (by decide)) (g := (mkF m 9 #[.val (.ref a1), .val (.int (0 : Int32)), .val (.int (4 : Int32)), .val (.ref b1), .unset, .unset] [(.int (4 : Int32)), (.int (0 : Int32)), (.ref b1), (.int (0 : Int32)), (.ref a1)])) rfl (by rw [hml]; rfl) (argsL := [(.ref a1), (.int (0 : Int32)), (.ref b1), (.int (0 : Int32)), (.int (4 : Int32))]) (rest := []) (lenOf pd_0 rfl) rfl (by show 2 * 0 + _ ≤ _; exact Nat.le_of_eq rfl) (hb hby d4_9) (fun _ _ => ⟨rfl, e1, (by decide : 1 + 0 ≤ _), (by decide : 4 + 0 ≤ _)⟩)
  dsimp only [Pt.U, Pt.locs, Pt.cells, Pt.slots] at X7 l7 y7 z7 st7 hQ7
  subst l7 y7 z7
  obtain ⟨rfl, Nq7, Kc7, fq7_0, fq7_1⟩ := hQ7
  have f9 : Exa Z T7.heap a1 "[C" := f2.keep Kc7
  have f10 : Arv Z T7.heap a1 k_a1 .char (4 : Int32) [(.int (115 : Int32)), (.int (101 : Int32)), (.int (108 : Int32)), (.int (108 : Int32))] (.int (0 : Int32)) := f3.keep Kc7 (ninS ne_a1_b1 nin0)
  have f11 : Arv Z T7.heap b1 k1 .byte (4 : Int32) [(.int (115 : Int32)), (.int (101 : Int32)), (.int (108 : Int32)), (.int (108 : Int32))] (.int (0 : Int32)) := fq7_1
  have K12 : Keep h0 T7.heap [] := K4.trans Kc7 (allS (Or.inr sz_b1) all0)
  have Zs13 : n0 ≤ T7.heap.size := Nat.le_trans Zs5 Kc7.1
  have N8 := Fr.app N0 Nq7
  obtain ⟨fs, hr, hrun, hended, hW, hsame⟩ := X7.leave (v := some (.ref b1)) (fun h => by rw [Bd.returns] at h; cases h) Bd.notSynchronized
  refine ⟨_, _, pre0 _ ?_, hrun, hended, _, _, rfl, ?_, ⟨_, rfl⟩, hW, hsame.mono (by decide) (by decide)⟩
  · show Steps p.tables e below (s₁.setTop (mkF m 0 #[.val (.ref a1), .val (.int (0 : Int32)), .val (.int (4 : Int32)), .unset, .unset, .unset] [])) _
    refine XS.iloadN X0.here hx rfl (hb hby d4_0) rfl ?_
    show Steps p.tables e below (s₁.setTop (mkF m 1 #[.val (.ref a1), .val (.int (0 : Int32)), .val (.int (4 : Int32)), .unset, .unset, .unset] [(.int (4 : Int32))])) _
    refine st1 _ ?_
    show Steps p.tables e below (T1.setTop (mkF m 3 #[.val (.ref a1), .val (.int (0 : Int32)), .val (.int (4 : Int32)), .unset, .unset, .unset] [(.ref b1)])) _
    refine XS.astoreN X1.here hx rfl (hb hby d4_3) rfl rfl (l' := #[.val (.ref a1), .val (.int (0 : Int32)), .val (.int (4 : Int32)), .val (.ref b1), .unset, .unset]) rfl ?_
    show Steps p.tables e below (T1.setTop (mkF m 4 #[.val (.ref a1), .val (.int (0 : Int32)), .val (.int (4 : Int32)), .val (.ref b1), .unset, .unset] [])) _
    refine XS.aloadN X1.here hx rfl (hb hby d4_4) rfl rfl ?_
    show Steps p.tables e below (T1.setTop (mkF m 5 #[.val (.ref a1), .val (.int (0 : Int32)), .val (.int (4 : Int32)), .val (.ref b1), .unset, .unset] [(.ref a1)])) _
    refine XS.iloadN X1.here hx rfl (hb hby d4_5) rfl ?_
    show Steps p.tables e below (T1.setTop (mkF m 6 #[.val (.ref a1), .val (.int (0 : Int32)), .val (.int (4 : Int32)), .val (.ref b1), .unset, .unset] [(.int (0 : Int32)), (.ref a1)])) _
    refine XS.aloadN X1.here hx rfl (hb hby d4_6) rfl rfl ?_
    show Steps p.tables e below (T1.setTop (mkF m 7 #[.val (.ref a1), .val (.int (0 : Int32)), .val (.int (4 : Int32)), .val (.ref b1), .unset, .unset] [(.ref b1), (.int (0 : Int32)), (.ref a1)])) _
    refine XS.iconst X1.here hx rfl (hb hby d4_7) ?_
    show Steps p.tables e below (T1.setTop (mkF m 8 #[.val (.ref a1), .val (.int (0 : Int32)), .val (.int (4 : Int32)), .val (.ref b1), .unset, .unset] [(.int (0 : Int32)), (.ref b1), (.int (0 : Int32)), (.ref a1)])) _
    refine XS.iloadN X1.here hx rfl (hb hby d4_8) rfl ?_
    show Steps p.tables e below (T1.setTop (mkF m 9 #[.val (.ref a1), .val (.int (0 : Int32)), .val (.int (4 : Int32)), .val (.ref b1), .unset, .unset] [(.int (4 : Int32)), (.int (0 : Int32)), (.ref b1), (.int (0 : Int32)), (.ref a1)])) _
    refine st7 _ ?_
    show Steps p.tables e below (T7.setTop (mkF m 12 #[.val (.ref a1), .val (.int (0 : Int32)), .val (.int (4 : Int32)), .val (.ref b1), .unset, .unset] [(.int (4 : Int32))])) _
    refine XS.istore X7.here hx rfl (hb hby d4_12) rfl (l' := #[.val (.ref a1), .val (.int (0 : Int32)), .val (.int (4 : Int32)), .val (.ref b1), .val (.int (4 : Int32)), .unset]) rfl ?_
    show Steps p.tables e below (T7.setTop (mkF m 14 #[.val (.ref a1), .val (.int (0 : Int32)), .val (.int (4 : Int32)), .val (.ref b1), .val (.int (4 : Int32)), .unset] [])) _
    refine XS.iload X7.here hx rfl (hb hby d4_14) rfl ?_
    show Steps p.tables e below (T7.setTop (mkF m 16 #[.val (.ref a1), .val (.int (0 : Int32)), .val (.int (4 : Int32)), .val (.ref b1), .val (.int (4 : Int32)), .unset] [(.int (4 : Int32))])) _
    refine XS.iloadN X7.here hx rfl (hb hby d4_16) rfl ?_
    show Steps p.tables e below (T7.setTop (mkF m 17 #[.val (.ref a1), .val (.int (0 : Int32)), .val (.int (4 : Int32)), .val (.ref b1), .val (.int (4 : Int32)), .unset] [(.int (4 : Int32)), (.int (4 : Int32))])) _
    refine XS.icmpYes X7.here hx rfl (pc0 := 17) (pc' := 57) rfl (hb hby d4_17) rfl (teq (by decide : (4 : Int32) = (4 : Int32))).1 (by decide) (by decide) ?_
    show Steps p.tables e below (T7.setTop (mkF m 57 #[.val (.ref a1), .val (.int (0 : Int32)), .val (.int (4 : Int32)), .val (.ref b1), .val (.int (4 : Int32)), .unset] [])) _
    refine XS.aloadN X7.here hx rfl (hb hby d4_57) rfl rfl ?_
    show Steps p.tables e below (T7.setTop (mkF m 58 #[.val (.ref a1), .val (.int (0 : Int32)), .val (.int (4 : Int32)), .val (.ref b1), .val (.int (4 : Int32)), .unset] [(.ref b1)])) _
    exact retOut X7 hx (t := (.array .byte)) (i := .areturn) Bd.returns rfl (Or.inr (Or.inr (Or.inr (Or.inr ⟨rfl, rfl, rfl⟩)))) (hb hby d4_58) hr
  · show Q_cmpS Z a1 k_a1 h0 n0 _ T7.heap _
    exact ⟨b1, k1, rfl, N8, g_b1, sz_b1, K12, fq7_0, f11⟩
def Q_codS (Z : State) (a1 : Addr) (k_a1 : ClassId) (h0 : Heap) (n0 : Nat) (v : Option Value) (h : Heap) (L : List Loc) : Prop := v = some (.int (0 : Int32)) ∧ Fr n0 L ∧ h = h0
set_option maxRecDepth 65536 in
set_option maxHeartbeats 40000000 in
theorem rm_codS (l : Launch) (Z : State) (a0 : Array Value) (hw : ∀ d ∈ tables_1, d.before a0 Z = true) (ws : List Jvm.Cond) (a1 : Addr) (k_a1 : ClassId) (h0 : Heap) (n0 : Nat) (Z0 : n0 ≤ h0.size) (V_a1 : Arv Z h0 a1 k_a1 .byte (4 : Int32) [(.int (115 : Int32)), (.int (101 : Int32)), (.int (108 : Int32)), (.int (108 : Int32))] (.int (0 : Int32))) :
    MetFree l (⟨"java/lang/StringUTF16", "coderFromArrayLen", "([BI)B"⟩ : MethodName) (head1 (Jvm.Cond.code (⟨"java/lang/StringUTF16", "coderFromArrayLen", "([BI)B"⟩ : MethodName) jdk_52_method_15_code 2 (some .byte) :: ws) ({ frames := 0, cells := 0, slots := 0, locals := 0 } : Room)) (fun a U => a = #[(.ref a1), (.int (4 : Int32))] ∧ Z.Warmed39 U.vm ∧ U.heap = h0) (fun _ _ _ _ _ => True) (fun _ U o U' => ∃ v L, o = .returned v ∧ Q_codS Z a1 k_a1 h0 n0 v U'.heap L ∧ FrameEnd U o U' L ({ frames := 0, cells := 0, slots := 0, locals := 0 } : Room).cells ({ frames := 0, cells := 0, slots := 0, locals := 0 } : Room).slots) := by
  refine MetFree.of_bodySF (plainFor_of_name pn_java_lang_StringUTF16) hisR ?_
  intro p e s m args below meth c s₁ Bd hml0 hP hK
  obtain ⟨rfl, hZ, hh⟩ := hP
  have hx := Bd.exec
  have hby := Bd.bytes
  have hml : c.maxLocals = 2 := hml0
  have hown : s.vm.findClass "java/lang/StringUTF16" = some m.cls := findClass_of_methodNamed Bd.named
  have hnm := (name_of_methodNamed Bd.named Bd.method).1
  have X0 : Stand p l e ({ frames := 0, cells := 0, slots := 0, locals := 0 } : Room) s m #[(.ref a1), (.int (4 : Int32))] below meth c s₁ [] 0 0 := Stand.of_body Bd
  have e0 : s₁.heap = h0 := by rw [← hh, Bd.state]; rfl
  have N0 := Fr.nil n0
  have pre0 : ∀ t, Steps p.tables e below (s₁.setTop (mkF m 0 #[.val (.ref a1), .val (.int (4 : Int32))] [])) t → Steps p.tables e below (s₁.setTop (entryFrame m #[(.ref a1), (.int (4 : Int32))] 2)) t := fun t k => castTop (ef_6_RI m a1 (4 : Int32)) k
  obtain ⟨clo1, Aro1, -, So1, No1, -, -⟩ := id V_a1
  obtain ⟨fs, hr, hrun, hended, hW, hsame⟩ := X0.leave (v := some (.int (0 : Int32))) (fun h => by rw [Bd.returns] at h; cases h) Bd.notSynchronized
  refine ⟨_, _, pre0 _ ?_, hrun, hended, _, _, rfl, ?_, ⟨_, rfl⟩, hW, hsame.mono (by decide) (by decide)⟩
  · show Steps p.tables e below (s₁.setTop (mkF m 0 #[.val (.ref a1), .val (.int (4 : Int32))] [])) _
    refine XS.iloadN X0.here hx rfl (hb hby d6_0) rfl ?_
    show Steps p.tables e below (s₁.setTop (mkF m 1 #[.val (.ref a1), .val (.int (4 : Int32))] [(.int (4 : Int32))])) _
    refine XS.aloadN X0.here hx rfl (hb hby d6_1) rfl rfl ?_
    show Steps p.tables e below (s₁.setTop (mkF m 2 #[.val (.ref a1), .val (.int (4 : Int32))] [(.ref a1), (.int (4 : Int32))])) _
    refine X0.arraylength hx (by rw [e0]; exact Aro1.1) (State.isArrayOf_alike hZ.alike Aro1.2.1) (g := (mkF m 2 #[.val (.ref a1), .val (.int (4 : Int32))] [(.ref a1), (.int (4 : Int32))])) rfl rfl (hb hby d6_2) _ ?_
    rw [len_of So1 No1]
    show Steps p.tables e below (s₁.setTop (mkF m 3 #[.val (.ref a1), .val (.int (4 : Int32))] [(.int (4 : Int32)), (.int (4 : Int32))])) _
    refine XS.isub X0.here hx rfl (hb hby d6_3) rfl ?_
    show Steps p.tables e below (s₁.setTop (mkF m 4 #[.val (.ref a1), .val (.int (4 : Int32))] [(.int (0 : Int32))])) _
    refine XS.bipush X0.here hx rfl (hb hby d6_4) ?_
    show Steps p.tables e below (s₁.setTop (mkF m 6 #[.val (.ref a1), .val (.int (4 : Int32))] [(.int (31 : Int32)), (.int (0 : Int32))])) _
    refine XS.iushr X0.here hx rfl (hb hby d6_6) rfl ?_
    show Steps p.tables e below (s₁.setTop (mkF m 7 #[.val (.ref a1), .val (.int (4 : Int32))] [(.int (0 : Int32))])) _
    refine XS.i2b X0.here hx rfl (hb hby d6_7) rfl ?_
    show Steps p.tables e below (s₁.setTop (mkF m 8 #[.val (.ref a1), .val (.int (4 : Int32))] [(.int (0 : Int32))])) _
    exact retN X0 hx (t := .byte) Bd.returns (by simp) (hb hby d6_8) hr
  · show Q_codS Z a1 k_a1 h0 n0 _ s₁.heap _
    rw [e0]
    exact ⟨rfl, N0, rfl⟩
def Q_iniS (Z : State) (a1 : Addr) (a2 : Addr) (sc : Int32) (k_a2 : ClassId) (h0 : Heap) (n0 : Nat) (v : Option Value) (h : Heap) (L : List Loc) : Prop := ∃ (o1 : Addr), ∃ (ko1 : ClassId), v = none ∧ Fr n0 L ∧ n0 ≤ o1 ∧ h0.size ≤ o1 ∧ Keep h0 h [a1] ∧ Exa Z h a1 "java/lang/String" ∧ Fld Z h a1 "java/lang/String" "coder" "B" (.int (0 : Int32)) ∧ Fld Z h a1 "java/lang/String" "value" "[B" (.ref o1) ∧ Exa Z h o1 "[B" ∧ Arv Z h o1 ko1 .byte (4 : Int32) [(.int (115 : Int32)), (.int (101 : Int32)), (.int (108 : Int32)), (.int (108 : Int32))] (.int (0 : Int32))
set_option maxRecDepth 65536 in
set_option maxHeartbeats 40000000 in
theorem rm_iniS (l : Launch) (Z : State) (a0 : Array Value) (hw : ∀ d ∈ tables_1, d.before a0 Z = true) (ws : List Jvm.Cond) (a1 : Addr) (a2 : Addr) (sc : Int32) (k_a2 : ClassId) (h0 : Heap) (n0 : Nat) (Z0 : n0 ≤ h0.size) (S_COMPACT_STRINGS : Sta Z h0 "java/lang/String" "COMPACT_STRINGS" "Z" (.int sc)) (hsc : ¬ (sc = (0 : Int32))) (E_a2 : Exa Z h0 a2 "[C") (V_a2 : Arv Z h0 a2 k_a2 .char (4 : Int32) [(.int (115 : Int32)), (.int (101 : Int32)), (.int (108 : Int32)), (.int (108 : Int32))] (.int (0 : Int32))) (E_a1 : Exa Z h0 a1 "java/lang/String") (F_coder_a1 : Fld Z h0 a1 "java/lang/String" "coder" "B" (.int (0 : Int32))) (g_a1 : n0 ≤ a1) (F_value_a1 : Fld Z h0 a1 "java/lang/String" "value" "[B" .null) :
    MetFree l (⟨"java/lang/String", "<init>", "([CIILjava/lang/Void;)V"⟩ : MethodName) (head1 (Jvm.Cond.code (⟨"java/lang/String", "<init>", "([CIILjava/lang/Void;)V"⟩ : MethodName) jdk_42_method_149_code 6 none :: ws) ({ frames := 2, cells := 1, slots := 4, locals := 35 } : Room)) (fun a U => a = #[(.ref a1), (.ref a2), (.int (0 : Int32)), (.int (4 : Int32)), .null] ∧ Z.Warmed39 U.vm ∧ U.heap = h0) (fun _ _ _ _ _ => True) (fun _ U o U' => ∃ v L, o = .returned v ∧ Q_iniS Z a1 a2 sc k_a2 h0 n0 v U'.heap L ∧ FrameEnd U o U' L ({ frames := 2, cells := 1, slots := 4, locals := 35 } : Room).cells ({ frames := 2, cells := 1, slots := 4, locals := 35 } : Room).slots) := by
  refine MetFree.of_bodySF (plainFor_of_name pn_java_lang_String) hisR ?_
  intro p e s m args below meth c s₁ Bd hml0 hP hK
  obtain ⟨rfl, hZ, hh⟩ := hP
  have hx := Bd.exec
  have hby := Bd.bytes
  have hml : c.maxLocals = 6 := hml0
  have hown : s.vm.findClass "java/lang/String" = some m.cls := findClass_of_methodNamed Bd.named
  have hnm := (name_of_methodNamed Bd.named Bd.method).1
  have X0 : Stand p l e ({ frames := 2, cells := 1, slots := 4, locals := 35 } : Room) s m #[(.ref a1), (.ref a2), (.int (0 : Int32)), (.int (4 : Int32)), .null] below meth c s₁ [] 0 0 := Stand.of_body Bd
  have e0 : s₁.heap = h0 := by rw [← hh, Bd.state]; rfl
  have N0 := Fr.nil n0
  have pre0 : ∀ t, Steps p.tables e below (s₁.setTop (mkF m 0 #[.val (.ref a1), .val (.ref a2), .val (.int (0 : Int32)), .val (.int (4 : Int32)), .val .null, .unset] [])) t → Steps p.tables e below (s₁.setTop (entryFrame m #[(.ref a1), (.ref a2), (.int (0 : Int32)), (.int (4 : Int32)), .null] 6)) t := fun t k => castTop (ef_2_RRIIN m a1 a2 (0 : Int32) (4 : Int32)) k
  obtain ⟨T1, X1, e1, st1⟩ := initO X0 hx hZ hown (hw _ (List.mem_of_getElem? (i := 11) rfl)) (hw _ (List.mem_of_getElem? (i := 12) rfl)) (hw _ (List.mem_of_getElem? (i := 13) rfl)) e0 (g := (mkF m 1 #[.val (.ref a1), .val (.ref a2), .val (.int (0 : Int32)), .val (.int (4 : Int32)), .val .null, .unset] [(.ref a1)])) rfl (by rw [hml]; rfl) rfl (hb hby d2_1) (by decide) (W := 0) (by show 2 * 0 + _ ≤ _; exact Nat.le_of_eq rfl) (by decide)
  obtain ⟨T2, X2, e2, st2⟩ := getS2 X1 hx hZ hown (host := "") (Or.inl (hw _ (List.mem_of_getElem? (i := 14) rfl))) Via.refl e1 S_COMPACT_STRINGS (g := (mkF m 27 #[.val (.ref a1), .val (.ref a2), .val (.int (0 : Int32)), .val (.int (4 : Int32)), .val .null, .unset] [])) rfl (hb hby d2_27)
  obtain ⟨_, _, ⟨T3, L3, k3, n3⟩, -, X3, ⟨Lc3, hQ3, l3, y3, z3⟩, st3⟩ := Jvm.LawKit.callS X2 hx (y := (⟨"java/lang/StringUTF16", "compress", "([CII)[B"⟩ : MethodName)) hown (mvT hZ (hw _ (List.mem_of_getElem? (i := 15) rfl))) (mvT hZ (hw _ (List.mem_of_getElem? (i := 16) rfl))) (mvT hZ (hw _ (List.mem_of_getElem? (i := 17) rfl))) (mvT hZ (hw _ (List.mem_of_getElem? (i := 18) rfl))) (by decide) (backOf (W := 0) (rm_cmpS l Z a0 hw [] a2 k_a2 h0 n0 Z0 E_a2 V_a2) hZ (hw _ (List.mem_of_getElem? (i := 18) rfl)) (hw _ (List.mem_of_getElem? (i := 17) rfl)) (by decide) (by decide)) (g := (mkF m 36 #[.val (.ref a1), .val (.ref a2), .val (.int (0 : Int32)), .val (.int (4 : Int32)), .val .null, .unset] [(.int (4 : Int32)), (.int (0 : Int32)), (.ref a2)])) rfl (by rw [hml]; rfl) (argsL := [(.ref a2), (.int (0 : Int32)), (.int (4 : Int32))]) (rest := []) (lenOf pd_1 rfl) rfl (by show 2 * 0 + _ ≤ _; exact Nat.le_of_eq rfl) (hb hby d2_36) (fun _ _ => ⟨rfl, e2, (by decide : 0 + 1 ≤ _), (by decide : 0 + 4 ≤ _)⟩)
  dsimp only [Pt.U, Pt.locs, Pt.cells, Pt.slots] at X3 l3 y3 z3 st3 hQ3
  subst l3 y3 z3
  obtain ⟨b3_1, k3_2, rfl, Nq3, g_b3_1, szq_b3_1, Kc3, fq3_0, fq3_1⟩ := hQ3
  have sz_b3_1 : h0.size ≤ b3_1 := Nat.le_trans (Keep.refl h0 [a1]).1 szq_b3_1
  have ne_a2_b3_1 : a2 ≠ b3_1 := Nat.ne_of_lt (Nat.lt_of_lt_of_le E_a2.lt szq_b3_1)
  have ne_a1_b3_1 : a1 ≠ b3_1 := Nat.ne_of_lt (Nat.lt_of_lt_of_le E_a1.lt szq_b3_1)
  have ne_a2_a1 : a2 ≠ a1 := ne_exa E_a2 E_a1 (by decide)
  have f5 : Sta Z T3.heap "java/lang/String" "COMPACT_STRINGS" "Z" (.int sc) := own_sta_keep S_COMPACT_STRINGS Kc3 all0
  have f6 : Exa Z T3.heap a2 "[C" := E_a2.keep Kc3
  have f7 : Arv Z T3.heap a2 k_a2 .char (4 : Int32) [(.int (115 : Int32)), (.int (101 : Int32)), (.int (108 : Int32)), (.int (108 : Int32))] (.int (0 : Int32)) := V_a2.keep Kc3 nin0
  have f8 : Exa Z T3.heap a1 "java/lang/String" := E_a1.keep Kc3
  have f9 : Fld Z T3.heap a1 "java/lang/String" "coder" "B" (.int (0 : Int32)) := F_coder_a1.keep Kc3 nin0
  have f10 : Fld Z T3.heap a1 "java/lang/String" "value" "[B" .null := F_value_a1.keep Kc3 nin0
  have f11 : Arv Z T3.heap b3_1 k3_2 .byte (4 : Int32) [(.int (115 : Int32)), (.int (101 : Int32)), (.int (108 : Int32)), (.int (108 : Int32))] (.int (0 : Int32)) := fq3_1
  have K12 : Keep h0 T3.heap [a1] := (Keep.refl h0 [a1]).trans Kc3 all0
  have Zs13 : n0 ≤ T3.heap.size := Nat.le_trans Z0 Kc3.1
  have N4 := Fr.app N0 Nq3
  obtain ⟨_, _, ⟨T14, L14, k14, n14⟩, -, X14, ⟨Lc14, hQ14, l14, y14, z14⟩, st14⟩ := Jvm.LawKit.callS X3 hx (y := (⟨"java/lang/StringUTF16", "coderFromArrayLen", "([BI)B"⟩ : MethodName)) hown (mvT hZ (hw _ (List.mem_of_getElem? (i := 23) rfl))) (mvT hZ (hw _ (List.mem_of_getElem? (i := 24) rfl))) (mvT hZ (hw _ (List.mem_of_getElem? (i := 17) rfl))) (mvT hZ (hw _ (List.mem_of_getElem? (i := 25) rfl))) (by decide) (backOf (W := 1) (rm_codS l Z a0 hw [] b3_1 k3_2 T3.heap n0 Zs13 f11) hZ (hw _ (List.mem_of_getElem? (i := 25) rfl)) (hw _ (List.mem_of_getElem? (i := 17) rfl)) (by decide) (by decide)) (g := (mkF m 45 #[.val (.ref a1), .val (.ref a2), .val (.int (0 : Int32)), .val (.int (4 : Int32)), .val .null, .val (.ref b3_1)] [(.int (4 : Int32)), (.ref b3_1), (.ref a1)])) rfl (by rw [hml]; rfl) (argsL := [(.ref b3_1), (.int (4 : Int32))]) (rest := [(.ref a1)]) (lenOf pd_2 rfl) rfl (by show 2 * 0 + _ ≤ _; exact Nat.le_of_eq rfl) (hb hby d2_45) (fun _ _ => ⟨rfl, rfl, (by decide : 1 + 0 ≤ _), (by decide : 4 + 0 ≤ _)⟩)
  dsimp only [Pt.U, Pt.locs, Pt.cells, Pt.slots] at X14 l14 y14 z14 st14 hQ14
  subst l14 y14 z14
  obtain ⟨rfl, Nq14, e14⟩ := hQ14
  have N15 := Fr.app N4 Nq14
  obtain ⟨T16, h16, X16, e16, W16, st16⟩ := putFN X14 hx hZ hown (hw _ (List.mem_of_getElem? (i := 26) rfl)) Via.refl e14 f9 f8 (Or.inr ⟨(hw _ (List.mem_of_getElem? (i := 27) rfl)), rfl, hnm⟩) (hw _ (List.mem_of_getElem? (i := 2) rfl)) (ty := .byte) (v' := (.int (0 : Int32))) (by decide) rfl (by decide) (g := (mkF m 48 #[.val (.ref a1), .val (.ref a2), .val (.int (0 : Int32)), .val (.int (4 : Int32)), .val .null, .val (.ref b3_1)] [(.int (0 : Int32)), (.ref a1)])) rfl rfl (hb hby d2_48)
  have f17 : Sta Z h16 "java/lang/String" "COMPACT_STRINGS" "Z" (.int sc) := f5.wr W16
  have f18 : Exa Z h16 a2 "[C" := f6.wr W16
  have f19 : Arv Z h16 a2 k_a2 .char (4 : Int32) [(.int (115 : Int32)), (.int (101 : Int32)), (.int (108 : Int32)), (.int (108 : Int32))] (.int (0 : Int32)) := f7.other W16 ne_a2_a1
  have f20 : Exa Z h16 a1 "java/lang/String" := f8.wr W16
  have f21 : Fld Z h16 a1 "java/lang/String" "coder" "B" (.int (0 : Int32)) := f9.same W16
  have f22 : Fld Z h16 a1 "java/lang/String" "value" "[B" .null := f10.other W16 (Or.inr (slot_ne (Or.inr (hw _ (List.mem_of_getElem? (i := 29) rfl))) (Or.inr (hw _ (List.mem_of_getElem? (i := 27) rfl))) (by decide) (t := (.array .byte)) (t' := .byte) (by decide) (by decide)))
  have f23 : Exa Z h16 b3_1 "[B" := fq3_0.wr W16
  have f24 : Arv Z h16 b3_1 k3_2 .byte (4 : Int32) [(.int (115 : Int32)), (.int (101 : Int32)), (.int (108 : Int32)), (.int (108 : Int32))] (.int (0 : Int32)) := f11.other W16 (Ne.symm ne_a1_b3_1)
  have K25 : Keep h0 h16 [a1] := K12.wr W16 (Or.inl (List.mem_of_getElem? (i := 0) rfl))
  have N26 := Fr.snoc X16 N15 g_a1
  have Zs27 : n0 ≤ h16.size := Nat.le_trans Zs13 (Keep.of_wr W16).1
  obtain ⟨T28, h28, X28, e28, W28, st28⟩ := putF X16 hx hZ hown (host := "") (Or.inl (hw _ (List.mem_of_getElem? (i := 28) rfl))) Via.refl e16 f22 f20 (Or.inr ⟨(hw _ (List.mem_of_getElem? (i := 29) rfl)), rfl, hnm⟩) (hw _ (List.mem_of_getElem? (i := 2) rfl)) (ty := (.array .byte)) (by decide) rfl rfl (g := (mkF m 54 #[.val (.ref a1), .val (.ref a2), .val (.int (0 : Int32)), .val (.int (4 : Int32)), .val .null, .val (.ref b3_1)] [(.ref b3_1), (.ref a1)])) rfl rfl (hb hby d2_54)
  have f29 : Sta Z h28 "java/lang/String" "COMPACT_STRINGS" "Z" (.int sc) := f17.wr W28
  have f30 : Exa Z h28 a2 "[C" := f18.wr W28
  have f31 : Arv Z h28 a2 k_a2 .char (4 : Int32) [(.int (115 : Int32)), (.int (101 : Int32)), (.int (108 : Int32)), (.int (108 : Int32))] (.int (0 : Int32)) := f19.other W28 ne_a2_a1
  have f32 : Exa Z h28 a1 "java/lang/String" := f20.wr W28
  have f33 : Fld Z h28 a1 "java/lang/String" "coder" "B" (.int (0 : Int32)) := f21.other W28 (Or.inr (slot_ne (Or.inr (hw _ (List.mem_of_getElem? (i := 27) rfl))) (Or.inr (hw _ (List.mem_of_getElem? (i := 29) rfl))) (by decide) (t := .byte) (t' := (.array .byte)) (by decide) (by decide)))
  have f34 : Fld Z h28 a1 "java/lang/String" "value" "[B" (.ref b3_1) := f22.same W28
  have f35 : Exa Z h28 b3_1 "[B" := f23.wr W28
  have f36 : Arv Z h28 b3_1 k3_2 .byte (4 : Int32) [(.int (115 : Int32)), (.int (101 : Int32)), (.int (108 : Int32)), (.int (108 : Int32))] (.int (0 : Int32)) := f24.other W28 (Ne.symm ne_a1_b3_1)
  have K37 : Keep h0 h28 [a1] := K25.wr W28 (Or.inl (List.mem_of_getElem? (i := 0) rfl))
  have N38 := Fr.snoc X28 N26 g_a1
  have Zs39 : n0 ≤ h28.size := Nat.le_trans Zs27 (Keep.of_wr W28).1
  obtain ⟨fs, hr, hrun, hended, hW, hsame⟩ := X28.leave (v := none) (fun _ => rfl) Bd.notSynchronized
  refine ⟨_, _, pre0 _ ?_, hrun, hended, _, _, rfl, ?_, ⟨_, rfl⟩, hW, hsame.mono (by decide) (by decide)⟩
  · show Steps p.tables e below (s₁.setTop (mkF m 0 #[.val (.ref a1), .val (.ref a2), .val (.int (0 : Int32)), .val (.int (4 : Int32)), .val .null, .unset] [])) _
    refine XS.aloadN X0.here hx rfl (hb hby d2_0) rfl rfl ?_
    show Steps p.tables e below (s₁.setTop (mkF m 1 #[.val (.ref a1), .val (.ref a2), .val (.int (0 : Int32)), .val (.int (4 : Int32)), .val .null, .unset] [(.ref a1)])) _
    refine st1 _ ?_
    show Steps p.tables e below (T1.setTop (mkF m 4 #[.val (.ref a1), .val (.ref a2), .val (.int (0 : Int32)), .val (.int (4 : Int32)), .val .null, .unset] [])) _
    refine XS.iloadN X1.here hx rfl (hb hby d2_4) rfl ?_
    show Steps p.tables e below (T1.setTop (mkF m 5 #[.val (.ref a1), .val (.ref a2), .val (.int (0 : Int32)), .val (.int (4 : Int32)), .val .null, .unset] [(.int (4 : Int32))])) _
    refine XS.ifYes X1.here hx rfl (pc0 := 5) (pc' := 27) rfl (hb hby d2_5) rfl ((if0 _ _).trans (feq (by decide : ¬ ((4 : Int32) = (0 : Int32)))).2) (by decide) (by decide) ?_
    show Steps p.tables e below (T1.setTop (mkF m 27 #[.val (.ref a1), .val (.ref a2), .val (.int (0 : Int32)), .val (.int (4 : Int32)), .val .null, .unset] [])) _
    refine st2 _ ?_
    show Steps p.tables e below (T2.setTop (mkF m 30 #[.val (.ref a1), .val (.ref a2), .val (.int (0 : Int32)), .val (.int (4 : Int32)), .val .null, .unset] [(.int sc)])) _
    refine XS.ifNo X2.here hx rfl (hb hby d2_30) rfl ((if0 _ _).trans (feq hsc).1) ?_
    show Steps p.tables e below (T2.setTop (mkF m 33 #[.val (.ref a1), .val (.ref a2), .val (.int (0 : Int32)), .val (.int (4 : Int32)), .val .null, .unset] [])) _
    refine XS.aloadN X2.here hx rfl (hb hby d2_33) rfl rfl ?_
    show Steps p.tables e below (T2.setTop (mkF m 34 #[.val (.ref a1), .val (.ref a2), .val (.int (0 : Int32)), .val (.int (4 : Int32)), .val .null, .unset] [(.ref a2)])) _
    refine XS.iloadN X2.here hx rfl (hb hby d2_34) rfl ?_
    show Steps p.tables e below (T2.setTop (mkF m 35 #[.val (.ref a1), .val (.ref a2), .val (.int (0 : Int32)), .val (.int (4 : Int32)), .val .null, .unset] [(.int (0 : Int32)), (.ref a2)])) _
    refine XS.iloadN X2.here hx rfl (hb hby d2_35) rfl ?_
    show Steps p.tables e below (T2.setTop (mkF m 36 #[.val (.ref a1), .val (.ref a2), .val (.int (0 : Int32)), .val (.int (4 : Int32)), .val .null, .unset] [(.int (4 : Int32)), (.int (0 : Int32)), (.ref a2)])) _
    refine st3 _ ?_
    show Steps p.tables e below (T3.setTop (mkF m 39 #[.val (.ref a1), .val (.ref a2), .val (.int (0 : Int32)), .val (.int (4 : Int32)), .val .null, .unset] [(.ref b3_1)])) _
    refine XS.astore X3.here hx rfl (hb hby d2_39) rfl rfl (l' := #[.val (.ref a1), .val (.ref a2), .val (.int (0 : Int32)), .val (.int (4 : Int32)), .val .null, .val (.ref b3_1)]) rfl ?_
    show Steps p.tables e below (T3.setTop (mkF m 41 #[.val (.ref a1), .val (.ref a2), .val (.int (0 : Int32)), .val (.int (4 : Int32)), .val .null, .val (.ref b3_1)] [])) _
    refine XS.aloadN X3.here hx rfl (hb hby d2_41) rfl rfl ?_
    show Steps p.tables e below (T3.setTop (mkF m 42 #[.val (.ref a1), .val (.ref a2), .val (.int (0 : Int32)), .val (.int (4 : Int32)), .val .null, .val (.ref b3_1)] [(.ref a1)])) _
    refine XS.aload X3.here hx rfl (hb hby d2_42) rfl rfl ?_
    show Steps p.tables e below (T3.setTop (mkF m 44 #[.val (.ref a1), .val (.ref a2), .val (.int (0 : Int32)), .val (.int (4 : Int32)), .val .null, .val (.ref b3_1)] [(.ref b3_1), (.ref a1)])) _
    refine XS.iloadN X3.here hx rfl (hb hby d2_44) rfl ?_
    show Steps p.tables e below (T3.setTop (mkF m 45 #[.val (.ref a1), .val (.ref a2), .val (.int (0 : Int32)), .val (.int (4 : Int32)), .val .null, .val (.ref b3_1)] [(.int (4 : Int32)), (.ref b3_1), (.ref a1)])) _
    refine st14 _ ?_
    show Steps p.tables e below (T14.setTop (mkF m 48 #[.val (.ref a1), .val (.ref a2), .val (.int (0 : Int32)), .val (.int (4 : Int32)), .val .null, .val (.ref b3_1)] [(.int (0 : Int32)), (.ref a1)])) _
    refine st16 _ ?_
    show Steps p.tables e below (T16.setTop (mkF m 51 #[.val (.ref a1), .val (.ref a2), .val (.int (0 : Int32)), .val (.int (4 : Int32)), .val .null, .val (.ref b3_1)] [])) _
    refine XS.aloadN X16.here hx rfl (hb hby d2_51) rfl rfl ?_
    show Steps p.tables e below (T16.setTop (mkF m 52 #[.val (.ref a1), .val (.ref a2), .val (.int (0 : Int32)), .val (.int (4 : Int32)), .val .null, .val (.ref b3_1)] [(.ref a1)])) _
    refine XS.aload X16.here hx rfl (hb hby d2_52) rfl rfl ?_
    show Steps p.tables e below (T16.setTop (mkF m 54 #[.val (.ref a1), .val (.ref a2), .val (.int (0 : Int32)), .val (.int (4 : Int32)), .val .null, .val (.ref b3_1)] [(.ref b3_1), (.ref a1)])) _
    refine st28 _ ?_
    show Steps p.tables e below (T28.setTop (mkF m 57 #[.val (.ref a1), .val (.ref a2), .val (.int (0 : Int32)), .val (.int (4 : Int32)), .val .null, .val (.ref b3_1)] [])) _
    exact X28.returnOut hx Bd.returns (hb hby d2_57) hr
  · show Q_iniS Z a1 a2 sc k_a2 h0 n0 _ T28.heap _
    rw [e28]
    exact ⟨b3_1, k3_2, rfl, N38, g_b3_1, sz_b3_1, K37, f32, f33, f34, f35, f36⟩
def Q_strS (Z : State) (a1 : Addr) (a2 : Addr) (sc : Int32) (k_a2 : ClassId) (h0 : Heap) (n0 : Nat) (v : Option Value) (h : Heap) (L : List Loc) : Prop := ∃ (o1 : Addr), ∃ (ko1 : ClassId), v = none ∧ Fr n0 L ∧ n0 ≤ o1 ∧ h0.size ≤ o1 ∧ Keep h0 h [a1] ∧ Exa Z h a1 "java/lang/String" ∧ Fld Z h a1 "java/lang/String" "coder" "B" (.int (0 : Int32)) ∧ Fld Z h a1 "java/lang/String" "value" "[B" (.ref o1) ∧ Exa Z h o1 "[B" ∧ Arv Z h o1 ko1 .byte (4 : Int32) [(.int (115 : Int32)), (.int (101 : Int32)), (.int (108 : Int32)), (.int (108 : Int32))] (.int (0 : Int32))
set_option maxRecDepth 65536 in
set_option maxHeartbeats 40000000 in
theorem rm_strS (l : Launch) (Z : State) (a0 : Array Value) (hw : ∀ d ∈ tables_1, d.before a0 Z = true) (ws : List Jvm.Cond) (a1 : Addr) (a2 : Addr) (sc : Int32) (k_a2 : ClassId) (h0 : Heap) (n0 : Nat) (Z0 : n0 ≤ h0.size) (S_COMPACT_STRINGS : Sta Z h0 "java/lang/String" "COMPACT_STRINGS" "Z" (.int sc)) (hsc : ¬ (sc = (0 : Int32))) (E_a2 : Exa Z h0 a2 "[C") (V_a2 : Arv Z h0 a2 k_a2 .char (4 : Int32) [(.int (115 : Int32)), (.int (101 : Int32)), (.int (108 : Int32)), (.int (108 : Int32))] (.int (0 : Int32))) (E_a1 : Exa Z h0 a1 "java/lang/String") (F_coder_a1 : Fld Z h0 a1 "java/lang/String" "coder" "B" (.int (0 : Int32))) (g_a1 : n0 ≤ a1) (F_value_a1 : Fld Z h0 a1 "java/lang/String" "value" "[B" .null) :
    MetFree l (⟨"java/lang/String", "<init>", "([C)V"⟩ : MethodName) (head1 (Jvm.Cond.code (⟨"java/lang/String", "<init>", "([C)V"⟩ : MethodName) jdk_42_method_3_code 2 none :: ws) ({ frames := 3, cells := 1, slots := 4, locals := 52 } : Room)) (fun a U => a = #[(.ref a1), (.ref a2)] ∧ Z.Warmed39 U.vm ∧ U.heap = h0) (fun _ _ _ _ _ => True) (fun _ U o U' => ∃ v L, o = .returned v ∧ Q_strS Z a1 a2 sc k_a2 h0 n0 v U'.heap L ∧ FrameEnd U o U' L ({ frames := 3, cells := 1, slots := 4, locals := 52 } : Room).cells ({ frames := 3, cells := 1, slots := 4, locals := 52 } : Room).slots) := by
  refine MetFree.of_bodySF (plainFor_of_name pn_java_lang_String) hisR ?_
  intro p e s m args below meth c s₁ Bd hml0 hP hK
  obtain ⟨rfl, hZ, hh⟩ := hP
  have hx := Bd.exec
  have hby := Bd.bytes
  have hml : c.maxLocals = 2 := hml0
  have hown : s.vm.findClass "java/lang/String" = some m.cls := findClass_of_methodNamed Bd.named
  have hnm := (name_of_methodNamed Bd.named Bd.method).1
  have X0 : Stand p l e ({ frames := 3, cells := 1, slots := 4, locals := 52 } : Room) s m #[(.ref a1), (.ref a2)] below meth c s₁ [] 0 0 := Stand.of_body Bd
  have e0 : s₁.heap = h0 := by rw [← hh, Bd.state]; rfl
  have N0 := Fr.nil n0
  have pre0 : ∀ t, Steps p.tables e below (s₁.setTop (mkF m 0 #[.val (.ref a1), .val (.ref a2)] [])) t → Steps p.tables e below (s₁.setTop (entryFrame m #[(.ref a1), (.ref a2)] 2)) t := fun t k => castTop (ef_1_RR m a1 a2) k
  obtain ⟨clo1, Aro1, -, So1, No1, -, -⟩ := id V_a2
  obtain ⟨_, _, ⟨T2, L2, k2, n2⟩, -, X2, ⟨Lc2, hQ2, l2, y2, z2⟩, st2⟩ := X0.specialBack hx (y := (⟨"java/lang/String", "<init>", "([CIILjava/lang/Void;)V"⟩ : MethodName)) rfl hown (mvT hZ (hw _ (List.mem_of_getElem? (i := 7) rfl))) (mvT hZ (hw _ (List.mem_of_getElem? (i := 8) rfl))) (mvT hZ (hw _ (List.mem_of_getElem? (i := 10) rfl))) (by decide) (backOf (W := 0) (rm_iniS l Z a0 hw [] a1 a2 sc k_a2 h0 n0 Z0 S_COMPACT_STRINGS hsc E_a2 V_a2 E_a1 F_coder_a1 g_a1 F_value_a1) hZ (hw _ (List.mem_of_getElem? (i := 10) rfl)) (hw _ (List.mem_of_getElem? (i := 3) rfl)) (by decide) (by decide)) (g := (mkF m 6 #[.val (.ref a1), .val (.ref a2)] [.null, (.int (4 : Int32)), (.int (0 : Int32)), (.ref a2), (.ref a1)])) rfl (by rw [hml]; rfl) (Steps.refl _) (a := a1) (argsL := [(.ref a2), (.int (0 : Int32)), (.int (4 : Int32)), .null]) (rest := []) (lenOf pd_3 rfl) rfl (by show 2 * 0 + _ ≤ _; exact Nat.le_of_eq rfl) (hb hby d1_6) (fun _ _ => ⟨rfl, e0, (by decide : 0 + 1 ≤ _), (by decide : 0 + 4 ≤ _)⟩)
  dsimp only [Pt.U, Pt.locs, Pt.cells, Pt.slots] at X2 l2 y2 z2 st2 hQ2
  subst l2 y2 z2
  obtain ⟨b2_1, k2_2, rfl, Nq2, g_b2_1, szq_b2_1, Kc2, fq2_0, fq2_1, fq2_2, fq2_3, fq2_4⟩ := hQ2
  have sz_b2_1 : h0.size ≤ b2_1 := Nat.le_trans (Keep.refl h0 [a1]).1 szq_b2_1
  have ne_a2_b2_1 : a2 ≠ b2_1 := Nat.ne_of_lt (Nat.lt_of_lt_of_le E_a2.lt szq_b2_1)
  have ne_a1_b2_1 : a1 ≠ b2_1 := Nat.ne_of_lt (Nat.lt_of_lt_of_le E_a1.lt szq_b2_1)
  have ne_a2_a1 : a2 ≠ a1 := ne_exa E_a2 E_a1 (by decide)
  have f4 : Sta Z T2.heap "java/lang/String" "COMPACT_STRINGS" "Z" (.int sc) := own_sta_keep S_COMPACT_STRINGS Kc2 (allS (own_plain_cell E_a1) all0)
  have f5 : Exa Z T2.heap a2 "[C" := E_a2.keep Kc2
  have f6 : Arv Z T2.heap a2 k_a2 .char (4 : Int32) [(.int (115 : Int32)), (.int (101 : Int32)), (.int (108 : Int32)), (.int (108 : Int32))] (.int (0 : Int32)) := V_a2.keep Kc2 (ninS ne_a2_a1 nin0)
  have f7 : Fld Z T2.heap a1 "java/lang/String" "coder" "B" (.int (0 : Int32)) := fq2_1
  have f8 : Fld Z T2.heap a1 "java/lang/String" "value" "[B" (.ref b2_1) := fq2_2
  have f9 : Arv Z T2.heap b2_1 k2_2 .byte (4 : Int32) [(.int (115 : Int32)), (.int (101 : Int32)), (.int (108 : Int32)), (.int (108 : Int32))] (.int (0 : Int32)) := fq2_4
  have K10 : Keep h0 T2.heap [a1] := (Keep.refl h0 [a1]).trans Kc2 (allS (Or.inl (List.mem_of_getElem? (i := 0) rfl)) all0)
  have Zs11 : n0 ≤ T2.heap.size := Nat.le_trans Z0 Kc2.1
  have N3 := Fr.app N0 Nq2
  obtain ⟨fs, hr, hrun, hended, hW, hsame⟩ := X2.leave (v := none) (fun _ => rfl) Bd.notSynchronized
  refine ⟨_, _, pre0 _ ?_, hrun, hended, _, _, rfl, ?_, ⟨_, rfl⟩, hW, hsame.mono (by decide) (by decide)⟩
  · show Steps p.tables e below (s₁.setTop (mkF m 0 #[.val (.ref a1), .val (.ref a2)] [])) _
    refine XS.aloadN X0.here hx rfl (hb hby d1_0) rfl rfl ?_
    show Steps p.tables e below (s₁.setTop (mkF m 1 #[.val (.ref a1), .val (.ref a2)] [(.ref a1)])) _
    refine XS.aloadN X0.here hx rfl (hb hby d1_1) rfl rfl ?_
    show Steps p.tables e below (s₁.setTop (mkF m 2 #[.val (.ref a1), .val (.ref a2)] [(.ref a2), (.ref a1)])) _
    refine XS.iconst X0.here hx rfl (hb hby d1_2) ?_
    show Steps p.tables e below (s₁.setTop (mkF m 3 #[.val (.ref a1), .val (.ref a2)] [(.int (0 : Int32)), (.ref a2), (.ref a1)])) _
    refine XS.aloadN X0.here hx rfl (hb hby d1_3) rfl rfl ?_
    show Steps p.tables e below (s₁.setTop (mkF m 4 #[.val (.ref a1), .val (.ref a2)] [(.ref a2), (.int (0 : Int32)), (.ref a2), (.ref a1)])) _
    refine X0.arraylength hx (by rw [e0]; exact Aro1.1) (State.isArrayOf_alike hZ.alike Aro1.2.1) (g := (mkF m 4 #[.val (.ref a1), .val (.ref a2)] [(.ref a2), (.int (0 : Int32)), (.ref a2), (.ref a1)])) rfl rfl (hb hby d1_4) _ ?_
    rw [len_of So1 No1]
    show Steps p.tables e below (s₁.setTop (mkF m 5 #[.val (.ref a1), .val (.ref a2)] [(.int (4 : Int32)), (.int (0 : Int32)), (.ref a2), (.ref a1)])) _
    refine XS.aconstNull X0.here hx rfl (hb hby d1_5) ?_
    show Steps p.tables e below (s₁.setTop (mkF m 6 #[.val (.ref a1), .val (.ref a2)] [.null, (.int (4 : Int32)), (.int (0 : Int32)), (.ref a2), (.ref a1)])) _
    refine st2.trans ?_
    show Steps p.tables e below (T2.setTop (mkF m 9 #[.val (.ref a1), .val (.ref a2)] [])) _
    exact X2.returnOut hx Bd.returns (hb hby d1_9) hr
  · show Q_strS Z a1 a2 sc k_a2 h0 n0 _ T2.heap _
    exact ⟨b2_1, k2_2, rfl, N3, g_b2_1, sz_b2_1, K10, fq2_0, f7, f8, fq2_3, f9⟩
theorem d8_0 : decode prog_15_method_1_code 0 = .ok (.getstatic 10, 3) := by decide +kernel
theorem d8_3 : decode prog_15_method_1_code 3 = .ok (.invokevirtual 14, 3) := by decide +kernel
theorem d8_6 : decode prog_15_method_1_code 6 = .ok (.checkcast 15, 3) := by decide +kernel
theorem d8_9 : decode prog_15_method_1_code 9 = .ok (.areturn, 1) := by decide +kernel
theorem pn_org_everroll_Fill_Side : plainName "org/everroll/Fill$Side" = true := by first | (simp [plainName, overriddenIn]; done) | decide +kernel
theorem ef_8_ (m : MethodId)  : entryFrame m #[] 0 = mkF m 0 #[] [] := by first | (simp [entryFrame, mkF, argsToLocals, Value.category]; done) | rfl
def Q_values (Z : State) (va : Addr) (uB : Addr) (uS : Addr) (k_va : ClassId) (h0 : Heap) (n0 : Nat) (v : Option Value) (h : Heap) (L : List Loc) : Prop := ∃ (o1 : Addr), v = some (.ref o1) ∧ Fr n0 L ∧ n0 ≤ o1 ∧ h0.size ≤ o1 ∧ Keep h0 h [] ∧ Exa Z h o1 "[Lorg/everroll/Fill$Side;" ∧ Arv Z h o1 k_va (.object "org/everroll/Fill$Side") (2 : Int32) [(.ref uB), (.ref uS)] .null
set_option maxRecDepth 65536 in
set_option maxHeartbeats 40000000 in
theorem rm_values (l : Launch) (Z : State) (a0 : Array Value) (hw : ∀ d ∈ tables_1, d.before a0 Z = true) (ws : List Jvm.Cond) (va : Addr) (uB : Addr) (uS : Addr) (k_va : ClassId) (h0 : Heap) (n0 : Nat) (Z0 : n0 ≤ h0.size) (S__VALUES : Sta Z h0 "org/everroll/Fill$Side" "$VALUES" "[Lorg/everroll/Fill$Side;" (.ref va)) (E_va : Exa Z h0 va "[Lorg/everroll/Fill$Side;") (V_va : Arv Z h0 va k_va (.object "org/everroll/Fill$Side") (2 : Int32) [(.ref uB), (.ref uS)] .null) :
    MetFree l (⟨"org/everroll/Fill$Side", "values", "()[Lorg/everroll/Fill$Side;"⟩ : MethodName) (head1 (Jvm.Cond.code (⟨"org/everroll/Fill$Side", "values", "()[Lorg/everroll/Fill$Side;"⟩ : MethodName) prog_15_method_1_code 0 (some (.array (.object "org/everroll/Fill$Side"))) :: ws) ({ frames := 1, cells := 1, slots := 2, locals := 14 } : Room)) (fun a U => a = #[] ∧ Z.Warmed39 U.vm ∧ U.heap = h0) (fun _ _ _ _ _ => True) (fun _ U o U' => ∃ v L, o = .returned v ∧ Q_values Z va uB uS k_va h0 n0 v U'.heap L ∧ FrameEnd U o U' L ({ frames := 1, cells := 1, slots := 2, locals := 14 } : Room).cells ({ frames := 1, cells := 1, slots := 2, locals := 14 } : Room).slots) := by
  refine MetFree.of_bodySF (plainFor_of_name pn_org_everroll_Fill_Side) hisR ?_
  intro p e s m args below meth c s₁ Bd hml0 hP hK
  obtain ⟨rfl, hZ, hh⟩ := hP
  have hx := Bd.exec
  have hby := Bd.bytes
  have hml : c.maxLocals = 0 := hml0
  have hown : s.vm.findClass "org/everroll/Fill$Side" = some m.cls := findClass_of_methodNamed Bd.named
  have hnm := (name_of_methodNamed Bd.named Bd.method).1
  have X0 : Stand p l e ({ frames := 1, cells := 1, slots := 2, locals := 14 } : Room) s m #[] below meth c s₁ [] 0 0 := Stand.of_body Bd
  have e0 : s₁.heap = h0 := by rw [← hh, Bd.state]; rfl
  have N0 := Fr.nil n0
  have pre0 : ∀ t, Steps p.tables e below (s₁.setTop (mkF m 0 #[] [])) t → Steps p.tables e below (s₁.setTop (entryFrame m #[] 0)) t := fun t k => castTop (ef_8_ m ) k
  obtain ⟨T1, X1, e1, st1⟩ := getS2 X0 hx hZ hown (host := "") (Or.inl (hw _ (List.mem_of_getElem? (i := 37) rfl))) Via.refl e0 S__VALUES (g := (mkF m 0 #[] [])) rfl (hb hby d8_0)
  obtain ⟨T2, h2, X2, e2, E2, A2, Ex2, st2⟩ := cloneH X1 hx hZ hown (hw _ (List.mem_of_getElem? (i := 39) rfl)) (hw _ (List.mem_of_getElem? (i := 40) rfl)) (hw _ (List.mem_of_getElem? (i := 44) rfl)) (hw _ (List.mem_of_getElem? (i := 42) rfl)) (hw _ (List.mem_of_getElem? (i := 43) rfl)) (hw _ (List.mem_of_getElem? (i := 45) rfl)) e1 (Arv.arh V_va) E_va (g := (mkF m 3 #[] [(.ref va)])) rfl (by rw [hml]; rfl) rfl (hb hby d8_3) (by decide) (W := 0) (cap := 2) (by show 2 * 0 + _ ≤ _; exact Nat.le_of_eq rfl) (by decide) (by decide) (by decide) (by decide)
  obtain ⟨b2, g2⟩ : ∃ z, z = h0.size := ⟨_, rfl⟩
  rw [← g2] at A2 Ex2 st2
  have g_b2 : n0 ≤ b2 := Nat.le_trans Z0 (Nat.le_of_eq g2.symm)
  have sz_b2 : h0.size ≤ b2 := Nat.le_trans (Keep.refl h0 []).1 (Nat.le_of_eq g2.symm)
  have ne_va_b2 : va ≠ b2 := Nat.ne_of_lt (Nat.lt_of_lt_of_le E_va.lt (Nat.le_of_eq g2.symm))
  have f3 : Sta Z h2 "org/everroll/Fill$Side" "$VALUES" "[Lorg/everroll/Fill$Side;" (.ref va) := S__VALUES.ext E2
  have f4 : Exa Z h2 va "[Lorg/everroll/Fill$Side;" := E_va.ext E2
  have f5 : Arv Z h2 va k_va (.object "org/everroll/Fill$Side") (2 : Int32) [(.ref uB), (.ref uS)] .null := V_va.ext E2
  have K6 : Keep h0 h2 [] := (Keep.refl h0 []).ext E2
  have Zs7 : n0 ≤ h2.size := Nat.le_trans Z0 E2.1
  have f8 : Arv Z h2 b2 k_va (.object "org/everroll/Fill$Side") (2 : Int32) [(.ref uB), (.ref uS)] .null := A2
  obtain ⟨T9, X9, e9, st9⟩ := castY X2 hx hZ hown (hw _ (List.mem_of_getElem? (i := 49) rfl)) e2 (Ins.self Ex2) (g := (mkF m 6 #[] [(.ref b2)])) rfl rfl (hb hby d8_6)
  obtain ⟨fs, hr, hrun, hended, hW, hsame⟩ := X9.leave (v := some (.ref b2)) (fun h => by rw [Bd.returns] at h; cases h) Bd.notSynchronized
  refine ⟨_, _, pre0 _ ?_, hrun, hended, _, _, rfl, ?_, ⟨_, rfl⟩, hW, hsame.mono (by decide) (by decide)⟩
  · show Steps p.tables e below (s₁.setTop (mkF m 0 #[] [])) _
    refine st1 _ ?_
    show Steps p.tables e below (T1.setTop (mkF m 3 #[] [(.ref va)])) _
    refine st2 _ ?_
    show Steps p.tables e below (T2.setTop (mkF m 6 #[] [(.ref b2)])) _
    refine st9 _ ?_
    show Steps p.tables e below (T9.setTop (mkF m 9 #[] [(.ref b2)])) _
    exact retOut X9 hx (t := (.array (.object "org/everroll/Fill$Side"))) (i := .areturn) Bd.returns rfl (Or.inr (Or.inr (Or.inr (Or.inr ⟨rfl, rfl, rfl⟩)))) (hb hby d8_9) hr
  · show Q_values Z va uB uS k_va h0 n0 _ T9.heap _
    rw [e9]
    exact ⟨b2, rfl, N0, g_b2, sz_b2, K6, Ex2, f8⟩
theorem d10_0 : decode jdk_43_method_13_code 0 = .ok (.aload_n 0, 1) := by decide +kernel
theorem d10_1 : decode jdk_43_method_13_code 1 = .ok (.arraylength, 1) := by decide +kernel
theorem d10_2 : decode jdk_43_method_13_code 2 = .ok (.aload_n 1, 1) := by decide +kernel
theorem d10_3 : decode jdk_43_method_13_code 3 = .ok (.arraylength, 1) := by decide +kernel
theorem d10_4 : decode jdk_43_method_13_code 4 = .ok (.if_icmp .ne 30, 3) := by decide +kernel
theorem d10_7 : decode jdk_43_method_13_code 7 = .ok (.iconst 0, 1) := by decide +kernel
theorem d10_8 : decode jdk_43_method_13_code 8 = .ok (.istore_n 2, 1) := by decide +kernel
theorem d10_9 : decode jdk_43_method_13_code 9 = .ok (.iload_n 2, 1) := by decide +kernel
theorem d10_10 : decode jdk_43_method_13_code 10 = .ok (.aload_n 0, 1) := by decide +kernel
theorem d10_11 : decode jdk_43_method_13_code 11 = .ok (.arraylength, 1) := by decide +kernel
theorem d10_12 : decode jdk_43_method_13_code 12 = .ok (.if_icmp .ge 20, 3) := by decide +kernel
theorem d10_15 : decode jdk_43_method_13_code 15 = .ok (.aload_n 0, 1) := by decide +kernel
theorem d10_16 : decode jdk_43_method_13_code 16 = .ok (.iload_n 2, 1) := by decide +kernel
theorem d10_17 : decode jdk_43_method_13_code 17 = .ok (.baload, 1) := by decide +kernel
theorem d10_18 : decode jdk_43_method_13_code 18 = .ok (.aload_n 1, 1) := by decide +kernel
theorem d10_19 : decode jdk_43_method_13_code 19 = .ok (.iload_n 2, 1) := by decide +kernel
theorem d10_20 : decode jdk_43_method_13_code 20 = .ok (.baload, 1) := by decide +kernel
theorem d10_21 : decode jdk_43_method_13_code 21 = .ok (.if_icmp .eq 5, 3) := by decide +kernel
theorem d10_26 : decode jdk_43_method_13_code 26 = .ok (.iinc 2 1, 3) := by decide +kernel
theorem d10_29 : decode jdk_43_method_13_code 29 = .ok (.goto (-20), 3) := by decide +kernel
theorem d10_32 : decode jdk_43_method_13_code 32 = .ok (.iconst 1, 1) := by decide +kernel
theorem d10_33 : decode jdk_43_method_13_code 33 = .ok (.ireturn, 1) := by decide +kernel
theorem pn_java_lang_StringLatin1 : plainName "java/lang/StringLatin1" = true := by first | (simp [plainName, overriddenIn]; done) | decide +kernel
theorem ef_10_RR (m : MethodId) (x0 : Addr) (x1 : Addr) : entryFrame m #[(.ref x0), (.ref x1)] 3 = mkF m 0 #[.val (.ref x0), .val (.ref x1), .unset] [] := by first | (simp [entryFrame, mkF, argsToLocals, Value.category]; done) | rfl
def Q_latBB (Z : State) (a1 : Addr) (a2 : Addr) (k_a1 : ClassId) (k_a2 : ClassId) (h0 : Heap) (n0 : Nat) (v : Option Value) (h : Heap) (L : List Loc) : Prop := v = some (.int (1 : Int32)) ∧ Fr n0 L ∧ h = h0
set_option maxRecDepth 65536 in
set_option maxHeartbeats 40000000 in
theorem rm_latBB (l : Launch) (Z : State) (a0 : Array Value) (hw : ∀ d ∈ tables_1, d.before a0 Z = true) (ws : List Jvm.Cond) (a1 : Addr) (a2 : Addr) (k_a1 : ClassId) (k_a2 : ClassId) (h0 : Heap) (n0 : Nat) (Z0 : n0 ≤ h0.size) (V_a1 : Arv Z h0 a1 k_a1 .byte (3 : Int32) [(.int (98 : Int32)), (.int (117 : Int32)), (.int (121 : Int32))] (.int (0 : Int32))) (V_a2 : Arv Z h0 a2 k_a2 .byte (3 : Int32) [(.int (98 : Int32)), (.int (117 : Int32)), (.int (121 : Int32))] (.int (0 : Int32))) :
    MetFree l (⟨"java/lang/StringLatin1", "equals", "([B[B)Z"⟩ : MethodName) (head1 (Jvm.Cond.code (⟨"java/lang/StringLatin1", "equals", "([B[B)Z"⟩ : MethodName) jdk_43_method_13_code 3 (some .boolean) :: ws) ({ frames := 0, cells := 0, slots := 0, locals := 0 } : Room)) (fun a U => a = #[(.ref a1), (.ref a2)] ∧ Z.Warmed39 U.vm ∧ U.heap = h0) (fun _ _ _ _ _ => True) (fun _ U o U' => ∃ v L, o = .returned v ∧ Q_latBB Z a1 a2 k_a1 k_a2 h0 n0 v U'.heap L ∧ FrameEnd U o U' L ({ frames := 0, cells := 0, slots := 0, locals := 0 } : Room).cells ({ frames := 0, cells := 0, slots := 0, locals := 0 } : Room).slots) := by
  refine MetFree.of_bodySF (plainFor_of_name pn_java_lang_StringLatin1) hisR ?_
  intro p e s m args below meth c s₁ Bd hml0 hP hK
  obtain ⟨rfl, hZ, hh⟩ := hP
  have hx := Bd.exec
  have hby := Bd.bytes
  have hml : c.maxLocals = 3 := hml0
  have hown : s.vm.findClass "java/lang/StringLatin1" = some m.cls := findClass_of_methodNamed Bd.named
  have hnm := (name_of_methodNamed Bd.named Bd.method).1
  have X0 : Stand p l e ({ frames := 0, cells := 0, slots := 0, locals := 0 } : Room) s m #[(.ref a1), (.ref a2)] below meth c s₁ [] 0 0 := Stand.of_body Bd
  have e0 : s₁.heap = h0 := by rw [← hh, Bd.state]; rfl
  have N0 := Fr.nil n0
  have pre0 : ∀ t, Steps p.tables e below (s₁.setTop (mkF m 0 #[.val (.ref a1), .val (.ref a2), .unset] [])) t → Steps p.tables e below (s₁.setTop (entryFrame m #[(.ref a1), (.ref a2)] 3)) t := fun t k => castTop (ef_10_RR m a1 a2) k
  obtain ⟨clo1, Aro1, -, So1, No1, -, -⟩ := id V_a1
  obtain ⟨clo2, Aro2, -, So2, No2, -, -⟩ := id V_a2
  obtain ⟨clo3, Aro3, -, So3, No3, -, -⟩ := id V_a1
  obtain ⟨clo4, Aro4, qo4, So4, No4, Ho4, Go4⟩ := id V_a1
  have hino4 : ¬ ((0 : Int32) < 0 ∨ clo4.slots.size ≤ ((0 : Int32)).toNatClampNeg) := inb_of So4 ⟨by decide, by decide⟩
  obtain ⟨clo5, Aro5, qo5, So5, No5, Ho5, Go5⟩ := id V_a2
  have hino5 : ¬ ((0 : Int32) < 0 ∨ clo5.slots.size ≤ ((0 : Int32)).toNatClampNeg) := inb_of So5 ⟨by decide, by decide⟩
  obtain ⟨clo6, Aro6, -, So6, No6, -, -⟩ := id V_a1
  obtain ⟨clo7, Aro7, qo7, So7, No7, Ho7, Go7⟩ := id V_a1
  have hino7 : ¬ ((1 : Int32) < 0 ∨ clo7.slots.size ≤ ((1 : Int32)).toNatClampNeg) := inb_of So7 ⟨by decide, by decide⟩
  obtain ⟨clo8, Aro8, qo8, So8, No8, Ho8, Go8⟩ := id V_a2
  have hino8 : ¬ ((1 : Int32) < 0 ∨ clo8.slots.size ≤ ((1 : Int32)).toNatClampNeg) := inb_of So8 ⟨by decide, by decide⟩
  obtain ⟨clo9, Aro9, -, So9, No9, -, -⟩ := id V_a1
  obtain ⟨clo10, Aro10, qo10, So10, No10, Ho10, Go10⟩ := id V_a1
  have hino10 : ¬ ((2 : Int32) < 0 ∨ clo10.slots.size ≤ ((2 : Int32)).toNatClampNeg) := inb_of So10 ⟨by decide, by decide⟩
  obtain ⟨clo11, Aro11, qo11, So11, No11, Ho11, Go11⟩ := id V_a2
  have hino11 : ¬ ((2 : Int32) < 0 ∨ clo11.slots.size ≤ ((2 : Int32)).toNatClampNeg) := inb_of So11 ⟨by decide, by decide⟩
  obtain ⟨clo12, Aro12, -, So12, No12, -, -⟩ := id V_a1
  obtain ⟨fs, hr, hrun, hended, hW, hsame⟩ := X0.leave (v := some (.int (1 : Int32))) (fun h => by rw [Bd.returns] at h; cases h) Bd.notSynchronized
  refine ⟨_, _, pre0 _ ?_, hrun, hended, _, _, rfl, ?_, ⟨_, rfl⟩, hW, hsame.mono (by decide) (by decide)⟩
  · show Steps p.tables e below (s₁.setTop (mkF m 0 #[.val (.ref a1), .val (.ref a2), .unset] [])) _
    refine XS.aloadN X0.here hx rfl (hb hby d10_0) rfl rfl ?_
    show Steps p.tables e below (s₁.setTop (mkF m 1 #[.val (.ref a1), .val (.ref a2), .unset] [(.ref a1)])) _
    refine X0.arraylength hx (by rw [e0]; exact Aro1.1) (State.isArrayOf_alike hZ.alike Aro1.2.1) (g := (mkF m 1 #[.val (.ref a1), .val (.ref a2), .unset] [(.ref a1)])) rfl rfl (hb hby d10_1) _ ?_
    rw [len_of So1 No1]
    show Steps p.tables e below (s₁.setTop (mkF m 2 #[.val (.ref a1), .val (.ref a2), .unset] [(.int (3 : Int32))])) _
    refine XS.aloadN X0.here hx rfl (hb hby d10_2) rfl rfl ?_
    show Steps p.tables e below (s₁.setTop (mkF m 3 #[.val (.ref a1), .val (.ref a2), .unset] [(.ref a2), (.int (3 : Int32))])) _
    refine X0.arraylength hx (by rw [e0]; exact Aro2.1) (State.isArrayOf_alike hZ.alike Aro2.2.1) (g := (mkF m 3 #[.val (.ref a1), .val (.ref a2), .unset] [(.ref a2), (.int (3 : Int32))])) rfl rfl (hb hby d10_3) _ ?_
    rw [len_of So2 No2]
    show Steps p.tables e below (s₁.setTop (mkF m 4 #[.val (.ref a1), .val (.ref a2), .unset] [(.int (3 : Int32)), (.int (3 : Int32))])) _
    refine XS.icmpNo X0.here hx rfl (hb hby d10_4) rfl (teq (by decide : (3 : Int32) = (3 : Int32))).2 ?_
    show Steps p.tables e below (s₁.setTop (mkF m 7 #[.val (.ref a1), .val (.ref a2), .unset] [])) _
    refine XS.iconst X0.here hx rfl (hb hby d10_7) ?_
    show Steps p.tables e below (s₁.setTop (mkF m 8 #[.val (.ref a1), .val (.ref a2), .unset] [(.int (0 : Int32))])) _
    refine XS.istoreN X0.here hx rfl (hb hby d10_8) rfl (l' := #[.val (.ref a1), .val (.ref a2), .val (.int (0 : Int32))]) rfl ?_
    show Steps p.tables e below (s₁.setTop (mkF m 9 #[.val (.ref a1), .val (.ref a2), .val (.int (0 : Int32))] [])) _
    refine XS.iloadN X0.here hx rfl (hb hby d10_9) rfl ?_
    show Steps p.tables e below (s₁.setTop (mkF m 10 #[.val (.ref a1), .val (.ref a2), .val (.int (0 : Int32))] [(.int (0 : Int32))])) _
    refine XS.aloadN X0.here hx rfl (hb hby d10_10) rfl rfl ?_
    show Steps p.tables e below (s₁.setTop (mkF m 11 #[.val (.ref a1), .val (.ref a2), .val (.int (0 : Int32))] [(.ref a1), (.int (0 : Int32))])) _
    refine X0.arraylength hx (by rw [e0]; exact Aro3.1) (State.isArrayOf_alike hZ.alike Aro3.2.1) (g := (mkF m 11 #[.val (.ref a1), .val (.ref a2), .val (.int (0 : Int32))] [(.ref a1), (.int (0 : Int32))])) rfl rfl (hb hby d10_11) _ ?_
    rw [len_of So3 No3]
    show Steps p.tables e below (s₁.setTop (mkF m 12 #[.val (.ref a1), .val (.ref a2), .val (.int (0 : Int32))] [(.int (3 : Int32)), (.int (0 : Int32))])) _
    refine XS.icmpNo X0.here hx rfl (hb hby d10_12) rfl (tlt (by decide : (0 : Int32) < (3 : Int32))).2.1 ?_
    show Steps p.tables e below (s₁.setTop (mkF m 15 #[.val (.ref a1), .val (.ref a2), .val (.int (0 : Int32))] [])) _
    refine XS.aloadN X0.here hx rfl (hb hby d10_15) rfl rfl ?_
    show Steps p.tables e below (s₁.setTop (mkF m 16 #[.val (.ref a1), .val (.ref a2), .val (.int (0 : Int32))] [(.ref a1)])) _
    refine XS.iloadN X0.here hx rfl (hb hby d10_16) rfl ?_
    show Steps p.tables e below (s₁.setTop (mkF m 17 #[.val (.ref a1), .val (.ref a2), .val (.int (0 : Int32))] [(.int (0 : Int32)), (.ref a1)])) _
    refine X0.baloadBytes hx (j := (0 : Int32)) (v := (.int (98 : Int32))) (by rw [e0]; exact Aro4.1) (State.isArrayOf_alike hZ.alike Aro4.2.1) Aro4.2.2 hino4 (Ho4.at hino4 rfl) (g := (mkF m 17 #[.val (.ref a1), .val (.ref a2), .val (.int (0 : Int32))] [(.int (0 : Int32)), (.ref a1)])) rfl rfl (hb hby d10_17) _ ?_
    show Steps p.tables e below (s₁.setTop (mkF m 18 #[.val (.ref a1), .val (.ref a2), .val (.int (0 : Int32))] [(.int (98 : Int32))])) _
    refine XS.aloadN X0.here hx rfl (hb hby d10_18) rfl rfl ?_
    show Steps p.tables e below (s₁.setTop (mkF m 19 #[.val (.ref a1), .val (.ref a2), .val (.int (0 : Int32))] [(.ref a2), (.int (98 : Int32))])) _
    refine XS.iloadN X0.here hx rfl (hb hby d10_19) rfl ?_
    show Steps p.tables e below (s₁.setTop (mkF m 20 #[.val (.ref a1), .val (.ref a2), .val (.int (0 : Int32))] [(.int (0 : Int32)), (.ref a2), (.int (98 : Int32))])) _
    refine X0.baloadBytes hx (j := (0 : Int32)) (v := (.int (98 : Int32))) (by rw [e0]; exact Aro5.1) (State.isArrayOf_alike hZ.alike Aro5.2.1) Aro5.2.2 hino5 (Ho5.at hino5 rfl) (g := (mkF m 20 #[.val (.ref a1), .val (.ref a2), .val (.int (0 : Int32))] [(.int (0 : Int32)), (.ref a2), (.int (98 : Int32))])) rfl rfl (hb hby d10_20) _ ?_
    show Steps p.tables e below (s₁.setTop (mkF m 21 #[.val (.ref a1), .val (.ref a2), .val (.int (0 : Int32))] [(.int (98 : Int32)), (.int (98 : Int32))])) _
    refine XS.icmpYes X0.here hx rfl (pc0 := 21) (pc' := 26) rfl (hb hby d10_21) rfl (teq (by decide : (98 : Int32) = (98 : Int32))).1 (by decide) (by decide) ?_
    show Steps p.tables e below (s₁.setTop (mkF m 26 #[.val (.ref a1), .val (.ref a2), .val (.int (0 : Int32))] [])) _
    refine XS.iinc X0.here hx rfl (hb hby d10_26) rfl (l' := #[.val (.ref a1), .val (.ref a2), .val (.int (1 : Int32))]) rfl ?_
    show Steps p.tables e below (s₁.setTop (mkF m 29 #[.val (.ref a1), .val (.ref a2), .val (.int (1 : Int32))] [])) _
    refine XS.goto X0.here hx rfl (pc0 := 29) (pc' := 9) rfl (hb hby d10_29) (by decide) (by decide) ?_
    show Steps p.tables e below (s₁.setTop (mkF m 9 #[.val (.ref a1), .val (.ref a2), .val (.int (1 : Int32))] [])) _
    refine XS.iloadN X0.here hx rfl (hb hby d10_9) rfl ?_
    show Steps p.tables e below (s₁.setTop (mkF m 10 #[.val (.ref a1), .val (.ref a2), .val (.int (1 : Int32))] [(.int (1 : Int32))])) _
    refine XS.aloadN X0.here hx rfl (hb hby d10_10) rfl rfl ?_
    show Steps p.tables e below (s₁.setTop (mkF m 11 #[.val (.ref a1), .val (.ref a2), .val (.int (1 : Int32))] [(.ref a1), (.int (1 : Int32))])) _
    refine X0.arraylength hx (by rw [e0]; exact Aro6.1) (State.isArrayOf_alike hZ.alike Aro6.2.1) (g := (mkF m 11 #[.val (.ref a1), .val (.ref a2), .val (.int (1 : Int32))] [(.ref a1), (.int (1 : Int32))])) rfl rfl (hb hby d10_11) _ ?_
    rw [len_of So6 No6]
    show Steps p.tables e below (s₁.setTop (mkF m 12 #[.val (.ref a1), .val (.ref a2), .val (.int (1 : Int32))] [(.int (3 : Int32)), (.int (1 : Int32))])) _
    refine XS.icmpNo X0.here hx rfl (hb hby d10_12) rfl (tlt (by decide : (1 : Int32) < (3 : Int32))).2.1 ?_
    show Steps p.tables e below (s₁.setTop (mkF m 15 #[.val (.ref a1), .val (.ref a2), .val (.int (1 : Int32))] [])) _
    refine XS.aloadN X0.here hx rfl (hb hby d10_15) rfl rfl ?_
    show Steps p.tables e below (s₁.setTop (mkF m 16 #[.val (.ref a1), .val (.ref a2), .val (.int (1 : Int32))] [(.ref a1)])) _
    refine XS.iloadN X0.here hx rfl (hb hby d10_16) rfl ?_
    show Steps p.tables e below (s₁.setTop (mkF m 17 #[.val (.ref a1), .val (.ref a2), .val (.int (1 : Int32))] [(.int (1 : Int32)), (.ref a1)])) _
    refine X0.baloadBytes hx (j := (1 : Int32)) (v := (.int (117 : Int32))) (by rw [e0]; exact Aro7.1) (State.isArrayOf_alike hZ.alike Aro7.2.1) Aro7.2.2 hino7 (Ho7.at hino7 rfl) (g := (mkF m 17 #[.val (.ref a1), .val (.ref a2), .val (.int (1 : Int32))] [(.int (1 : Int32)), (.ref a1)])) rfl rfl (hb hby d10_17) _ ?_
    show Steps p.tables e below (s₁.setTop (mkF m 18 #[.val (.ref a1), .val (.ref a2), .val (.int (1 : Int32))] [(.int (117 : Int32))])) _
    refine XS.aloadN X0.here hx rfl (hb hby d10_18) rfl rfl ?_
    show Steps p.tables e below (s₁.setTop (mkF m 19 #[.val (.ref a1), .val (.ref a2), .val (.int (1 : Int32))] [(.ref a2), (.int (117 : Int32))])) _
    refine XS.iloadN X0.here hx rfl (hb hby d10_19) rfl ?_
    show Steps p.tables e below (s₁.setTop (mkF m 20 #[.val (.ref a1), .val (.ref a2), .val (.int (1 : Int32))] [(.int (1 : Int32)), (.ref a2), (.int (117 : Int32))])) _
    refine X0.baloadBytes hx (j := (1 : Int32)) (v := (.int (117 : Int32))) (by rw [e0]; exact Aro8.1) (State.isArrayOf_alike hZ.alike Aro8.2.1) Aro8.2.2 hino8 (Ho8.at hino8 rfl) (g := (mkF m 20 #[.val (.ref a1), .val (.ref a2), .val (.int (1 : Int32))] [(.int (1 : Int32)), (.ref a2), (.int (117 : Int32))])) rfl rfl (hb hby d10_20) _ ?_
    show Steps p.tables e below (s₁.setTop (mkF m 21 #[.val (.ref a1), .val (.ref a2), .val (.int (1 : Int32))] [(.int (117 : Int32)), (.int (117 : Int32))])) _
    refine XS.icmpYes X0.here hx rfl (pc0 := 21) (pc' := 26) rfl (hb hby d10_21) rfl (teq (by decide : (117 : Int32) = (117 : Int32))).1 (by decide) (by decide) ?_
    show Steps p.tables e below (s₁.setTop (mkF m 26 #[.val (.ref a1), .val (.ref a2), .val (.int (1 : Int32))] [])) _
    refine XS.iinc X0.here hx rfl (hb hby d10_26) rfl (l' := #[.val (.ref a1), .val (.ref a2), .val (.int (2 : Int32))]) rfl ?_
    show Steps p.tables e below (s₁.setTop (mkF m 29 #[.val (.ref a1), .val (.ref a2), .val (.int (2 : Int32))] [])) _
    refine XS.goto X0.here hx rfl (pc0 := 29) (pc' := 9) rfl (hb hby d10_29) (by decide) (by decide) ?_
    show Steps p.tables e below (s₁.setTop (mkF m 9 #[.val (.ref a1), .val (.ref a2), .val (.int (2 : Int32))] [])) _
    refine XS.iloadN X0.here hx rfl (hb hby d10_9) rfl ?_
    show Steps p.tables e below (s₁.setTop (mkF m 10 #[.val (.ref a1), .val (.ref a2), .val (.int (2 : Int32))] [(.int (2 : Int32))])) _
    refine XS.aloadN X0.here hx rfl (hb hby d10_10) rfl rfl ?_
    show Steps p.tables e below (s₁.setTop (mkF m 11 #[.val (.ref a1), .val (.ref a2), .val (.int (2 : Int32))] [(.ref a1), (.int (2 : Int32))])) _
    refine X0.arraylength hx (by rw [e0]; exact Aro9.1) (State.isArrayOf_alike hZ.alike Aro9.2.1) (g := (mkF m 11 #[.val (.ref a1), .val (.ref a2), .val (.int (2 : Int32))] [(.ref a1), (.int (2 : Int32))])) rfl rfl (hb hby d10_11) _ ?_
    rw [len_of So9 No9]
    show Steps p.tables e below (s₁.setTop (mkF m 12 #[.val (.ref a1), .val (.ref a2), .val (.int (2 : Int32))] [(.int (3 : Int32)), (.int (2 : Int32))])) _
    refine XS.icmpNo X0.here hx rfl (hb hby d10_12) rfl (tlt (by decide : (2 : Int32) < (3 : Int32))).2.1 ?_
    show Steps p.tables e below (s₁.setTop (mkF m 15 #[.val (.ref a1), .val (.ref a2), .val (.int (2 : Int32))] [])) _
    refine XS.aloadN X0.here hx rfl (hb hby d10_15) rfl rfl ?_
    show Steps p.tables e below (s₁.setTop (mkF m 16 #[.val (.ref a1), .val (.ref a2), .val (.int (2 : Int32))] [(.ref a1)])) _
    refine XS.iloadN X0.here hx rfl (hb hby d10_16) rfl ?_
    show Steps p.tables e below (s₁.setTop (mkF m 17 #[.val (.ref a1), .val (.ref a2), .val (.int (2 : Int32))] [(.int (2 : Int32)), (.ref a1)])) _
    refine X0.baloadBytes hx (j := (2 : Int32)) (v := (.int (121 : Int32))) (by rw [e0]; exact Aro10.1) (State.isArrayOf_alike hZ.alike Aro10.2.1) Aro10.2.2 hino10 (Ho10.at hino10 rfl) (g := (mkF m 17 #[.val (.ref a1), .val (.ref a2), .val (.int (2 : Int32))] [(.int (2 : Int32)), (.ref a1)])) rfl rfl (hb hby d10_17) _ ?_
    show Steps p.tables e below (s₁.setTop (mkF m 18 #[.val (.ref a1), .val (.ref a2), .val (.int (2 : Int32))] [(.int (121 : Int32))])) _
    refine XS.aloadN X0.here hx rfl (hb hby d10_18) rfl rfl ?_
    show Steps p.tables e below (s₁.setTop (mkF m 19 #[.val (.ref a1), .val (.ref a2), .val (.int (2 : Int32))] [(.ref a2), (.int (121 : Int32))])) _
    refine XS.iloadN X0.here hx rfl (hb hby d10_19) rfl ?_
    show Steps p.tables e below (s₁.setTop (mkF m 20 #[.val (.ref a1), .val (.ref a2), .val (.int (2 : Int32))] [(.int (2 : Int32)), (.ref a2), (.int (121 : Int32))])) _
    refine X0.baloadBytes hx (j := (2 : Int32)) (v := (.int (121 : Int32))) (by rw [e0]; exact Aro11.1) (State.isArrayOf_alike hZ.alike Aro11.2.1) Aro11.2.2 hino11 (Ho11.at hino11 rfl) (g := (mkF m 20 #[.val (.ref a1), .val (.ref a2), .val (.int (2 : Int32))] [(.int (2 : Int32)), (.ref a2), (.int (121 : Int32))])) rfl rfl (hb hby d10_20) _ ?_
    show Steps p.tables e below (s₁.setTop (mkF m 21 #[.val (.ref a1), .val (.ref a2), .val (.int (2 : Int32))] [(.int (121 : Int32)), (.int (121 : Int32))])) _
    refine XS.icmpYes X0.here hx rfl (pc0 := 21) (pc' := 26) rfl (hb hby d10_21) rfl (teq (by decide : (121 : Int32) = (121 : Int32))).1 (by decide) (by decide) ?_
    show Steps p.tables e below (s₁.setTop (mkF m 26 #[.val (.ref a1), .val (.ref a2), .val (.int (2 : Int32))] [])) _
    refine XS.iinc X0.here hx rfl (hb hby d10_26) rfl (l' := #[.val (.ref a1), .val (.ref a2), .val (.int (3 : Int32))]) rfl ?_
    show Steps p.tables e below (s₁.setTop (mkF m 29 #[.val (.ref a1), .val (.ref a2), .val (.int (3 : Int32))] [])) _
    refine XS.goto X0.here hx rfl (pc0 := 29) (pc' := 9) rfl (hb hby d10_29) (by decide) (by decide) ?_
    show Steps p.tables e below (s₁.setTop (mkF m 9 #[.val (.ref a1), .val (.ref a2), .val (.int (3 : Int32))] [])) _
    refine XS.iloadN X0.here hx rfl (hb hby d10_9) rfl ?_
    show Steps p.tables e below (s₁.setTop (mkF m 10 #[.val (.ref a1), .val (.ref a2), .val (.int (3 : Int32))] [(.int (3 : Int32))])) _
    refine XS.aloadN X0.here hx rfl (hb hby d10_10) rfl rfl ?_
    show Steps p.tables e below (s₁.setTop (mkF m 11 #[.val (.ref a1), .val (.ref a2), .val (.int (3 : Int32))] [(.ref a1), (.int (3 : Int32))])) _
    refine X0.arraylength hx (by rw [e0]; exact Aro12.1) (State.isArrayOf_alike hZ.alike Aro12.2.1) (g := (mkF m 11 #[.val (.ref a1), .val (.ref a2), .val (.int (3 : Int32))] [(.ref a1), (.int (3 : Int32))])) rfl rfl (hb hby d10_11) _ ?_
    rw [len_of So12 No12]
    show Steps p.tables e below (s₁.setTop (mkF m 12 #[.val (.ref a1), .val (.ref a2), .val (.int (3 : Int32))] [(.int (3 : Int32)), (.int (3 : Int32))])) _
    refine XS.icmpYes X0.here hx rfl (pc0 := 12) (pc' := 32) rfl (hb hby d10_12) rfl (flt (by decide : ¬ ((3 : Int32) < (3 : Int32)))).2.1 (by decide) (by decide) ?_
    show Steps p.tables e below (s₁.setTop (mkF m 32 #[.val (.ref a1), .val (.ref a2), .val (.int (3 : Int32))] [])) _
    refine XS.iconst X0.here hx rfl (hb hby d10_32) ?_
    show Steps p.tables e below (s₁.setTop (mkF m 33 #[.val (.ref a1), .val (.ref a2), .val (.int (3 : Int32))] [(.int (1 : Int32))])) _
    exact retN X0 hx (t := .boolean) Bd.returns (by simp) (hb hby d10_33) hr
  · show Q_latBB Z a1 a2 k_a1 k_a2 h0 n0 _ s₁.heap _
    rw [e0]
    exact ⟨rfl, N0, rfl⟩
theorem pd_4 : parseMethodDescriptor "([B[B)Z" = some ⟨[(.array .byte), (.array .byte)], some .boolean⟩ := by decide +kernel
theorem d9_0 : decode jdk_42_method_66_code 0 = .ok (.aload_n 0, 1) := by decide +kernel
theorem d9_1 : decode jdk_42_method_66_code 1 = .ok (.aload_n 1, 1) := by decide +kernel
theorem d9_2 : decode jdk_42_method_66_code 2 = .ok (.if_acmp .ne 5, 3) := by decide +kernel
theorem d9_7 : decode jdk_42_method_66_code 7 = .ok (.aload_n 1, 1) := by decide +kernel
theorem d9_8 : decode jdk_42_method_66_code 8 = .ok (.instanceof 10, 3) := by decide +kernel
theorem d9_11 : decode jdk_42_method_66_code 11 = .ok (.ifCond .eq 43, 3) := by decide +kernel
theorem d9_14 : decode jdk_42_method_66_code 14 = .ok (.aload_n 1, 1) := by decide +kernel
theorem d9_15 : decode jdk_42_method_66_code 15 = .ok (.checkcast 10, 3) := by decide +kernel
theorem d9_18 : decode jdk_42_method_66_code 18 = .ok (.astore_n 2, 1) := by decide +kernel
theorem d9_19 : decode jdk_42_method_66_code 19 = .ok (.getstatic 38, 3) := by decide +kernel
theorem d9_22 : decode jdk_42_method_66_code 22 = .ok (.ifCond .eq 14, 3) := by decide +kernel
theorem d9_25 : decode jdk_42_method_66_code 25 = .ok (.aload_n 0, 1) := by decide +kernel
theorem d9_26 : decode jdk_42_method_66_code 26 = .ok (.getfield 15, 3) := by decide +kernel
theorem d9_29 : decode jdk_42_method_66_code 29 = .ok (.aload_n 2, 1) := by decide +kernel
theorem d9_30 : decode jdk_42_method_66_code 30 = .ok (.getfield 15, 3) := by decide +kernel
theorem d9_33 : decode jdk_42_method_66_code 33 = .ok (.if_icmp .ne 21, 3) := by decide +kernel
theorem d9_36 : decode jdk_42_method_66_code 36 = .ok (.aload_n 0, 1) := by decide +kernel
theorem d9_37 : decode jdk_42_method_66_code 37 = .ok (.getfield 9, 3) := by decide +kernel
theorem d9_40 : decode jdk_42_method_66_code 40 = .ok (.aload_n 2, 1) := by decide +kernel
theorem d9_41 : decode jdk_42_method_66_code 41 = .ok (.getfield 9, 3) := by decide +kernel
theorem d9_44 : decode jdk_42_method_66_code 44 = .ok (.invokestatic 541, 3) := by decide +kernel
theorem d9_47 : decode jdk_42_method_66_code 47 = .ok (.ifCond .eq 7, 3) := by decide +kernel
theorem d9_50 : decode jdk_42_method_66_code 50 = .ok (.iconst 1, 1) := by decide +kernel
theorem d9_51 : decode jdk_42_method_66_code 51 = .ok (.goto 4, 3) := by decide +kernel
theorem d9_55 : decode jdk_42_method_66_code 55 = .ok (.ireturn, 1) := by decide +kernel
theorem ef_9_RR (m : MethodId) (x0 : Addr) (x1 : Addr) : entryFrame m #[(.ref x0), (.ref x1)] 3 = mkF m 0 #[.val (.ref x0), .val (.ref x1), .unset] [] := by first | (simp [entryFrame, mkF, argsToLocals, Value.category]; done) | rfl
def Q_eqBB (Z : State) (a1 : Addr) (a2 : Addr) (sc : Int32) (w_value_a1 : Addr) (w_value_a2 : Addr) (k_w_value_a1 : ClassId) (k_w_value_a2 : ClassId) (h0 : Heap) (n0 : Nat) (v : Option Value) (h : Heap) (L : List Loc) : Prop := v = some (.int (1 : Int32)) ∧ Fr n0 L ∧ h = h0
set_option maxRecDepth 65536 in
set_option maxHeartbeats 40000000 in
theorem rm_eqBB (l : Launch) (Z : State) (a0 : Array Value) (hw : ∀ d ∈ tables_1, d.before a0 Z = true) (ws : List Jvm.Cond) (a1 : Addr) (a2 : Addr) (sc : Int32) (w_value_a1 : Addr) (w_value_a2 : Addr) (k_w_value_a1 : ClassId) (k_w_value_a2 : ClassId) (h0 : Heap) (n0 : Nat) (Z0 : n0 ≤ h0.size) (S_COMPACT_STRINGS : Sta Z h0 "java/lang/String" "COMPACT_STRINGS" "Z" (.int sc)) (hsc : ¬ (sc = (0 : Int32))) (E_a1 : Exa Z h0 a1 "java/lang/String") (E_a2 : Exa Z h0 a2 "java/lang/String") (F_coder_a1 : Fld Z h0 a1 "java/lang/String" "coder" "B" (.int (0 : Int32))) (F_coder_a2 : Fld Z h0 a2 "java/lang/String" "coder" "B" (.int (0 : Int32))) (F_value_a1 : Fld Z h0 a1 "java/lang/String" "value" "[B" (.ref w_value_a1)) (F_value_a2 : Fld Z h0 a2 "java/lang/String" "value" "[B" (.ref w_value_a2)) (V_w_value_a1 : Arv Z h0 w_value_a1 k_w_value_a1 .byte (3 : Int32) [(.int (98 : Int32)), (.int (117 : Int32)), (.int (121 : Int32))] (.int (0 : Int32))) (V_w_value_a2 : Arv Z h0 w_value_a2 k_w_value_a2 .byte (3 : Int32) [(.int (98 : Int32)), (.int (117 : Int32)), (.int (121 : Int32))] (.int (0 : Int32))) (ne_a1_a2 : a1 ≠ a2) :
    MetFree l (⟨"java/lang/String", "equals", "(Ljava/lang/Object;)Z"⟩ : MethodName) (head1 (Jvm.Cond.code (⟨"java/lang/String", "equals", "(Ljava/lang/Object;)Z"⟩ : MethodName) jdk_42_method_66_code 3 (some .boolean) :: ws) ({ frames := 1, cells := 0, slots := 0, locals := 14 } : Room)) (fun a U => a = #[(.ref a1), (.ref a2)] ∧ Z.Warmed39 U.vm ∧ U.heap = h0) (fun _ _ _ _ _ => True) (fun _ U o U' => ∃ v L, o = .returned v ∧ Q_eqBB Z a1 a2 sc w_value_a1 w_value_a2 k_w_value_a1 k_w_value_a2 h0 n0 v U'.heap L ∧ FrameEnd U o U' L ({ frames := 1, cells := 0, slots := 0, locals := 14 } : Room).cells ({ frames := 1, cells := 0, slots := 0, locals := 14 } : Room).slots) := by
  refine MetFree.of_bodySF (plainFor_of_name pn_java_lang_String) hisR ?_
  intro p e s m args below meth c s₁ Bd hml0 hP hK
  obtain ⟨rfl, hZ, hh⟩ := hP
  have hx := Bd.exec
  have hby := Bd.bytes
  have hml : c.maxLocals = 3 := hml0
  have hown : s.vm.findClass "java/lang/String" = some m.cls := findClass_of_methodNamed Bd.named
  have hnm := (name_of_methodNamed Bd.named Bd.method).1
  have X0 : Stand p l e ({ frames := 1, cells := 0, slots := 0, locals := 14 } : Room) s m #[(.ref a1), (.ref a2)] below meth c s₁ [] 0 0 := Stand.of_body Bd
  have e0 : s₁.heap = h0 := by rw [← hh, Bd.state]; rfl
  have N0 := Fr.nil n0
  have pre0 : ∀ t, Steps p.tables e below (s₁.setTop (mkF m 0 #[.val (.ref a1), .val (.ref a2), .unset] [])) t → Steps p.tables e below (s₁.setTop (entryFrame m #[(.ref a1), (.ref a2)] 3)) t := fun t k => castTop (ef_9_RR m a1 a2) k
  obtain ⟨T1, X1, e1, st1⟩ := instY X0 hx hZ hown (hw _ (List.mem_of_getElem? (i := 58) rfl)) e0 (Ins.self E_a2) (g := (mkF m 8 #[.val (.ref a1), .val (.ref a2), .unset] [(.ref a2)])) rfl rfl (hb hby d9_8)
  obtain ⟨T2, X2, e2, st2⟩ := castY X1 hx hZ hown (hw _ (List.mem_of_getElem? (i := 58) rfl)) e1 (Ins.self E_a2) (g := (mkF m 15 #[.val (.ref a1), .val (.ref a2), .unset] [(.ref a2)])) rfl rfl (hb hby d9_15)
  obtain ⟨T3, X3, e3, st3⟩ := getS2 X2 hx hZ hown (host := "") (Or.inl (hw _ (List.mem_of_getElem? (i := 14) rfl))) Via.refl e2 S_COMPACT_STRINGS (g := (mkF m 19 #[.val (.ref a1), .val (.ref a2), .val (.ref a2)] [])) rfl (hb hby d9_19)
  obtain ⟨T4, X4, e4, st4⟩ := getF X3 hx hZ hown (host := "") (Or.inl (hw _ (List.mem_of_getElem? (i := 26) rfl))) Via.refl e3 F_coder_a1 (g := (mkF m 26 #[.val (.ref a1), .val (.ref a2), .val (.ref a2)] [(.ref a1)])) rfl rfl (hb hby d9_26)
  obtain ⟨T5, X5, e5, st5⟩ := getF X4 hx hZ hown (host := "") (Or.inl (hw _ (List.mem_of_getElem? (i := 26) rfl))) Via.refl e4 F_coder_a2 (g := (mkF m 30 #[.val (.ref a1), .val (.ref a2), .val (.ref a2)] [(.ref a2), (.int (0 : Int32))])) rfl rfl (hb hby d9_30)
  obtain ⟨T6, X6, e6, st6⟩ := getF X5 hx hZ hown (host := "") (Or.inl (hw _ (List.mem_of_getElem? (i := 28) rfl))) Via.refl e5 F_value_a1 (g := (mkF m 37 #[.val (.ref a1), .val (.ref a2), .val (.ref a2)] [(.ref a1)])) rfl rfl (hb hby d9_37)
  obtain ⟨T7, X7, e7, st7⟩ := getF X6 hx hZ hown (host := "") (Or.inl (hw _ (List.mem_of_getElem? (i := 28) rfl))) Via.refl e6 F_value_a2 (g := (mkF m 41 #[.val (.ref a1), .val (.ref a2), .val (.ref a2)] [(.ref a2), (.ref w_value_a1)])) rfl rfl (hb hby d9_41)
  obtain ⟨_, _, ⟨T8, L8, k8, n8⟩, -, X8, ⟨Lc8, hQ8, l8, y8, z8⟩, st8⟩ := Jvm.LawKit.callS X7 hx (y := (⟨"java/lang/StringLatin1", "equals", "([B[B)Z"⟩ : MethodName)) hown (mvT hZ (hw _ (List.mem_of_getElem? (i := 59) rfl))) (mvT hZ (hw _ (List.mem_of_getElem? (i := 60) rfl))) (mvT hZ (hw _ (List.mem_of_getElem? (i := 61) rfl))) (mvT hZ (hw _ (List.mem_of_getElem? (i := 62) rfl))) (by decide) (backOf (W := 0) (rm_latBB l Z a0 hw [] w_value_a1 w_value_a2 k_w_value_a1 k_w_value_a2 h0 n0 Z0 V_w_value_a1 V_w_value_a2) hZ (hw _ (List.mem_of_getElem? (i := 62) rfl)) (hw _ (List.mem_of_getElem? (i := 61) rfl)) (by decide) (by decide)) (g := (mkF m 44 #[.val (.ref a1), .val (.ref a2), .val (.ref a2)] [(.ref w_value_a2), (.ref w_value_a1)])) rfl (by rw [hml]; rfl) (argsL := [(.ref w_value_a1), (.ref w_value_a2)]) (rest := []) (lenOf pd_4 rfl) rfl (by show 2 * 0 + _ ≤ _; exact Nat.le_of_eq rfl) (hb hby d9_44) (fun _ _ => ⟨rfl, e7, (by decide : 0 + 0 ≤ _), (by decide : 0 + 0 ≤ _)⟩)
  dsimp only [Pt.U, Pt.locs, Pt.cells, Pt.slots] at X8 l8 y8 z8 st8 hQ8
  subst l8 y8 z8
  obtain ⟨rfl, Nq8, e8⟩ := hQ8
  have N9 := Fr.app N0 Nq8
  obtain ⟨fs, hr, hrun, hended, hW, hsame⟩ := X8.leave (v := some (.int (1 : Int32))) (fun h => by rw [Bd.returns] at h; cases h) Bd.notSynchronized
  refine ⟨_, _, pre0 _ ?_, hrun, hended, _, _, rfl, ?_, ⟨_, rfl⟩, hW, hsame.mono (by decide) (by decide)⟩
  · show Steps p.tables e below (s₁.setTop (mkF m 0 #[.val (.ref a1), .val (.ref a2), .unset] [])) _
    refine XS.aloadN X0.here hx rfl (hb hby d9_0) rfl rfl ?_
    show Steps p.tables e below (s₁.setTop (mkF m 1 #[.val (.ref a1), .val (.ref a2), .unset] [(.ref a1)])) _
    refine XS.aloadN X0.here hx rfl (hb hby d9_1) rfl rfl ?_
    show Steps p.tables e below (s₁.setTop (mkF m 2 #[.val (.ref a1), .val (.ref a2), .unset] [(.ref a2), (.ref a1)])) _
    refine Jvm.RoadKit.acmp (g := (mkF m 2 #[.val (.ref a1), .val (.ref a2), .unset] [(.ref a2), (.ref a1)])) X0 hx rfl rfl rfl (pc0 := 2) (pc' := 7) (same := false) rfl (hb hby d9_2) rfl (decide_eq_false fun q => ne_a1_a2 (Value.ref.inj q)) (by decide) (by decide) ?_
    show Steps p.tables e below (s₁.setTop (mkF m 7 #[.val (.ref a1), .val (.ref a2), .unset] [])) _
    refine XS.aloadN X0.here hx rfl (hb hby d9_7) rfl rfl ?_
    show Steps p.tables e below (s₁.setTop (mkF m 8 #[.val (.ref a1), .val (.ref a2), .unset] [(.ref a2)])) _
    refine st1 _ ?_
    show Steps p.tables e below (T1.setTop (mkF m 11 #[.val (.ref a1), .val (.ref a2), .unset] [(.int (1 : Int32))])) _
    refine XS.ifNo X1.here hx rfl (hb hby d9_11) rfl ((if0 _ _).trans (feq (by decide : ¬ ((1 : Int32) = (0 : Int32)))).1) ?_
    show Steps p.tables e below (T1.setTop (mkF m 14 #[.val (.ref a1), .val (.ref a2), .unset] [])) _
    refine XS.aloadN X1.here hx rfl (hb hby d9_14) rfl rfl ?_
    show Steps p.tables e below (T1.setTop (mkF m 15 #[.val (.ref a1), .val (.ref a2), .unset] [(.ref a2)])) _
    refine st2 _ ?_
    show Steps p.tables e below (T2.setTop (mkF m 18 #[.val (.ref a1), .val (.ref a2), .unset] [(.ref a2)])) _
    refine XS.astoreN X2.here hx rfl (hb hby d9_18) rfl rfl (l' := #[.val (.ref a1), .val (.ref a2), .val (.ref a2)]) rfl ?_
    show Steps p.tables e below (T2.setTop (mkF m 19 #[.val (.ref a1), .val (.ref a2), .val (.ref a2)] [])) _
    refine st3 _ ?_
    show Steps p.tables e below (T3.setTop (mkF m 22 #[.val (.ref a1), .val (.ref a2), .val (.ref a2)] [(.int sc)])) _
    refine XS.ifNo X3.here hx rfl (hb hby d9_22) rfl ((if0 _ _).trans (feq hsc).1) ?_
    show Steps p.tables e below (T3.setTop (mkF m 25 #[.val (.ref a1), .val (.ref a2), .val (.ref a2)] [])) _
    refine XS.aloadN X3.here hx rfl (hb hby d9_25) rfl rfl ?_
    show Steps p.tables e below (T3.setTop (mkF m 26 #[.val (.ref a1), .val (.ref a2), .val (.ref a2)] [(.ref a1)])) _
    refine st4 _ ?_
    show Steps p.tables e below (T4.setTop (mkF m 29 #[.val (.ref a1), .val (.ref a2), .val (.ref a2)] [(.int (0 : Int32))])) _
    refine XS.aloadN X4.here hx rfl (hb hby d9_29) rfl rfl ?_
    show Steps p.tables e below (T4.setTop (mkF m 30 #[.val (.ref a1), .val (.ref a2), .val (.ref a2)] [(.ref a2), (.int (0 : Int32))])) _
    refine st5 _ ?_
    show Steps p.tables e below (T5.setTop (mkF m 33 #[.val (.ref a1), .val (.ref a2), .val (.ref a2)] [(.int (0 : Int32)), (.int (0 : Int32))])) _
    refine XS.icmpNo X5.here hx rfl (hb hby d9_33) rfl (teq (by decide : (0 : Int32) = (0 : Int32))).2 ?_
    show Steps p.tables e below (T5.setTop (mkF m 36 #[.val (.ref a1), .val (.ref a2), .val (.ref a2)] [])) _
    refine XS.aloadN X5.here hx rfl (hb hby d9_36) rfl rfl ?_
    show Steps p.tables e below (T5.setTop (mkF m 37 #[.val (.ref a1), .val (.ref a2), .val (.ref a2)] [(.ref a1)])) _
    refine st6 _ ?_
    show Steps p.tables e below (T6.setTop (mkF m 40 #[.val (.ref a1), .val (.ref a2), .val (.ref a2)] [(.ref w_value_a1)])) _
    refine XS.aloadN X6.here hx rfl (hb hby d9_40) rfl rfl ?_
    show Steps p.tables e below (T6.setTop (mkF m 41 #[.val (.ref a1), .val (.ref a2), .val (.ref a2)] [(.ref a2), (.ref w_value_a1)])) _
    refine st7 _ ?_
    show Steps p.tables e below (T7.setTop (mkF m 44 #[.val (.ref a1), .val (.ref a2), .val (.ref a2)] [(.ref w_value_a2), (.ref w_value_a1)])) _
    refine st8 _ ?_
    show Steps p.tables e below (T8.setTop (mkF m 47 #[.val (.ref a1), .val (.ref a2), .val (.ref a2)] [(.int (1 : Int32))])) _
    refine XS.ifNo X8.here hx rfl (hb hby d9_47) rfl ((if0 _ _).trans (feq (by decide : ¬ ((1 : Int32) = (0 : Int32)))).1) ?_
    show Steps p.tables e below (T8.setTop (mkF m 50 #[.val (.ref a1), .val (.ref a2), .val (.ref a2)] [])) _
    refine XS.iconst X8.here hx rfl (hb hby d9_50) ?_
    show Steps p.tables e below (T8.setTop (mkF m 51 #[.val (.ref a1), .val (.ref a2), .val (.ref a2)] [(.int (1 : Int32))])) _
    refine XS.goto X8.here hx rfl (pc0 := 51) (pc' := 55) rfl (hb hby d9_51) (by decide) (by decide) ?_
    show Steps p.tables e below (T8.setTop (mkF m 55 #[.val (.ref a1), .val (.ref a2), .val (.ref a2)] [(.int (1 : Int32))])) _
    exact retN X8 hx (t := .boolean) Bd.returns (by simp) (hb hby d9_55) hr
  · show Q_eqBB Z a1 a2 sc w_value_a1 w_value_a2 k_w_value_a1 k_w_value_a2 h0 n0 _ T8.heap _
    rw [e8]
    exact ⟨rfl, N9, rfl⟩
theorem d10_34 : decode jdk_43_method_13_code 34 = .ok (.iconst 0, 1) := by decide +kernel
theorem d10_35 : decode jdk_43_method_13_code 35 = .ok (.ireturn, 1) := by decide +kernel
def Q_latBS (Z : State) (a1 : Addr) (a2 : Addr) (k_a1 : ClassId) (k_a2 : ClassId) (h0 : Heap) (n0 : Nat) (v : Option Value) (h : Heap) (L : List Loc) : Prop := v = some (.int (0 : Int32)) ∧ Fr n0 L ∧ h = h0
set_option maxRecDepth 65536 in
set_option maxHeartbeats 40000000 in
theorem rm_latBS (l : Launch) (Z : State) (a0 : Array Value) (hw : ∀ d ∈ tables_1, d.before a0 Z = true) (ws : List Jvm.Cond) (a1 : Addr) (a2 : Addr) (k_a1 : ClassId) (k_a2 : ClassId) (h0 : Heap) (n0 : Nat) (Z0 : n0 ≤ h0.size) (V_a1 : Arv Z h0 a1 k_a1 .byte (3 : Int32) [(.int (98 : Int32)), (.int (117 : Int32)), (.int (121 : Int32))] (.int (0 : Int32))) (V_a2 : Arv Z h0 a2 k_a2 .byte (4 : Int32) [(.int (115 : Int32)), (.int (101 : Int32)), (.int (108 : Int32)), (.int (108 : Int32))] (.int (0 : Int32))) :
    MetFree l (⟨"java/lang/StringLatin1", "equals", "([B[B)Z"⟩ : MethodName) (head1 (Jvm.Cond.code (⟨"java/lang/StringLatin1", "equals", "([B[B)Z"⟩ : MethodName) jdk_43_method_13_code 3 (some .boolean) :: ws) ({ frames := 0, cells := 0, slots := 0, locals := 0 } : Room)) (fun a U => a = #[(.ref a1), (.ref a2)] ∧ Z.Warmed39 U.vm ∧ U.heap = h0) (fun _ _ _ _ _ => True) (fun _ U o U' => ∃ v L, o = .returned v ∧ Q_latBS Z a1 a2 k_a1 k_a2 h0 n0 v U'.heap L ∧ FrameEnd U o U' L ({ frames := 0, cells := 0, slots := 0, locals := 0 } : Room).cells ({ frames := 0, cells := 0, slots := 0, locals := 0 } : Room).slots) := by
  refine MetFree.of_bodySF (plainFor_of_name pn_java_lang_StringLatin1) hisR ?_
  intro p e s m args below meth c s₁ Bd hml0 hP hK
  obtain ⟨rfl, hZ, hh⟩ := hP
  have hx := Bd.exec
  have hby := Bd.bytes
  have hml : c.maxLocals = 3 := hml0
  have hown : s.vm.findClass "java/lang/StringLatin1" = some m.cls := findClass_of_methodNamed Bd.named
  have hnm := (name_of_methodNamed Bd.named Bd.method).1
  have X0 : Stand p l e ({ frames := 0, cells := 0, slots := 0, locals := 0 } : Room) s m #[(.ref a1), (.ref a2)] below meth c s₁ [] 0 0 := Stand.of_body Bd
  have e0 : s₁.heap = h0 := by rw [← hh, Bd.state]; rfl
  have N0 := Fr.nil n0
  have pre0 : ∀ t, Steps p.tables e below (s₁.setTop (mkF m 0 #[.val (.ref a1), .val (.ref a2), .unset] [])) t → Steps p.tables e below (s₁.setTop (entryFrame m #[(.ref a1), (.ref a2)] 3)) t := fun t k => castTop (ef_10_RR m a1 a2) k
  obtain ⟨clo1, Aro1, -, So1, No1, -, -⟩ := id V_a1
  obtain ⟨clo2, Aro2, -, So2, No2, -, -⟩ := id V_a2
  obtain ⟨fs, hr, hrun, hended, hW, hsame⟩ := X0.leave (v := some (.int (0 : Int32))) (fun h => by rw [Bd.returns] at h; cases h) Bd.notSynchronized
  refine ⟨_, _, pre0 _ ?_, hrun, hended, _, _, rfl, ?_, ⟨_, rfl⟩, hW, hsame.mono (by decide) (by decide)⟩
  · show Steps p.tables e below (s₁.setTop (mkF m 0 #[.val (.ref a1), .val (.ref a2), .unset] [])) _
    refine XS.aloadN X0.here hx rfl (hb hby d10_0) rfl rfl ?_
    show Steps p.tables e below (s₁.setTop (mkF m 1 #[.val (.ref a1), .val (.ref a2), .unset] [(.ref a1)])) _
    refine X0.arraylength hx (by rw [e0]; exact Aro1.1) (State.isArrayOf_alike hZ.alike Aro1.2.1) (g := (mkF m 1 #[.val (.ref a1), .val (.ref a2), .unset] [(.ref a1)])) rfl rfl (hb hby d10_1) _ ?_
    rw [len_of So1 No1]
    show Steps p.tables e below (s₁.setTop (mkF m 2 #[.val (.ref a1), .val (.ref a2), .unset] [(.int (3 : Int32))])) _
    refine XS.aloadN X0.here hx rfl (hb hby d10_2) rfl rfl ?_
    show Steps p.tables e below (s₁.setTop (mkF m 3 #[.val (.ref a1), .val (.ref a2), .unset] [(.ref a2), (.int (3 : Int32))])) _
    refine X0.arraylength hx (by rw [e0]; exact Aro2.1) (State.isArrayOf_alike hZ.alike Aro2.2.1) (g := (mkF m 3 #[.val (.ref a1), .val (.ref a2), .unset] [(.ref a2), (.int (3 : Int32))])) rfl rfl (hb hby d10_3) _ ?_
    rw [len_of So2 No2]
    show Steps p.tables e below (s₁.setTop (mkF m 4 #[.val (.ref a1), .val (.ref a2), .unset] [(.int (4 : Int32)), (.int (3 : Int32))])) _
    refine XS.icmpYes X0.here hx rfl (pc0 := 4) (pc' := 34) rfl (hb hby d10_4) rfl (feq (by decide : ¬ ((3 : Int32) = (4 : Int32)))).2 (by decide) (by decide) ?_
    show Steps p.tables e below (s₁.setTop (mkF m 34 #[.val (.ref a1), .val (.ref a2), .unset] [])) _
    refine XS.iconst X0.here hx rfl (hb hby d10_34) ?_
    show Steps p.tables e below (s₁.setTop (mkF m 35 #[.val (.ref a1), .val (.ref a2), .unset] [(.int (0 : Int32))])) _
    exact retN X0 hx (t := .boolean) Bd.returns (by simp) (hb hby d10_35) hr
  · show Q_latBS Z a1 a2 k_a1 k_a2 h0 n0 _ s₁.heap _
    rw [e0]
    exact ⟨rfl, N0, rfl⟩
theorem d9_54 : decode jdk_42_method_66_code 54 = .ok (.iconst 0, 1) := by decide +kernel
def Q_eqBS (Z : State) (a1 : Addr) (a2 : Addr) (sc : Int32) (w_value_a1 : Addr) (w_value_a2 : Addr) (k_w_value_a1 : ClassId) (k_w_value_a2 : ClassId) (h0 : Heap) (n0 : Nat) (v : Option Value) (h : Heap) (L : List Loc) : Prop := v = some (.int (0 : Int32)) ∧ Fr n0 L ∧ h = h0
set_option maxRecDepth 65536 in
set_option maxHeartbeats 40000000 in
theorem rm_eqBS (l : Launch) (Z : State) (a0 : Array Value) (hw : ∀ d ∈ tables_1, d.before a0 Z = true) (ws : List Jvm.Cond) (a1 : Addr) (a2 : Addr) (sc : Int32) (w_value_a1 : Addr) (w_value_a2 : Addr) (k_w_value_a1 : ClassId) (k_w_value_a2 : ClassId) (h0 : Heap) (n0 : Nat) (Z0 : n0 ≤ h0.size) (S_COMPACT_STRINGS : Sta Z h0 "java/lang/String" "COMPACT_STRINGS" "Z" (.int sc)) (hsc : ¬ (sc = (0 : Int32))) (E_a1 : Exa Z h0 a1 "java/lang/String") (E_a2 : Exa Z h0 a2 "java/lang/String") (F_coder_a1 : Fld Z h0 a1 "java/lang/String" "coder" "B" (.int (0 : Int32))) (F_coder_a2 : Fld Z h0 a2 "java/lang/String" "coder" "B" (.int (0 : Int32))) (F_value_a1 : Fld Z h0 a1 "java/lang/String" "value" "[B" (.ref w_value_a1)) (F_value_a2 : Fld Z h0 a2 "java/lang/String" "value" "[B" (.ref w_value_a2)) (V_w_value_a1 : Arv Z h0 w_value_a1 k_w_value_a1 .byte (3 : Int32) [(.int (98 : Int32)), (.int (117 : Int32)), (.int (121 : Int32))] (.int (0 : Int32))) (V_w_value_a2 : Arv Z h0 w_value_a2 k_w_value_a2 .byte (4 : Int32) [(.int (115 : Int32)), (.int (101 : Int32)), (.int (108 : Int32)), (.int (108 : Int32))] (.int (0 : Int32))) (ne_a1_a2 : a1 ≠ a2) :
    MetFree l (⟨"java/lang/String", "equals", "(Ljava/lang/Object;)Z"⟩ : MethodName) (head1 (Jvm.Cond.code (⟨"java/lang/String", "equals", "(Ljava/lang/Object;)Z"⟩ : MethodName) jdk_42_method_66_code 3 (some .boolean) :: ws) ({ frames := 1, cells := 0, slots := 0, locals := 14 } : Room)) (fun a U => a = #[(.ref a1), (.ref a2)] ∧ Z.Warmed39 U.vm ∧ U.heap = h0) (fun _ _ _ _ _ => True) (fun _ U o U' => ∃ v L, o = .returned v ∧ Q_eqBS Z a1 a2 sc w_value_a1 w_value_a2 k_w_value_a1 k_w_value_a2 h0 n0 v U'.heap L ∧ FrameEnd U o U' L ({ frames := 1, cells := 0, slots := 0, locals := 14 } : Room).cells ({ frames := 1, cells := 0, slots := 0, locals := 14 } : Room).slots) := by
  refine MetFree.of_bodySF (plainFor_of_name pn_java_lang_String) hisR ?_
  intro p e s m args below meth c s₁ Bd hml0 hP hK
  obtain ⟨rfl, hZ, hh⟩ := hP
  have hx := Bd.exec
  have hby := Bd.bytes
  have hml : c.maxLocals = 3 := hml0
  have hown : s.vm.findClass "java/lang/String" = some m.cls := findClass_of_methodNamed Bd.named
  have hnm := (name_of_methodNamed Bd.named Bd.method).1
  have X0 : Stand p l e ({ frames := 1, cells := 0, slots := 0, locals := 14 } : Room) s m #[(.ref a1), (.ref a2)] below meth c s₁ [] 0 0 := Stand.of_body Bd
  have e0 : s₁.heap = h0 := by rw [← hh, Bd.state]; rfl
  have N0 := Fr.nil n0
  have pre0 : ∀ t, Steps p.tables e below (s₁.setTop (mkF m 0 #[.val (.ref a1), .val (.ref a2), .unset] [])) t → Steps p.tables e below (s₁.setTop (entryFrame m #[(.ref a1), (.ref a2)] 3)) t := fun t k => castTop (ef_9_RR m a1 a2) k
  obtain ⟨T1, X1, e1, st1⟩ := instY X0 hx hZ hown (hw _ (List.mem_of_getElem? (i := 58) rfl)) e0 (Ins.self E_a2) (g := (mkF m 8 #[.val (.ref a1), .val (.ref a2), .unset] [(.ref a2)])) rfl rfl (hb hby d9_8)
  obtain ⟨T2, X2, e2, st2⟩ := castY X1 hx hZ hown (hw _ (List.mem_of_getElem? (i := 58) rfl)) e1 (Ins.self E_a2) (g := (mkF m 15 #[.val (.ref a1), .val (.ref a2), .unset] [(.ref a2)])) rfl rfl (hb hby d9_15)
  obtain ⟨T3, X3, e3, st3⟩ := getS2 X2 hx hZ hown (host := "") (Or.inl (hw _ (List.mem_of_getElem? (i := 14) rfl))) Via.refl e2 S_COMPACT_STRINGS (g := (mkF m 19 #[.val (.ref a1), .val (.ref a2), .val (.ref a2)] [])) rfl (hb hby d9_19)
  obtain ⟨T4, X4, e4, st4⟩ := getF X3 hx hZ hown (host := "") (Or.inl (hw _ (List.mem_of_getElem? (i := 26) rfl))) Via.refl e3 F_coder_a1 (g := (mkF m 26 #[.val (.ref a1), .val (.ref a2), .val (.ref a2)] [(.ref a1)])) rfl rfl (hb hby d9_26)
  obtain ⟨T5, X5, e5, st5⟩ := getF X4 hx hZ hown (host := "") (Or.inl (hw _ (List.mem_of_getElem? (i := 26) rfl))) Via.refl e4 F_coder_a2 (g := (mkF m 30 #[.val (.ref a1), .val (.ref a2), .val (.ref a2)] [(.ref a2), (.int (0 : Int32))])) rfl rfl (hb hby d9_30)
  obtain ⟨T6, X6, e6, st6⟩ := getF X5 hx hZ hown (host := "") (Or.inl (hw _ (List.mem_of_getElem? (i := 28) rfl))) Via.refl e5 F_value_a1 (g := (mkF m 37 #[.val (.ref a1), .val (.ref a2), .val (.ref a2)] [(.ref a1)])) rfl rfl (hb hby d9_37)
  obtain ⟨T7, X7, e7, st7⟩ := getF X6 hx hZ hown (host := "") (Or.inl (hw _ (List.mem_of_getElem? (i := 28) rfl))) Via.refl e6 F_value_a2 (g := (mkF m 41 #[.val (.ref a1), .val (.ref a2), .val (.ref a2)] [(.ref a2), (.ref w_value_a1)])) rfl rfl (hb hby d9_41)
  obtain ⟨_, _, ⟨T8, L8, k8, n8⟩, -, X8, ⟨Lc8, hQ8, l8, y8, z8⟩, st8⟩ := Jvm.LawKit.callS X7 hx (y := (⟨"java/lang/StringLatin1", "equals", "([B[B)Z"⟩ : MethodName)) hown (mvT hZ (hw _ (List.mem_of_getElem? (i := 59) rfl))) (mvT hZ (hw _ (List.mem_of_getElem? (i := 60) rfl))) (mvT hZ (hw _ (List.mem_of_getElem? (i := 61) rfl))) (mvT hZ (hw _ (List.mem_of_getElem? (i := 62) rfl))) (by decide) (backOf (W := 0) (rm_latBS l Z a0 hw [] w_value_a1 w_value_a2 k_w_value_a1 k_w_value_a2 h0 n0 Z0 V_w_value_a1 V_w_value_a2) hZ (hw _ (List.mem_of_getElem? (i := 62) rfl)) (hw _ (List.mem_of_getElem? (i := 61) rfl)) (by decide) (by decide)) (g := (mkF m 44 #[.val (.ref a1), .val (.ref a2), .val (.ref a2)] [(.ref w_value_a2), (.ref w_value_a1)])) rfl (by rw [hml]; rfl) (argsL := [(.ref w_value_a1), (.ref w_value_a2)]) (rest := []) (lenOf pd_4 rfl) rfl (by show 2 * 0 + _ ≤ _; exact Nat.le_of_eq rfl) (hb hby d9_44) (fun _ _ => ⟨rfl, e7, (by decide : 0 + 0 ≤ _), (by decide : 0 + 0 ≤ _)⟩)
  dsimp only [Pt.U, Pt.locs, Pt.cells, Pt.slots] at X8 l8 y8 z8 st8 hQ8
  subst l8 y8 z8
  obtain ⟨rfl, Nq8, e8⟩ := hQ8
  have N9 := Fr.app N0 Nq8
  obtain ⟨fs, hr, hrun, hended, hW, hsame⟩ := X8.leave (v := some (.int (0 : Int32))) (fun h => by rw [Bd.returns] at h; cases h) Bd.notSynchronized
  refine ⟨_, _, pre0 _ ?_, hrun, hended, _, _, rfl, ?_, ⟨_, rfl⟩, hW, hsame.mono (by decide) (by decide)⟩
  · show Steps p.tables e below (s₁.setTop (mkF m 0 #[.val (.ref a1), .val (.ref a2), .unset] [])) _
    refine XS.aloadN X0.here hx rfl (hb hby d9_0) rfl rfl ?_
    show Steps p.tables e below (s₁.setTop (mkF m 1 #[.val (.ref a1), .val (.ref a2), .unset] [(.ref a1)])) _
    refine XS.aloadN X0.here hx rfl (hb hby d9_1) rfl rfl ?_
    show Steps p.tables e below (s₁.setTop (mkF m 2 #[.val (.ref a1), .val (.ref a2), .unset] [(.ref a2), (.ref a1)])) _
    refine Jvm.RoadKit.acmp (g := (mkF m 2 #[.val (.ref a1), .val (.ref a2), .unset] [(.ref a2), (.ref a1)])) X0 hx rfl rfl rfl (pc0 := 2) (pc' := 7) (same := false) rfl (hb hby d9_2) rfl (decide_eq_false fun q => ne_a1_a2 (Value.ref.inj q)) (by decide) (by decide) ?_
    show Steps p.tables e below (s₁.setTop (mkF m 7 #[.val (.ref a1), .val (.ref a2), .unset] [])) _
    refine XS.aloadN X0.here hx rfl (hb hby d9_7) rfl rfl ?_
    show Steps p.tables e below (s₁.setTop (mkF m 8 #[.val (.ref a1), .val (.ref a2), .unset] [(.ref a2)])) _
    refine st1 _ ?_
    show Steps p.tables e below (T1.setTop (mkF m 11 #[.val (.ref a1), .val (.ref a2), .unset] [(.int (1 : Int32))])) _
    refine XS.ifNo X1.here hx rfl (hb hby d9_11) rfl ((if0 _ _).trans (feq (by decide : ¬ ((1 : Int32) = (0 : Int32)))).1) ?_
    show Steps p.tables e below (T1.setTop (mkF m 14 #[.val (.ref a1), .val (.ref a2), .unset] [])) _
    refine XS.aloadN X1.here hx rfl (hb hby d9_14) rfl rfl ?_
    show Steps p.tables e below (T1.setTop (mkF m 15 #[.val (.ref a1), .val (.ref a2), .unset] [(.ref a2)])) _
    refine st2 _ ?_
    show Steps p.tables e below (T2.setTop (mkF m 18 #[.val (.ref a1), .val (.ref a2), .unset] [(.ref a2)])) _
    refine XS.astoreN X2.here hx rfl (hb hby d9_18) rfl rfl (l' := #[.val (.ref a1), .val (.ref a2), .val (.ref a2)]) rfl ?_
    show Steps p.tables e below (T2.setTop (mkF m 19 #[.val (.ref a1), .val (.ref a2), .val (.ref a2)] [])) _
    refine st3 _ ?_
    show Steps p.tables e below (T3.setTop (mkF m 22 #[.val (.ref a1), .val (.ref a2), .val (.ref a2)] [(.int sc)])) _
    refine XS.ifNo X3.here hx rfl (hb hby d9_22) rfl ((if0 _ _).trans (feq hsc).1) ?_
    show Steps p.tables e below (T3.setTop (mkF m 25 #[.val (.ref a1), .val (.ref a2), .val (.ref a2)] [])) _
    refine XS.aloadN X3.here hx rfl (hb hby d9_25) rfl rfl ?_
    show Steps p.tables e below (T3.setTop (mkF m 26 #[.val (.ref a1), .val (.ref a2), .val (.ref a2)] [(.ref a1)])) _
    refine st4 _ ?_
    show Steps p.tables e below (T4.setTop (mkF m 29 #[.val (.ref a1), .val (.ref a2), .val (.ref a2)] [(.int (0 : Int32))])) _
    refine XS.aloadN X4.here hx rfl (hb hby d9_29) rfl rfl ?_
    show Steps p.tables e below (T4.setTop (mkF m 30 #[.val (.ref a1), .val (.ref a2), .val (.ref a2)] [(.ref a2), (.int (0 : Int32))])) _
    refine st5 _ ?_
    show Steps p.tables e below (T5.setTop (mkF m 33 #[.val (.ref a1), .val (.ref a2), .val (.ref a2)] [(.int (0 : Int32)), (.int (0 : Int32))])) _
    refine XS.icmpNo X5.here hx rfl (hb hby d9_33) rfl (teq (by decide : (0 : Int32) = (0 : Int32))).2 ?_
    show Steps p.tables e below (T5.setTop (mkF m 36 #[.val (.ref a1), .val (.ref a2), .val (.ref a2)] [])) _
    refine XS.aloadN X5.here hx rfl (hb hby d9_36) rfl rfl ?_
    show Steps p.tables e below (T5.setTop (mkF m 37 #[.val (.ref a1), .val (.ref a2), .val (.ref a2)] [(.ref a1)])) _
    refine st6 _ ?_
    show Steps p.tables e below (T6.setTop (mkF m 40 #[.val (.ref a1), .val (.ref a2), .val (.ref a2)] [(.ref w_value_a1)])) _
    refine XS.aloadN X6.here hx rfl (hb hby d9_40) rfl rfl ?_
    show Steps p.tables e below (T6.setTop (mkF m 41 #[.val (.ref a1), .val (.ref a2), .val (.ref a2)] [(.ref a2), (.ref w_value_a1)])) _
    refine st7 _ ?_
    show Steps p.tables e below (T7.setTop (mkF m 44 #[.val (.ref a1), .val (.ref a2), .val (.ref a2)] [(.ref w_value_a2), (.ref w_value_a1)])) _
    refine st8 _ ?_
    show Steps p.tables e below (T8.setTop (mkF m 47 #[.val (.ref a1), .val (.ref a2), .val (.ref a2)] [(.int (0 : Int32))])) _
    refine XS.ifYes X8.here hx rfl (pc0 := 47) (pc' := 54) rfl (hb hby d9_47) rfl ((if0 _ _).trans (teq (by decide : (0 : Int32) = (0 : Int32))).1) (by decide) (by decide) ?_
    show Steps p.tables e below (T8.setTop (mkF m 54 #[.val (.ref a1), .val (.ref a2), .val (.ref a2)] [])) _
    refine XS.iconst X8.here hx rfl (hb hby d9_54) ?_
    show Steps p.tables e below (T8.setTop (mkF m 55 #[.val (.ref a1), .val (.ref a2), .val (.ref a2)] [(.int (0 : Int32))])) _
    exact retN X8 hx (t := .boolean) Bd.returns (by simp) (hb hby d9_55) hr
  · show Q_eqBS Z a1 a2 sc w_value_a1 w_value_a2 k_w_value_a1 k_w_value_a2 h0 n0 _ T8.heap _
    rw [e8]
    exact ⟨rfl, N9, rfl⟩
def Q_latSS (Z : State) (a1 : Addr) (a2 : Addr) (k_a1 : ClassId) (k_a2 : ClassId) (h0 : Heap) (n0 : Nat) (v : Option Value) (h : Heap) (L : List Loc) : Prop := v = some (.int (1 : Int32)) ∧ Fr n0 L ∧ h = h0
set_option maxRecDepth 65536 in
set_option maxHeartbeats 40000000 in
theorem rm_latSS (l : Launch) (Z : State) (a0 : Array Value) (hw : ∀ d ∈ tables_1, d.before a0 Z = true) (ws : List Jvm.Cond) (a1 : Addr) (a2 : Addr) (k_a1 : ClassId) (k_a2 : ClassId) (h0 : Heap) (n0 : Nat) (Z0 : n0 ≤ h0.size) (V_a1 : Arv Z h0 a1 k_a1 .byte (4 : Int32) [(.int (115 : Int32)), (.int (101 : Int32)), (.int (108 : Int32)), (.int (108 : Int32))] (.int (0 : Int32))) (V_a2 : Arv Z h0 a2 k_a2 .byte (4 : Int32) [(.int (115 : Int32)), (.int (101 : Int32)), (.int (108 : Int32)), (.int (108 : Int32))] (.int (0 : Int32))) :
    MetFree l (⟨"java/lang/StringLatin1", "equals", "([B[B)Z"⟩ : MethodName) (head1 (Jvm.Cond.code (⟨"java/lang/StringLatin1", "equals", "([B[B)Z"⟩ : MethodName) jdk_43_method_13_code 3 (some .boolean) :: ws) ({ frames := 0, cells := 0, slots := 0, locals := 0 } : Room)) (fun a U => a = #[(.ref a1), (.ref a2)] ∧ Z.Warmed39 U.vm ∧ U.heap = h0) (fun _ _ _ _ _ => True) (fun _ U o U' => ∃ v L, o = .returned v ∧ Q_latSS Z a1 a2 k_a1 k_a2 h0 n0 v U'.heap L ∧ FrameEnd U o U' L ({ frames := 0, cells := 0, slots := 0, locals := 0 } : Room).cells ({ frames := 0, cells := 0, slots := 0, locals := 0 } : Room).slots) := by
  refine MetFree.of_bodySF (plainFor_of_name pn_java_lang_StringLatin1) hisR ?_
  intro p e s m args below meth c s₁ Bd hml0 hP hK
  obtain ⟨rfl, hZ, hh⟩ := hP
  have hx := Bd.exec
  have hby := Bd.bytes
  have hml : c.maxLocals = 3 := hml0
  have hown : s.vm.findClass "java/lang/StringLatin1" = some m.cls := findClass_of_methodNamed Bd.named
  have hnm := (name_of_methodNamed Bd.named Bd.method).1
  have X0 : Stand p l e ({ frames := 0, cells := 0, slots := 0, locals := 0 } : Room) s m #[(.ref a1), (.ref a2)] below meth c s₁ [] 0 0 := Stand.of_body Bd
  have e0 : s₁.heap = h0 := by rw [← hh, Bd.state]; rfl
  have N0 := Fr.nil n0
  have pre0 : ∀ t, Steps p.tables e below (s₁.setTop (mkF m 0 #[.val (.ref a1), .val (.ref a2), .unset] [])) t → Steps p.tables e below (s₁.setTop (entryFrame m #[(.ref a1), (.ref a2)] 3)) t := fun t k => castTop (ef_10_RR m a1 a2) k
  obtain ⟨clo1, Aro1, -, So1, No1, -, -⟩ := id V_a1
  obtain ⟨clo2, Aro2, -, So2, No2, -, -⟩ := id V_a2
  obtain ⟨clo3, Aro3, -, So3, No3, -, -⟩ := id V_a1
  obtain ⟨clo4, Aro4, qo4, So4, No4, Ho4, Go4⟩ := id V_a1
  have hino4 : ¬ ((0 : Int32) < 0 ∨ clo4.slots.size ≤ ((0 : Int32)).toNatClampNeg) := inb_of So4 ⟨by decide, by decide⟩
  obtain ⟨clo5, Aro5, qo5, So5, No5, Ho5, Go5⟩ := id V_a2
  have hino5 : ¬ ((0 : Int32) < 0 ∨ clo5.slots.size ≤ ((0 : Int32)).toNatClampNeg) := inb_of So5 ⟨by decide, by decide⟩
  obtain ⟨clo6, Aro6, -, So6, No6, -, -⟩ := id V_a1
  obtain ⟨clo7, Aro7, qo7, So7, No7, Ho7, Go7⟩ := id V_a1
  have hino7 : ¬ ((1 : Int32) < 0 ∨ clo7.slots.size ≤ ((1 : Int32)).toNatClampNeg) := inb_of So7 ⟨by decide, by decide⟩
  obtain ⟨clo8, Aro8, qo8, So8, No8, Ho8, Go8⟩ := id V_a2
  have hino8 : ¬ ((1 : Int32) < 0 ∨ clo8.slots.size ≤ ((1 : Int32)).toNatClampNeg) := inb_of So8 ⟨by decide, by decide⟩
  obtain ⟨clo9, Aro9, -, So9, No9, -, -⟩ := id V_a1
  obtain ⟨clo10, Aro10, qo10, So10, No10, Ho10, Go10⟩ := id V_a1
  have hino10 : ¬ ((2 : Int32) < 0 ∨ clo10.slots.size ≤ ((2 : Int32)).toNatClampNeg) := inb_of So10 ⟨by decide, by decide⟩
  obtain ⟨clo11, Aro11, qo11, So11, No11, Ho11, Go11⟩ := id V_a2
  have hino11 : ¬ ((2 : Int32) < 0 ∨ clo11.slots.size ≤ ((2 : Int32)).toNatClampNeg) := inb_of So11 ⟨by decide, by decide⟩
  obtain ⟨clo12, Aro12, -, So12, No12, -, -⟩ := id V_a1
  obtain ⟨clo13, Aro13, qo13, So13, No13, Ho13, Go13⟩ := id V_a1
  have hino13 : ¬ ((3 : Int32) < 0 ∨ clo13.slots.size ≤ ((3 : Int32)).toNatClampNeg) := inb_of So13 ⟨by decide, by decide⟩
  obtain ⟨clo14, Aro14, qo14, So14, No14, Ho14, Go14⟩ := id V_a2
  have hino14 : ¬ ((3 : Int32) < 0 ∨ clo14.slots.size ≤ ((3 : Int32)).toNatClampNeg) := inb_of So14 ⟨by decide, by decide⟩
  obtain ⟨clo15, Aro15, -, So15, No15, -, -⟩ := id V_a1
  obtain ⟨fs, hr, hrun, hended, hW, hsame⟩ := X0.leave (v := some (.int (1 : Int32))) (fun h => by rw [Bd.returns] at h; cases h) Bd.notSynchronized
  refine ⟨_, _, pre0 _ ?_, hrun, hended, _, _, rfl, ?_, ⟨_, rfl⟩, hW, hsame.mono (by decide) (by decide)⟩
  · show Steps p.tables e below (s₁.setTop (mkF m 0 #[.val (.ref a1), .val (.ref a2), .unset] [])) _
    refine XS.aloadN X0.here hx rfl (hb hby d10_0) rfl rfl ?_
    show Steps p.tables e below (s₁.setTop (mkF m 1 #[.val (.ref a1), .val (.ref a2), .unset] [(.ref a1)])) _
    refine X0.arraylength hx (by rw [e0]; exact Aro1.1) (State.isArrayOf_alike hZ.alike Aro1.2.1) (g := (mkF m 1 #[.val (.ref a1), .val (.ref a2), .unset] [(.ref a1)])) rfl rfl (hb hby d10_1) _ ?_
    rw [len_of So1 No1]
    show Steps p.tables e below (s₁.setTop (mkF m 2 #[.val (.ref a1), .val (.ref a2), .unset] [(.int (4 : Int32))])) _
    refine XS.aloadN X0.here hx rfl (hb hby d10_2) rfl rfl ?_
    show Steps p.tables e below (s₁.setTop (mkF m 3 #[.val (.ref a1), .val (.ref a2), .unset] [(.ref a2), (.int (4 : Int32))])) _
    refine X0.arraylength hx (by rw [e0]; exact Aro2.1) (State.isArrayOf_alike hZ.alike Aro2.2.1) (g := (mkF m 3 #[.val (.ref a1), .val (.ref a2), .unset] [(.ref a2), (.int (4 : Int32))])) rfl rfl (hb hby d10_3) _ ?_
    rw [len_of So2 No2]
    show Steps p.tables e below (s₁.setTop (mkF m 4 #[.val (.ref a1), .val (.ref a2), .unset] [(.int (4 : Int32)), (.int (4 : Int32))])) _
    refine XS.icmpNo X0.here hx rfl (hb hby d10_4) rfl (teq (by decide : (4 : Int32) = (4 : Int32))).2 ?_
    show Steps p.tables e below (s₁.setTop (mkF m 7 #[.val (.ref a1), .val (.ref a2), .unset] [])) _
    refine XS.iconst X0.here hx rfl (hb hby d10_7) ?_
    show Steps p.tables e below (s₁.setTop (mkF m 8 #[.val (.ref a1), .val (.ref a2), .unset] [(.int (0 : Int32))])) _
    refine XS.istoreN X0.here hx rfl (hb hby d10_8) rfl (l' := #[.val (.ref a1), .val (.ref a2), .val (.int (0 : Int32))]) rfl ?_
    show Steps p.tables e below (s₁.setTop (mkF m 9 #[.val (.ref a1), .val (.ref a2), .val (.int (0 : Int32))] [])) _
    refine XS.iloadN X0.here hx rfl (hb hby d10_9) rfl ?_
    show Steps p.tables e below (s₁.setTop (mkF m 10 #[.val (.ref a1), .val (.ref a2), .val (.int (0 : Int32))] [(.int (0 : Int32))])) _
    refine XS.aloadN X0.here hx rfl (hb hby d10_10) rfl rfl ?_
    show Steps p.tables e below (s₁.setTop (mkF m 11 #[.val (.ref a1), .val (.ref a2), .val (.int (0 : Int32))] [(.ref a1), (.int (0 : Int32))])) _
    refine X0.arraylength hx (by rw [e0]; exact Aro3.1) (State.isArrayOf_alike hZ.alike Aro3.2.1) (g := (mkF m 11 #[.val (.ref a1), .val (.ref a2), .val (.int (0 : Int32))] [(.ref a1), (.int (0 : Int32))])) rfl rfl (hb hby d10_11) _ ?_
    rw [len_of So3 No3]
    show Steps p.tables e below (s₁.setTop (mkF m 12 #[.val (.ref a1), .val (.ref a2), .val (.int (0 : Int32))] [(.int (4 : Int32)), (.int (0 : Int32))])) _
    refine XS.icmpNo X0.here hx rfl (hb hby d10_12) rfl (tlt (by decide : (0 : Int32) < (4 : Int32))).2.1 ?_
    show Steps p.tables e below (s₁.setTop (mkF m 15 #[.val (.ref a1), .val (.ref a2), .val (.int (0 : Int32))] [])) _
    refine XS.aloadN X0.here hx rfl (hb hby d10_15) rfl rfl ?_
    show Steps p.tables e below (s₁.setTop (mkF m 16 #[.val (.ref a1), .val (.ref a2), .val (.int (0 : Int32))] [(.ref a1)])) _
    refine XS.iloadN X0.here hx rfl (hb hby d10_16) rfl ?_
    show Steps p.tables e below (s₁.setTop (mkF m 17 #[.val (.ref a1), .val (.ref a2), .val (.int (0 : Int32))] [(.int (0 : Int32)), (.ref a1)])) _
    refine X0.baloadBytes hx (j := (0 : Int32)) (v := (.int (115 : Int32))) (by rw [e0]; exact Aro4.1) (State.isArrayOf_alike hZ.alike Aro4.2.1) Aro4.2.2 hino4 (Ho4.at hino4 rfl) (g := (mkF m 17 #[.val (.ref a1), .val (.ref a2), .val (.int (0 : Int32))] [(.int (0 : Int32)), (.ref a1)])) rfl rfl (hb hby d10_17) _ ?_
    show Steps p.tables e below (s₁.setTop (mkF m 18 #[.val (.ref a1), .val (.ref a2), .val (.int (0 : Int32))] [(.int (115 : Int32))])) _
    refine XS.aloadN X0.here hx rfl (hb hby d10_18) rfl rfl ?_
    show Steps p.tables e below (s₁.setTop (mkF m 19 #[.val (.ref a1), .val (.ref a2), .val (.int (0 : Int32))] [(.ref a2), (.int (115 : Int32))])) _
    refine XS.iloadN X0.here hx rfl (hb hby d10_19) rfl ?_
    show Steps p.tables e below (s₁.setTop (mkF m 20 #[.val (.ref a1), .val (.ref a2), .val (.int (0 : Int32))] [(.int (0 : Int32)), (.ref a2), (.int (115 : Int32))])) _
    refine X0.baloadBytes hx (j := (0 : Int32)) (v := (.int (115 : Int32))) (by rw [e0]; exact Aro5.1) (State.isArrayOf_alike hZ.alike Aro5.2.1) Aro5.2.2 hino5 (Ho5.at hino5 rfl) (g := (mkF m 20 #[.val (.ref a1), .val (.ref a2), .val (.int (0 : Int32))] [(.int (0 : Int32)), (.ref a2), (.int (115 : Int32))])) rfl rfl (hb hby d10_20) _ ?_
    show Steps p.tables e below (s₁.setTop (mkF m 21 #[.val (.ref a1), .val (.ref a2), .val (.int (0 : Int32))] [(.int (115 : Int32)), (.int (115 : Int32))])) _
    refine XS.icmpYes X0.here hx rfl (pc0 := 21) (pc' := 26) rfl (hb hby d10_21) rfl (teq (by decide : (115 : Int32) = (115 : Int32))).1 (by decide) (by decide) ?_
    show Steps p.tables e below (s₁.setTop (mkF m 26 #[.val (.ref a1), .val (.ref a2), .val (.int (0 : Int32))] [])) _
    refine XS.iinc X0.here hx rfl (hb hby d10_26) rfl (l' := #[.val (.ref a1), .val (.ref a2), .val (.int (1 : Int32))]) rfl ?_
    show Steps p.tables e below (s₁.setTop (mkF m 29 #[.val (.ref a1), .val (.ref a2), .val (.int (1 : Int32))] [])) _
    refine XS.goto X0.here hx rfl (pc0 := 29) (pc' := 9) rfl (hb hby d10_29) (by decide) (by decide) ?_
    show Steps p.tables e below (s₁.setTop (mkF m 9 #[.val (.ref a1), .val (.ref a2), .val (.int (1 : Int32))] [])) _
    refine XS.iloadN X0.here hx rfl (hb hby d10_9) rfl ?_
    show Steps p.tables e below (s₁.setTop (mkF m 10 #[.val (.ref a1), .val (.ref a2), .val (.int (1 : Int32))] [(.int (1 : Int32))])) _
    refine XS.aloadN X0.here hx rfl (hb hby d10_10) rfl rfl ?_
    show Steps p.tables e below (s₁.setTop (mkF m 11 #[.val (.ref a1), .val (.ref a2), .val (.int (1 : Int32))] [(.ref a1), (.int (1 : Int32))])) _
    refine X0.arraylength hx (by rw [e0]; exact Aro6.1) (State.isArrayOf_alike hZ.alike Aro6.2.1) (g := (mkF m 11 #[.val (.ref a1), .val (.ref a2), .val (.int (1 : Int32))] [(.ref a1), (.int (1 : Int32))])) rfl rfl (hb hby d10_11) _ ?_
    rw [len_of So6 No6]
    show Steps p.tables e below (s₁.setTop (mkF m 12 #[.val (.ref a1), .val (.ref a2), .val (.int (1 : Int32))] [(.int (4 : Int32)), (.int (1 : Int32))])) _
    refine XS.icmpNo X0.here hx rfl (hb hby d10_12) rfl (tlt (by decide : (1 : Int32) < (4 : Int32))).2.1 ?_
    show Steps p.tables e below (s₁.setTop (mkF m 15 #[.val (.ref a1), .val (.ref a2), .val (.int (1 : Int32))] [])) _
    refine XS.aloadN X0.here hx rfl (hb hby d10_15) rfl rfl ?_
    show Steps p.tables e below (s₁.setTop (mkF m 16 #[.val (.ref a1), .val (.ref a2), .val (.int (1 : Int32))] [(.ref a1)])) _
    refine XS.iloadN X0.here hx rfl (hb hby d10_16) rfl ?_
    show Steps p.tables e below (s₁.setTop (mkF m 17 #[.val (.ref a1), .val (.ref a2), .val (.int (1 : Int32))] [(.int (1 : Int32)), (.ref a1)])) _
    refine X0.baloadBytes hx (j := (1 : Int32)) (v := (.int (101 : Int32))) (by rw [e0]; exact Aro7.1) (State.isArrayOf_alike hZ.alike Aro7.2.1) Aro7.2.2 hino7 (Ho7.at hino7 rfl) (g := (mkF m 17 #[.val (.ref a1), .val (.ref a2), .val (.int (1 : Int32))] [(.int (1 : Int32)), (.ref a1)])) rfl rfl (hb hby d10_17) _ ?_
    show Steps p.tables e below (s₁.setTop (mkF m 18 #[.val (.ref a1), .val (.ref a2), .val (.int (1 : Int32))] [(.int (101 : Int32))])) _
    refine XS.aloadN X0.here hx rfl (hb hby d10_18) rfl rfl ?_
    show Steps p.tables e below (s₁.setTop (mkF m 19 #[.val (.ref a1), .val (.ref a2), .val (.int (1 : Int32))] [(.ref a2), (.int (101 : Int32))])) _
    refine XS.iloadN X0.here hx rfl (hb hby d10_19) rfl ?_
    show Steps p.tables e below (s₁.setTop (mkF m 20 #[.val (.ref a1), .val (.ref a2), .val (.int (1 : Int32))] [(.int (1 : Int32)), (.ref a2), (.int (101 : Int32))])) _
    refine X0.baloadBytes hx (j := (1 : Int32)) (v := (.int (101 : Int32))) (by rw [e0]; exact Aro8.1) (State.isArrayOf_alike hZ.alike Aro8.2.1) Aro8.2.2 hino8 (Ho8.at hino8 rfl) (g := (mkF m 20 #[.val (.ref a1), .val (.ref a2), .val (.int (1 : Int32))] [(.int (1 : Int32)), (.ref a2), (.int (101 : Int32))])) rfl rfl (hb hby d10_20) _ ?_
    show Steps p.tables e below (s₁.setTop (mkF m 21 #[.val (.ref a1), .val (.ref a2), .val (.int (1 : Int32))] [(.int (101 : Int32)), (.int (101 : Int32))])) _
    refine XS.icmpYes X0.here hx rfl (pc0 := 21) (pc' := 26) rfl (hb hby d10_21) rfl (teq (by decide : (101 : Int32) = (101 : Int32))).1 (by decide) (by decide) ?_
    show Steps p.tables e below (s₁.setTop (mkF m 26 #[.val (.ref a1), .val (.ref a2), .val (.int (1 : Int32))] [])) _
    refine XS.iinc X0.here hx rfl (hb hby d10_26) rfl (l' := #[.val (.ref a1), .val (.ref a2), .val (.int (2 : Int32))]) rfl ?_
    show Steps p.tables e below (s₁.setTop (mkF m 29 #[.val (.ref a1), .val (.ref a2), .val (.int (2 : Int32))] [])) _
    refine XS.goto X0.here hx rfl (pc0 := 29) (pc' := 9) rfl (hb hby d10_29) (by decide) (by decide) ?_
    show Steps p.tables e below (s₁.setTop (mkF m 9 #[.val (.ref a1), .val (.ref a2), .val (.int (2 : Int32))] [])) _
    refine XS.iloadN X0.here hx rfl (hb hby d10_9) rfl ?_
    show Steps p.tables e below (s₁.setTop (mkF m 10 #[.val (.ref a1), .val (.ref a2), .val (.int (2 : Int32))] [(.int (2 : Int32))])) _
    refine XS.aloadN X0.here hx rfl (hb hby d10_10) rfl rfl ?_
    show Steps p.tables e below (s₁.setTop (mkF m 11 #[.val (.ref a1), .val (.ref a2), .val (.int (2 : Int32))] [(.ref a1), (.int (2 : Int32))])) _
    refine X0.arraylength hx (by rw [e0]; exact Aro9.1) (State.isArrayOf_alike hZ.alike Aro9.2.1) (g := (mkF m 11 #[.val (.ref a1), .val (.ref a2), .val (.int (2 : Int32))] [(.ref a1), (.int (2 : Int32))])) rfl rfl (hb hby d10_11) _ ?_
    rw [len_of So9 No9]
    show Steps p.tables e below (s₁.setTop (mkF m 12 #[.val (.ref a1), .val (.ref a2), .val (.int (2 : Int32))] [(.int (4 : Int32)), (.int (2 : Int32))])) _
    refine XS.icmpNo X0.here hx rfl (hb hby d10_12) rfl (tlt (by decide : (2 : Int32) < (4 : Int32))).2.1 ?_
    show Steps p.tables e below (s₁.setTop (mkF m 15 #[.val (.ref a1), .val (.ref a2), .val (.int (2 : Int32))] [])) _
    refine XS.aloadN X0.here hx rfl (hb hby d10_15) rfl rfl ?_
    show Steps p.tables e below (s₁.setTop (mkF m 16 #[.val (.ref a1), .val (.ref a2), .val (.int (2 : Int32))] [(.ref a1)])) _
    refine XS.iloadN X0.here hx rfl (hb hby d10_16) rfl ?_
    show Steps p.tables e below (s₁.setTop (mkF m 17 #[.val (.ref a1), .val (.ref a2), .val (.int (2 : Int32))] [(.int (2 : Int32)), (.ref a1)])) _
    refine X0.baloadBytes hx (j := (2 : Int32)) (v := (.int (108 : Int32))) (by rw [e0]; exact Aro10.1) (State.isArrayOf_alike hZ.alike Aro10.2.1) Aro10.2.2 hino10 (Ho10.at hino10 rfl) (g := (mkF m 17 #[.val (.ref a1), .val (.ref a2), .val (.int (2 : Int32))] [(.int (2 : Int32)), (.ref a1)])) rfl rfl (hb hby d10_17) _ ?_
    show Steps p.tables e below (s₁.setTop (mkF m 18 #[.val (.ref a1), .val (.ref a2), .val (.int (2 : Int32))] [(.int (108 : Int32))])) _
    refine XS.aloadN X0.here hx rfl (hb hby d10_18) rfl rfl ?_
    show Steps p.tables e below (s₁.setTop (mkF m 19 #[.val (.ref a1), .val (.ref a2), .val (.int (2 : Int32))] [(.ref a2), (.int (108 : Int32))])) _
    refine XS.iloadN X0.here hx rfl (hb hby d10_19) rfl ?_
    show Steps p.tables e below (s₁.setTop (mkF m 20 #[.val (.ref a1), .val (.ref a2), .val (.int (2 : Int32))] [(.int (2 : Int32)), (.ref a2), (.int (108 : Int32))])) _
    refine X0.baloadBytes hx (j := (2 : Int32)) (v := (.int (108 : Int32))) (by rw [e0]; exact Aro11.1) (State.isArrayOf_alike hZ.alike Aro11.2.1) Aro11.2.2 hino11 (Ho11.at hino11 rfl) (g := (mkF m 20 #[.val (.ref a1), .val (.ref a2), .val (.int (2 : Int32))] [(.int (2 : Int32)), (.ref a2), (.int (108 : Int32))])) rfl rfl (hb hby d10_20) _ ?_
    show Steps p.tables e below (s₁.setTop (mkF m 21 #[.val (.ref a1), .val (.ref a2), .val (.int (2 : Int32))] [(.int (108 : Int32)), (.int (108 : Int32))])) _
    refine XS.icmpYes X0.here hx rfl (pc0 := 21) (pc' := 26) rfl (hb hby d10_21) rfl (teq (by decide : (108 : Int32) = (108 : Int32))).1 (by decide) (by decide) ?_
    show Steps p.tables e below (s₁.setTop (mkF m 26 #[.val (.ref a1), .val (.ref a2), .val (.int (2 : Int32))] [])) _
    refine XS.iinc X0.here hx rfl (hb hby d10_26) rfl (l' := #[.val (.ref a1), .val (.ref a2), .val (.int (3 : Int32))]) rfl ?_
    show Steps p.tables e below (s₁.setTop (mkF m 29 #[.val (.ref a1), .val (.ref a2), .val (.int (3 : Int32))] [])) _
    refine XS.goto X0.here hx rfl (pc0 := 29) (pc' := 9) rfl (hb hby d10_29) (by decide) (by decide) ?_
    show Steps p.tables e below (s₁.setTop (mkF m 9 #[.val (.ref a1), .val (.ref a2), .val (.int (3 : Int32))] [])) _
    refine XS.iloadN X0.here hx rfl (hb hby d10_9) rfl ?_
    show Steps p.tables e below (s₁.setTop (mkF m 10 #[.val (.ref a1), .val (.ref a2), .val (.int (3 : Int32))] [(.int (3 : Int32))])) _
    refine XS.aloadN X0.here hx rfl (hb hby d10_10) rfl rfl ?_
    show Steps p.tables e below (s₁.setTop (mkF m 11 #[.val (.ref a1), .val (.ref a2), .val (.int (3 : Int32))] [(.ref a1), (.int (3 : Int32))])) _
    refine X0.arraylength hx (by rw [e0]; exact Aro12.1) (State.isArrayOf_alike hZ.alike Aro12.2.1) (g := (mkF m 11 #[.val (.ref a1), .val (.ref a2), .val (.int (3 : Int32))] [(.ref a1), (.int (3 : Int32))])) rfl rfl (hb hby d10_11) _ ?_
    rw [len_of So12 No12]
    show Steps p.tables e below (s₁.setTop (mkF m 12 #[.val (.ref a1), .val (.ref a2), .val (.int (3 : Int32))] [(.int (4 : Int32)), (.int (3 : Int32))])) _
    refine XS.icmpNo X0.here hx rfl (hb hby d10_12) rfl (tlt (by decide : (3 : Int32) < (4 : Int32))).2.1 ?_
    show Steps p.tables e below (s₁.setTop (mkF m 15 #[.val (.ref a1), .val (.ref a2), .val (.int (3 : Int32))] [])) _
    refine XS.aloadN X0.here hx rfl (hb hby d10_15) rfl rfl ?_
    show Steps p.tables e below (s₁.setTop (mkF m 16 #[.val (.ref a1), .val (.ref a2), .val (.int (3 : Int32))] [(.ref a1)])) _
    refine XS.iloadN X0.here hx rfl (hb hby d10_16) rfl ?_
    show Steps p.tables e below (s₁.setTop (mkF m 17 #[.val (.ref a1), .val (.ref a2), .val (.int (3 : Int32))] [(.int (3 : Int32)), (.ref a1)])) _
    refine X0.baloadBytes hx (j := (3 : Int32)) (v := (.int (108 : Int32))) (by rw [e0]; exact Aro13.1) (State.isArrayOf_alike hZ.alike Aro13.2.1) Aro13.2.2 hino13 (Ho13.at hino13 rfl) (g := (mkF m 17 #[.val (.ref a1), .val (.ref a2), .val (.int (3 : Int32))] [(.int (3 : Int32)), (.ref a1)])) rfl rfl (hb hby d10_17) _ ?_
    show Steps p.tables e below (s₁.setTop (mkF m 18 #[.val (.ref a1), .val (.ref a2), .val (.int (3 : Int32))] [(.int (108 : Int32))])) _
    refine XS.aloadN X0.here hx rfl (hb hby d10_18) rfl rfl ?_
    show Steps p.tables e below (s₁.setTop (mkF m 19 #[.val (.ref a1), .val (.ref a2), .val (.int (3 : Int32))] [(.ref a2), (.int (108 : Int32))])) _
    refine XS.iloadN X0.here hx rfl (hb hby d10_19) rfl ?_
    show Steps p.tables e below (s₁.setTop (mkF m 20 #[.val (.ref a1), .val (.ref a2), .val (.int (3 : Int32))] [(.int (3 : Int32)), (.ref a2), (.int (108 : Int32))])) _
    refine X0.baloadBytes hx (j := (3 : Int32)) (v := (.int (108 : Int32))) (by rw [e0]; exact Aro14.1) (State.isArrayOf_alike hZ.alike Aro14.2.1) Aro14.2.2 hino14 (Ho14.at hino14 rfl) (g := (mkF m 20 #[.val (.ref a1), .val (.ref a2), .val (.int (3 : Int32))] [(.int (3 : Int32)), (.ref a2), (.int (108 : Int32))])) rfl rfl (hb hby d10_20) _ ?_
    show Steps p.tables e below (s₁.setTop (mkF m 21 #[.val (.ref a1), .val (.ref a2), .val (.int (3 : Int32))] [(.int (108 : Int32)), (.int (108 : Int32))])) _
    refine XS.icmpYes X0.here hx rfl (pc0 := 21) (pc' := 26) rfl (hb hby d10_21) rfl (teq (by decide : (108 : Int32) = (108 : Int32))).1 (by decide) (by decide) ?_
    show Steps p.tables e below (s₁.setTop (mkF m 26 #[.val (.ref a1), .val (.ref a2), .val (.int (3 : Int32))] [])) _
    refine XS.iinc X0.here hx rfl (hb hby d10_26) rfl (l' := #[.val (.ref a1), .val (.ref a2), .val (.int (4 : Int32))]) rfl ?_
    show Steps p.tables e below (s₁.setTop (mkF m 29 #[.val (.ref a1), .val (.ref a2), .val (.int (4 : Int32))] [])) _
    refine XS.goto X0.here hx rfl (pc0 := 29) (pc' := 9) rfl (hb hby d10_29) (by decide) (by decide) ?_
    show Steps p.tables e below (s₁.setTop (mkF m 9 #[.val (.ref a1), .val (.ref a2), .val (.int (4 : Int32))] [])) _
    refine XS.iloadN X0.here hx rfl (hb hby d10_9) rfl ?_
    show Steps p.tables e below (s₁.setTop (mkF m 10 #[.val (.ref a1), .val (.ref a2), .val (.int (4 : Int32))] [(.int (4 : Int32))])) _
    refine XS.aloadN X0.here hx rfl (hb hby d10_10) rfl rfl ?_
    show Steps p.tables e below (s₁.setTop (mkF m 11 #[.val (.ref a1), .val (.ref a2), .val (.int (4 : Int32))] [(.ref a1), (.int (4 : Int32))])) _
    refine X0.arraylength hx (by rw [e0]; exact Aro15.1) (State.isArrayOf_alike hZ.alike Aro15.2.1) (g := (mkF m 11 #[.val (.ref a1), .val (.ref a2), .val (.int (4 : Int32))] [(.ref a1), (.int (4 : Int32))])) rfl rfl (hb hby d10_11) _ ?_
    rw [len_of So15 No15]
    show Steps p.tables e below (s₁.setTop (mkF m 12 #[.val (.ref a1), .val (.ref a2), .val (.int (4 : Int32))] [(.int (4 : Int32)), (.int (4 : Int32))])) _
    refine XS.icmpYes X0.here hx rfl (pc0 := 12) (pc' := 32) rfl (hb hby d10_12) rfl (flt (by decide : ¬ ((4 : Int32) < (4 : Int32)))).2.1 (by decide) (by decide) ?_
    show Steps p.tables e below (s₁.setTop (mkF m 32 #[.val (.ref a1), .val (.ref a2), .val (.int (4 : Int32))] [])) _
    refine XS.iconst X0.here hx rfl (hb hby d10_32) ?_
    show Steps p.tables e below (s₁.setTop (mkF m 33 #[.val (.ref a1), .val (.ref a2), .val (.int (4 : Int32))] [(.int (1 : Int32))])) _
    exact retN X0 hx (t := .boolean) Bd.returns (by simp) (hb hby d10_33) hr
  · show Q_latSS Z a1 a2 k_a1 k_a2 h0 n0 _ s₁.heap _
    rw [e0]
    exact ⟨rfl, N0, rfl⟩
def Q_eqSS (Z : State) (a1 : Addr) (a2 : Addr) (sc : Int32) (w_value_a1 : Addr) (w_value_a2 : Addr) (k_w_value_a1 : ClassId) (k_w_value_a2 : ClassId) (h0 : Heap) (n0 : Nat) (v : Option Value) (h : Heap) (L : List Loc) : Prop := v = some (.int (1 : Int32)) ∧ Fr n0 L ∧ h = h0
set_option maxRecDepth 65536 in
set_option maxHeartbeats 40000000 in
theorem rm_eqSS (l : Launch) (Z : State) (a0 : Array Value) (hw : ∀ d ∈ tables_1, d.before a0 Z = true) (ws : List Jvm.Cond) (a1 : Addr) (a2 : Addr) (sc : Int32) (w_value_a1 : Addr) (w_value_a2 : Addr) (k_w_value_a1 : ClassId) (k_w_value_a2 : ClassId) (h0 : Heap) (n0 : Nat) (Z0 : n0 ≤ h0.size) (S_COMPACT_STRINGS : Sta Z h0 "java/lang/String" "COMPACT_STRINGS" "Z" (.int sc)) (hsc : ¬ (sc = (0 : Int32))) (E_a1 : Exa Z h0 a1 "java/lang/String") (E_a2 : Exa Z h0 a2 "java/lang/String") (F_coder_a1 : Fld Z h0 a1 "java/lang/String" "coder" "B" (.int (0 : Int32))) (F_coder_a2 : Fld Z h0 a2 "java/lang/String" "coder" "B" (.int (0 : Int32))) (F_value_a1 : Fld Z h0 a1 "java/lang/String" "value" "[B" (.ref w_value_a1)) (F_value_a2 : Fld Z h0 a2 "java/lang/String" "value" "[B" (.ref w_value_a2)) (V_w_value_a1 : Arv Z h0 w_value_a1 k_w_value_a1 .byte (4 : Int32) [(.int (115 : Int32)), (.int (101 : Int32)), (.int (108 : Int32)), (.int (108 : Int32))] (.int (0 : Int32))) (V_w_value_a2 : Arv Z h0 w_value_a2 k_w_value_a2 .byte (4 : Int32) [(.int (115 : Int32)), (.int (101 : Int32)), (.int (108 : Int32)), (.int (108 : Int32))] (.int (0 : Int32))) (ne_a1_a2 : a1 ≠ a2) :
    MetFree l (⟨"java/lang/String", "equals", "(Ljava/lang/Object;)Z"⟩ : MethodName) (head1 (Jvm.Cond.code (⟨"java/lang/String", "equals", "(Ljava/lang/Object;)Z"⟩ : MethodName) jdk_42_method_66_code 3 (some .boolean) :: ws) ({ frames := 1, cells := 0, slots := 0, locals := 14 } : Room)) (fun a U => a = #[(.ref a1), (.ref a2)] ∧ Z.Warmed39 U.vm ∧ U.heap = h0) (fun _ _ _ _ _ => True) (fun _ U o U' => ∃ v L, o = .returned v ∧ Q_eqSS Z a1 a2 sc w_value_a1 w_value_a2 k_w_value_a1 k_w_value_a2 h0 n0 v U'.heap L ∧ FrameEnd U o U' L ({ frames := 1, cells := 0, slots := 0, locals := 14 } : Room).cells ({ frames := 1, cells := 0, slots := 0, locals := 14 } : Room).slots) := by
  refine MetFree.of_bodySF (plainFor_of_name pn_java_lang_String) hisR ?_
  intro p e s m args below meth c s₁ Bd hml0 hP hK
  obtain ⟨rfl, hZ, hh⟩ := hP
  have hx := Bd.exec
  have hby := Bd.bytes
  have hml : c.maxLocals = 3 := hml0
  have hown : s.vm.findClass "java/lang/String" = some m.cls := findClass_of_methodNamed Bd.named
  have hnm := (name_of_methodNamed Bd.named Bd.method).1
  have X0 : Stand p l e ({ frames := 1, cells := 0, slots := 0, locals := 14 } : Room) s m #[(.ref a1), (.ref a2)] below meth c s₁ [] 0 0 := Stand.of_body Bd
  have e0 : s₁.heap = h0 := by rw [← hh, Bd.state]; rfl
  have N0 := Fr.nil n0
  have pre0 : ∀ t, Steps p.tables e below (s₁.setTop (mkF m 0 #[.val (.ref a1), .val (.ref a2), .unset] [])) t → Steps p.tables e below (s₁.setTop (entryFrame m #[(.ref a1), (.ref a2)] 3)) t := fun t k => castTop (ef_9_RR m a1 a2) k
  obtain ⟨T1, X1, e1, st1⟩ := instY X0 hx hZ hown (hw _ (List.mem_of_getElem? (i := 58) rfl)) e0 (Ins.self E_a2) (g := (mkF m 8 #[.val (.ref a1), .val (.ref a2), .unset] [(.ref a2)])) rfl rfl (hb hby d9_8)
  obtain ⟨T2, X2, e2, st2⟩ := castY X1 hx hZ hown (hw _ (List.mem_of_getElem? (i := 58) rfl)) e1 (Ins.self E_a2) (g := (mkF m 15 #[.val (.ref a1), .val (.ref a2), .unset] [(.ref a2)])) rfl rfl (hb hby d9_15)
  obtain ⟨T3, X3, e3, st3⟩ := getS2 X2 hx hZ hown (host := "") (Or.inl (hw _ (List.mem_of_getElem? (i := 14) rfl))) Via.refl e2 S_COMPACT_STRINGS (g := (mkF m 19 #[.val (.ref a1), .val (.ref a2), .val (.ref a2)] [])) rfl (hb hby d9_19)
  obtain ⟨T4, X4, e4, st4⟩ := getF X3 hx hZ hown (host := "") (Or.inl (hw _ (List.mem_of_getElem? (i := 26) rfl))) Via.refl e3 F_coder_a1 (g := (mkF m 26 #[.val (.ref a1), .val (.ref a2), .val (.ref a2)] [(.ref a1)])) rfl rfl (hb hby d9_26)
  obtain ⟨T5, X5, e5, st5⟩ := getF X4 hx hZ hown (host := "") (Or.inl (hw _ (List.mem_of_getElem? (i := 26) rfl))) Via.refl e4 F_coder_a2 (g := (mkF m 30 #[.val (.ref a1), .val (.ref a2), .val (.ref a2)] [(.ref a2), (.int (0 : Int32))])) rfl rfl (hb hby d9_30)
  obtain ⟨T6, X6, e6, st6⟩ := getF X5 hx hZ hown (host := "") (Or.inl (hw _ (List.mem_of_getElem? (i := 28) rfl))) Via.refl e5 F_value_a1 (g := (mkF m 37 #[.val (.ref a1), .val (.ref a2), .val (.ref a2)] [(.ref a1)])) rfl rfl (hb hby d9_37)
  obtain ⟨T7, X7, e7, st7⟩ := getF X6 hx hZ hown (host := "") (Or.inl (hw _ (List.mem_of_getElem? (i := 28) rfl))) Via.refl e6 F_value_a2 (g := (mkF m 41 #[.val (.ref a1), .val (.ref a2), .val (.ref a2)] [(.ref a2), (.ref w_value_a1)])) rfl rfl (hb hby d9_41)
  obtain ⟨_, _, ⟨T8, L8, k8, n8⟩, -, X8, ⟨Lc8, hQ8, l8, y8, z8⟩, st8⟩ := Jvm.LawKit.callS X7 hx (y := (⟨"java/lang/StringLatin1", "equals", "([B[B)Z"⟩ : MethodName)) hown (mvT hZ (hw _ (List.mem_of_getElem? (i := 59) rfl))) (mvT hZ (hw _ (List.mem_of_getElem? (i := 60) rfl))) (mvT hZ (hw _ (List.mem_of_getElem? (i := 61) rfl))) (mvT hZ (hw _ (List.mem_of_getElem? (i := 62) rfl))) (by decide) (backOf (W := 0) (rm_latSS l Z a0 hw [] w_value_a1 w_value_a2 k_w_value_a1 k_w_value_a2 h0 n0 Z0 V_w_value_a1 V_w_value_a2) hZ (hw _ (List.mem_of_getElem? (i := 62) rfl)) (hw _ (List.mem_of_getElem? (i := 61) rfl)) (by decide) (by decide)) (g := (mkF m 44 #[.val (.ref a1), .val (.ref a2), .val (.ref a2)] [(.ref w_value_a2), (.ref w_value_a1)])) rfl (by rw [hml]; rfl) (argsL := [(.ref w_value_a1), (.ref w_value_a2)]) (rest := []) (lenOf pd_4 rfl) rfl (by show 2 * 0 + _ ≤ _; exact Nat.le_of_eq rfl) (hb hby d9_44) (fun _ _ => ⟨rfl, e7, (by decide : 0 + 0 ≤ _), (by decide : 0 + 0 ≤ _)⟩)
  dsimp only [Pt.U, Pt.locs, Pt.cells, Pt.slots] at X8 l8 y8 z8 st8 hQ8
  subst l8 y8 z8
  obtain ⟨rfl, Nq8, e8⟩ := hQ8
  have N9 := Fr.app N0 Nq8
  obtain ⟨fs, hr, hrun, hended, hW, hsame⟩ := X8.leave (v := some (.int (1 : Int32))) (fun h => by rw [Bd.returns] at h; cases h) Bd.notSynchronized
  refine ⟨_, _, pre0 _ ?_, hrun, hended, _, _, rfl, ?_, ⟨_, rfl⟩, hW, hsame.mono (by decide) (by decide)⟩
  · show Steps p.tables e below (s₁.setTop (mkF m 0 #[.val (.ref a1), .val (.ref a2), .unset] [])) _
    refine XS.aloadN X0.here hx rfl (hb hby d9_0) rfl rfl ?_
    show Steps p.tables e below (s₁.setTop (mkF m 1 #[.val (.ref a1), .val (.ref a2), .unset] [(.ref a1)])) _
    refine XS.aloadN X0.here hx rfl (hb hby d9_1) rfl rfl ?_
    show Steps p.tables e below (s₁.setTop (mkF m 2 #[.val (.ref a1), .val (.ref a2), .unset] [(.ref a2), (.ref a1)])) _
    refine Jvm.RoadKit.acmp (g := (mkF m 2 #[.val (.ref a1), .val (.ref a2), .unset] [(.ref a2), (.ref a1)])) X0 hx rfl rfl rfl (pc0 := 2) (pc' := 7) (same := false) rfl (hb hby d9_2) rfl (decide_eq_false fun q => ne_a1_a2 (Value.ref.inj q)) (by decide) (by decide) ?_
    show Steps p.tables e below (s₁.setTop (mkF m 7 #[.val (.ref a1), .val (.ref a2), .unset] [])) _
    refine XS.aloadN X0.here hx rfl (hb hby d9_7) rfl rfl ?_
    show Steps p.tables e below (s₁.setTop (mkF m 8 #[.val (.ref a1), .val (.ref a2), .unset] [(.ref a2)])) _
    refine st1 _ ?_
    show Steps p.tables e below (T1.setTop (mkF m 11 #[.val (.ref a1), .val (.ref a2), .unset] [(.int (1 : Int32))])) _
    refine XS.ifNo X1.here hx rfl (hb hby d9_11) rfl ((if0 _ _).trans (feq (by decide : ¬ ((1 : Int32) = (0 : Int32)))).1) ?_
    show Steps p.tables e below (T1.setTop (mkF m 14 #[.val (.ref a1), .val (.ref a2), .unset] [])) _
    refine XS.aloadN X1.here hx rfl (hb hby d9_14) rfl rfl ?_
    show Steps p.tables e below (T1.setTop (mkF m 15 #[.val (.ref a1), .val (.ref a2), .unset] [(.ref a2)])) _
    refine st2 _ ?_
    show Steps p.tables e below (T2.setTop (mkF m 18 #[.val (.ref a1), .val (.ref a2), .unset] [(.ref a2)])) _
    refine XS.astoreN X2.here hx rfl (hb hby d9_18) rfl rfl (l' := #[.val (.ref a1), .val (.ref a2), .val (.ref a2)]) rfl ?_
    show Steps p.tables e below (T2.setTop (mkF m 19 #[.val (.ref a1), .val (.ref a2), .val (.ref a2)] [])) _
    refine st3 _ ?_
    show Steps p.tables e below (T3.setTop (mkF m 22 #[.val (.ref a1), .val (.ref a2), .val (.ref a2)] [(.int sc)])) _
    refine XS.ifNo X3.here hx rfl (hb hby d9_22) rfl ((if0 _ _).trans (feq hsc).1) ?_
    show Steps p.tables e below (T3.setTop (mkF m 25 #[.val (.ref a1), .val (.ref a2), .val (.ref a2)] [])) _
    refine XS.aloadN X3.here hx rfl (hb hby d9_25) rfl rfl ?_
    show Steps p.tables e below (T3.setTop (mkF m 26 #[.val (.ref a1), .val (.ref a2), .val (.ref a2)] [(.ref a1)])) _
    refine st4 _ ?_
    show Steps p.tables e below (T4.setTop (mkF m 29 #[.val (.ref a1), .val (.ref a2), .val (.ref a2)] [(.int (0 : Int32))])) _
    refine XS.aloadN X4.here hx rfl (hb hby d9_29) rfl rfl ?_
    show Steps p.tables e below (T4.setTop (mkF m 30 #[.val (.ref a1), .val (.ref a2), .val (.ref a2)] [(.ref a2), (.int (0 : Int32))])) _
    refine st5 _ ?_
    show Steps p.tables e below (T5.setTop (mkF m 33 #[.val (.ref a1), .val (.ref a2), .val (.ref a2)] [(.int (0 : Int32)), (.int (0 : Int32))])) _
    refine XS.icmpNo X5.here hx rfl (hb hby d9_33) rfl (teq (by decide : (0 : Int32) = (0 : Int32))).2 ?_
    show Steps p.tables e below (T5.setTop (mkF m 36 #[.val (.ref a1), .val (.ref a2), .val (.ref a2)] [])) _
    refine XS.aloadN X5.here hx rfl (hb hby d9_36) rfl rfl ?_
    show Steps p.tables e below (T5.setTop (mkF m 37 #[.val (.ref a1), .val (.ref a2), .val (.ref a2)] [(.ref a1)])) _
    refine st6 _ ?_
    show Steps p.tables e below (T6.setTop (mkF m 40 #[.val (.ref a1), .val (.ref a2), .val (.ref a2)] [(.ref w_value_a1)])) _
    refine XS.aloadN X6.here hx rfl (hb hby d9_40) rfl rfl ?_
    show Steps p.tables e below (T6.setTop (mkF m 41 #[.val (.ref a1), .val (.ref a2), .val (.ref a2)] [(.ref a2), (.ref w_value_a1)])) _
    refine st7 _ ?_
    show Steps p.tables e below (T7.setTop (mkF m 44 #[.val (.ref a1), .val (.ref a2), .val (.ref a2)] [(.ref w_value_a2), (.ref w_value_a1)])) _
    refine st8 _ ?_
    show Steps p.tables e below (T8.setTop (mkF m 47 #[.val (.ref a1), .val (.ref a2), .val (.ref a2)] [(.int (1 : Int32))])) _
    refine XS.ifNo X8.here hx rfl (hb hby d9_47) rfl ((if0 _ _).trans (feq (by decide : ¬ ((1 : Int32) = (0 : Int32)))).1) ?_
    show Steps p.tables e below (T8.setTop (mkF m 50 #[.val (.ref a1), .val (.ref a2), .val (.ref a2)] [])) _
    refine XS.iconst X8.here hx rfl (hb hby d9_50) ?_
    show Steps p.tables e below (T8.setTop (mkF m 51 #[.val (.ref a1), .val (.ref a2), .val (.ref a2)] [(.int (1 : Int32))])) _
    refine XS.goto X8.here hx rfl (pc0 := 51) (pc' := 55) rfl (hb hby d9_51) (by decide) (by decide) ?_
    show Steps p.tables e below (T8.setTop (mkF m 55 #[.val (.ref a1), .val (.ref a2), .val (.ref a2)] [(.int (1 : Int32))])) _
    exact retN X8 hx (t := .boolean) Bd.returns (by simp) (hb hby d9_55) hr
  · show Q_eqSS Z a1 a2 sc w_value_a1 w_value_a2 k_w_value_a1 k_w_value_a2 h0 n0 _ T8.heap _
    rw [e8]
    exact ⟨rfl, N9, rfl⟩
theorem pd_5 : parseMethodDescriptor "()[Lorg/everroll/Fill$Side;" = some ⟨[], some (.array (.object "org/everroll/Fill$Side"))⟩ := by decide +kernel
theorem pd_6 : parseMethodDescriptor "(Ljava/lang/Object;)Z" = some ⟨[(.object "java/lang/Object")], some .boolean⟩ := by decide +kernel
theorem d7_0 : decode prog_15_method_4_code 0 = .ok (.invokestatic 33, 3) := by decide +kernel
theorem d7_3 : decode prog_15_method_4_code 3 = .ok (.astore_n 1, 1) := by decide +kernel
theorem d7_4 : decode prog_15_method_4_code 4 = .ok (.aload_n 1, 1) := by decide +kernel
theorem d7_5 : decode prog_15_method_4_code 5 = .ok (.arraylength, 1) := by decide +kernel
theorem d7_6 : decode prog_15_method_4_code 6 = .ok (.istore_n 2, 1) := by decide +kernel
theorem d7_7 : decode prog_15_method_4_code 7 = .ok (.iconst 0, 1) := by decide +kernel
theorem d7_8 : decode prog_15_method_4_code 8 = .ok (.istore_n 3, 1) := by decide +kernel
theorem d7_9 : decode prog_15_method_4_code 9 = .ok (.iload_n 3, 1) := by decide +kernel
theorem d7_10 : decode prog_15_method_4_code 10 = .ok (.iload_n 2, 1) := by decide +kernel
theorem d7_11 : decode prog_15_method_4_code 11 = .ok (.if_icmp .ge 29, 3) := by decide +kernel
theorem d7_14 : decode prog_15_method_4_code 14 = .ok (.aload_n 1, 1) := by decide +kernel
theorem d7_15 : decode prog_15_method_4_code 15 = .ok (.iload_n 3, 1) := by decide +kernel
theorem d7_16 : decode prog_15_method_4_code 16 = .ok (.aaload, 1) := by decide +kernel
theorem d7_17 : decode prog_15_method_4_code 17 = .ok (.astore 4, 2) := by decide +kernel
theorem d7_19 : decode prog_15_method_4_code 19 = .ok (.aload 4, 2) := by decide +kernel
theorem d7_21 : decode prog_15_method_4_code 21 = .ok (.getfield 29, 3) := by decide +kernel
theorem d7_24 : decode prog_15_method_4_code 24 = .ok (.aload_n 0, 1) := by decide +kernel
theorem d7_25 : decode prog_15_method_4_code 25 = .ok (.invokevirtual 37, 3) := by decide +kernel
theorem d7_28 : decode prog_15_method_4_code 28 = .ok (.ifCond .eq 6, 3) := by decide +kernel
theorem d7_31 : decode prog_15_method_4_code 31 = .ok (.aload 4, 2) := by decide +kernel
theorem d7_33 : decode prog_15_method_4_code 33 = .ok (.areturn, 1) := by decide +kernel
theorem ef_7_R (m : MethodId) (x0 : Addr) : entryFrame m #[(.ref x0)] 5 = mkF m 0 #[.val (.ref x0), .unset, .unset, .unset, .unset] [] := by first | (simp [entryFrame, mkF, argsToLocals, Value.category]; done) | rfl
def Q_namB (Z : State) (a1 : Addr) (sc : Int32) (va : Addr) (uB : Addr) (uS : Addr) (tb : Addr) (ts : Addr) (vb : Addr) (vv : Addr) (k_va : ClassId) (k_vb : ClassId) (k_vv : ClassId) (w_value_a1 : Addr) (k_w_value_a1 : ClassId) (h0 : Heap) (n0 : Nat) (v : Option Value) (h : Heap) (L : List Loc) : Prop := v = some (.ref uB) ∧ Fr n0 L ∧ Keep h0 h []
set_option maxRecDepth 65536 in
set_option maxHeartbeats 40000000 in
theorem rm_namB (l : Launch) (Z : State) (a0 : Array Value) (hw : ∀ d ∈ tables_1, d.before a0 Z = true) (ws : List Jvm.Cond) (a1 : Addr) (sc : Int32) (va : Addr) (uB : Addr) (uS : Addr) (tb : Addr) (ts : Addr) (vb : Addr) (vv : Addr) (k_va : ClassId) (k_vb : ClassId) (k_vv : ClassId) (w_value_a1 : Addr) (k_w_value_a1 : ClassId) (h0 : Heap) (n0 : Nat) (Z0 : n0 ≤ h0.size) (S_COMPACT_STRINGS : Sta Z h0 "java/lang/String" "COMPACT_STRINGS" "Z" (.int sc)) (hsc : ¬ (sc = (0 : Int32))) (S__VALUES : Sta Z h0 "org/everroll/Fill$Side" "$VALUES" "[Lorg/everroll/Fill$Side;" (.ref va)) (E_va : Exa Z h0 va "[Lorg/everroll/Fill$Side;") (V_va : Arv Z h0 va k_va (.object "org/everroll/Fill$Side") (2 : Int32) [(.ref uB), (.ref uS)] .null) (E_uB : Exa Z h0 uB "org/everroll/Fill$Side") (E_uS : Exa Z h0 uS "org/everroll/Fill$Side") (F_text_uB : Fld Z h0 uB "org/everroll/Fill$Side" "text" "Ljava/lang/String;" (.ref tb)) (F_text_uS : Fld Z h0 uS "org/everroll/Fill$Side" "text" "Ljava/lang/String;" (.ref ts)) (E_tb : Exa Z h0 tb "java/lang/String") (E_ts : Exa Z h0 ts "java/lang/String") (F_coder_tb : Fld Z h0 tb "java/lang/String" "coder" "B" (.int (0 : Int32))) (F_coder_ts : Fld Z h0 ts "java/lang/String" "coder" "B" (.int (0 : Int32))) (F_value_tb : Fld Z h0 tb "java/lang/String" "value" "[B" (.ref vb)) (F_value_ts : Fld Z h0 ts "java/lang/String" "value" "[B" (.ref vv)) (V_vb : Arv Z h0 vb k_vb .byte (3 : Int32) [(.int (98 : Int32)), (.int (117 : Int32)), (.int (121 : Int32))] (.int (0 : Int32))) (V_vv : Arv Z h0 vv k_vv .byte (4 : Int32) [(.int (115 : Int32)), (.int (101 : Int32)), (.int (108 : Int32)), (.int (108 : Int32))] (.int (0 : Int32))) (E_a1 : Exa Z h0 a1 "java/lang/String") (F_coder_a1 : Fld Z h0 a1 "java/lang/String" "coder" "B" (.int (0 : Int32))) (F_value_a1 : Fld Z h0 a1 "java/lang/String" "value" "[B" (.ref w_value_a1)) (V_w_value_a1 : Arv Z h0 w_value_a1 k_w_value_a1 .byte (3 : Int32) [(.int (98 : Int32)), (.int (117 : Int32)), (.int (121 : Int32))] (.int (0 : Int32))) (ne_tb_a1 : tb ≠ a1) :
    MetFree l (⟨"org/everroll/Fill$Side", "named", "(Ljava/lang/String;)Lorg/everroll/Fill$Side;"⟩ : MethodName) (head1 (Jvm.Cond.code (⟨"org/everroll/Fill$Side", "named", "(Ljava/lang/String;)Lorg/everroll/Fill$Side;"⟩ : MethodName) prog_15_method_4_code 5 (some (.object "org/everroll/Fill$Side")) :: ws) ({ frames := 2, cells := 1, slots := 2, locals := 28 } : Room)) (fun a U => a = #[(.ref a1)] ∧ Z.Warmed39 U.vm ∧ U.heap = h0) (fun _ _ _ _ _ => True) (fun _ U o U' => ∃ v L, o = .returned v ∧ Q_namB Z a1 sc va uB uS tb ts vb vv k_va k_vb k_vv w_value_a1 k_w_value_a1 h0 n0 v U'.heap L ∧ FrameEnd U o U' L ({ frames := 2, cells := 1, slots := 2, locals := 28 } : Room).cells ({ frames := 2, cells := 1, slots := 2, locals := 28 } : Room).slots) := by
  refine MetFree.of_bodySF (plainFor_of_name pn_org_everroll_Fill_Side) hisR ?_
  intro p e s m args below meth c s₁ Bd hml0 hP hK
  obtain ⟨rfl, hZ, hh⟩ := hP
  have hx := Bd.exec
  have hby := Bd.bytes
  have hml : c.maxLocals = 5 := hml0
  have hown : s.vm.findClass "org/everroll/Fill$Side" = some m.cls := findClass_of_methodNamed Bd.named
  have hnm := (name_of_methodNamed Bd.named Bd.method).1
  have X0 : Stand p l e ({ frames := 2, cells := 1, slots := 2, locals := 28 } : Room) s m #[(.ref a1)] below meth c s₁ [] 0 0 := Stand.of_body Bd
  have e0 : s₁.heap = h0 := by rw [← hh, Bd.state]; rfl
  have N0 := Fr.nil n0
  have pre0 : ∀ t, Steps p.tables e below (s₁.setTop (mkF m 0 #[.val (.ref a1), .unset, .unset, .unset, .unset] [])) t → Steps p.tables e below (s₁.setTop (entryFrame m #[(.ref a1)] 5)) t := fun t k => castTop (ef_7_R m a1) k
  obtain ⟨_, _, ⟨T1, L1, k1, n1⟩, -, X1, ⟨Lc1, hQ1, l1, y1, z1⟩, st1⟩ := Jvm.LawKit.callS X0 hx (y := (⟨"org/everroll/Fill$Side", "values", "()[Lorg/everroll/Fill$Side;"⟩ : MethodName)) hown (mvT hZ (hw _ (List.mem_of_getElem? (i := 34) rfl))) (mvT hZ (hw _ (List.mem_of_getElem? (i := 35) rfl))) (mvT hZ (hw _ (List.mem_of_getElem? (i := 32) rfl))) (mvT hZ (hw _ (List.mem_of_getElem? (i := 36) rfl))) (by decide) (backOf (W := 0) (rm_values l Z a0 hw [] va uB uS k_va h0 n0 Z0 S__VALUES E_va V_va) hZ (hw _ (List.mem_of_getElem? (i := 36) rfl)) (hw _ (List.mem_of_getElem? (i := 32) rfl)) (by decide) (by decide)) (g := (mkF m 0 #[.val (.ref a1), .unset, .unset, .unset, .unset] [])) rfl (by rw [hml]; rfl) (argsL := []) (rest := []) (lenOf pd_5 rfl) rfl (by show 2 * 0 + _ ≤ _; exact Nat.le_of_eq rfl) (hb hby d7_0) (fun _ _ => ⟨rfl, e0, (by decide : 0 + 1 ≤ _), (by decide : 0 + 2 ≤ _)⟩)
  dsimp only [Pt.U, Pt.locs, Pt.cells, Pt.slots] at X1 l1 y1 z1 st1 hQ1
  subst l1 y1 z1
  obtain ⟨b1_1, rfl, Nq1, g_b1_1, szq_b1_1, Kc1, fq1_0, fq1_1⟩ := hQ1
  have sz_b1_1 : h0.size ≤ b1_1 := Nat.le_trans (Keep.refl h0 []).1 szq_b1_1
  have ne_va_b1_1 : va ≠ b1_1 := Nat.ne_of_lt (Nat.lt_of_lt_of_le E_va.lt szq_b1_1)
  have ne_uB_b1_1 : uB ≠ b1_1 := Nat.ne_of_lt (Nat.lt_of_lt_of_le E_uB.lt szq_b1_1)
  have ne_uS_b1_1 : uS ≠ b1_1 := Nat.ne_of_lt (Nat.lt_of_lt_of_le E_uS.lt szq_b1_1)
  have ne_tb_b1_1 : tb ≠ b1_1 := Nat.ne_of_lt (Nat.lt_of_lt_of_le E_tb.lt szq_b1_1)
  have ne_ts_b1_1 : ts ≠ b1_1 := Nat.ne_of_lt (Nat.lt_of_lt_of_le E_ts.lt szq_b1_1)
  have ne_vb_b1_1 : vb ≠ b1_1 := Nat.ne_of_lt (Nat.lt_of_lt_of_le V_vb.lt szq_b1_1)
  have ne_vv_b1_1 : vv ≠ b1_1 := Nat.ne_of_lt (Nat.lt_of_lt_of_le V_vv.lt szq_b1_1)
  have ne_a1_b1_1 : a1 ≠ b1_1 := Nat.ne_of_lt (Nat.lt_of_lt_of_le E_a1.lt szq_b1_1)
  have ne_w_value_a1_b1_1 : w_value_a1 ≠ b1_1 := Nat.ne_of_lt (Nat.lt_of_lt_of_le V_w_value_a1.lt szq_b1_1)
  have ne_va_uB : va ≠ uB := ne_exa E_va E_uB (by decide)
  have ne_va_uS : va ≠ uS := ne_exa E_va E_uS (by decide)
  have ne_va_tb : va ≠ tb := ne_exa E_va E_tb (by decide)
  have ne_va_ts : va ≠ ts := ne_exa E_va E_ts (by decide)
  have ne_va_a1 : va ≠ a1 := ne_exa E_va E_a1 (by decide)
  have ne_uB_tb : uB ≠ tb := ne_exa E_uB E_tb (by decide)
  have ne_uB_ts : uB ≠ ts := ne_exa E_uB E_ts (by decide)
  have ne_uB_a1 : uB ≠ a1 := ne_exa E_uB E_a1 (by decide)
  have ne_uS_tb : uS ≠ tb := ne_exa E_uS E_tb (by decide)
  have ne_uS_ts : uS ≠ ts := ne_exa E_uS E_ts (by decide)
  have ne_uS_a1 : uS ≠ a1 := ne_exa E_uS E_a1 (by decide)
  have f3 : Sta Z T1.heap "java/lang/String" "COMPACT_STRINGS" "Z" (.int sc) := own_sta_keep S_COMPACT_STRINGS Kc1 all0
  have f4 : Sta Z T1.heap "org/everroll/Fill$Side" "$VALUES" "[Lorg/everroll/Fill$Side;" (.ref va) := own_sta_keep S__VALUES Kc1 all0
  have f5 : Exa Z T1.heap va "[Lorg/everroll/Fill$Side;" := E_va.keep Kc1
  have f6 : Arv Z T1.heap va k_va (.object "org/everroll/Fill$Side") (2 : Int32) [(.ref uB), (.ref uS)] .null := V_va.keep Kc1 nin0
  have f7 : Exa Z T1.heap uB "org/everroll/Fill$Side" := E_uB.keep Kc1
  have f8 : Exa Z T1.heap uS "org/everroll/Fill$Side" := E_uS.keep Kc1
  have f9 : Fld Z T1.heap uB "org/everroll/Fill$Side" "text" "Ljava/lang/String;" (.ref tb) := F_text_uB.keep Kc1 nin0
  have f10 : Fld Z T1.heap uS "org/everroll/Fill$Side" "text" "Ljava/lang/String;" (.ref ts) := F_text_uS.keep Kc1 nin0
  have f11 : Exa Z T1.heap tb "java/lang/String" := E_tb.keep Kc1
  have f12 : Exa Z T1.heap ts "java/lang/String" := E_ts.keep Kc1
  have f13 : Fld Z T1.heap tb "java/lang/String" "coder" "B" (.int (0 : Int32)) := F_coder_tb.keep Kc1 nin0
  have f14 : Fld Z T1.heap ts "java/lang/String" "coder" "B" (.int (0 : Int32)) := F_coder_ts.keep Kc1 nin0
  have f15 : Fld Z T1.heap tb "java/lang/String" "value" "[B" (.ref vb) := F_value_tb.keep Kc1 nin0
  have f16 : Fld Z T1.heap ts "java/lang/String" "value" "[B" (.ref vv) := F_value_ts.keep Kc1 nin0
  have f17 : Arv Z T1.heap vb k_vb .byte (3 : Int32) [(.int (98 : Int32)), (.int (117 : Int32)), (.int (121 : Int32))] (.int (0 : Int32)) := V_vb.keep Kc1 nin0
  have f18 : Arv Z T1.heap vv k_vv .byte (4 : Int32) [(.int (115 : Int32)), (.int (101 : Int32)), (.int (108 : Int32)), (.int (108 : Int32))] (.int (0 : Int32)) := V_vv.keep Kc1 nin0
  have f19 : Exa Z T1.heap a1 "java/lang/String" := E_a1.keep Kc1
  have f20 : Fld Z T1.heap a1 "java/lang/String" "coder" "B" (.int (0 : Int32)) := F_coder_a1.keep Kc1 nin0
  have f21 : Fld Z T1.heap a1 "java/lang/String" "value" "[B" (.ref w_value_a1) := F_value_a1.keep Kc1 nin0
  have f22 : Arv Z T1.heap w_value_a1 k_w_value_a1 .byte (3 : Int32) [(.int (98 : Int32)), (.int (117 : Int32)), (.int (121 : Int32))] (.int (0 : Int32)) := V_w_value_a1.keep Kc1 nin0
  have f23 : Arv Z T1.heap b1_1 k_va (.object "org/everroll/Fill$Side") (2 : Int32) [(.ref uB), (.ref uS)] .null := fq1_1
  have K24 : Keep h0 T1.heap [] := (Keep.refl h0 []).trans Kc1 all0
  have Zs25 : n0 ≤ T1.heap.size := Nat.le_trans Z0 Kc1.1
  have N2 := Fr.app N0 Nq1
  obtain ⟨clo26, Aro26, -, So26, No26, -, -⟩ := id f23
  obtain ⟨clo27, Aro27, qo27, So27, No27, Ho27, Go27⟩ := id f23
  have hino27 : ¬ ((0 : Int32) < 0 ∨ clo27.slots.size ≤ ((0 : Int32)).toNatClampNeg) := inb_of So27 ⟨by decide, by decide⟩
  obtain ⟨T28, X28, e28, st28⟩ := getF X1 hx hZ hown (host := "") (Or.inl (hw _ (List.mem_of_getElem? (i := 51) rfl))) Via.refl rfl f9 (g := (mkF m 21 #[.val (.ref a1), .val (.ref b1_1), .val (.int (2 : Int32)), .val (.int (0 : Int32)), .val (.ref uB)] [(.ref uB)])) rfl rfl (hb hby d7_21)
  obtain ⟨cq29, kq29, q29a, q29b, q29c⟩ := isOf hZ e28 f11
  obtain ⟨_, _, ⟨T29, L29, k29, n29⟩, -, X29, ⟨Lc29, hQ29, l29, y29, z29⟩, st29⟩ := X28.virtualBack hx (y := (⟨"java/lang/String", "equals", "(Ljava/lang/Object;)Z"⟩ : MethodName)) (z := (⟨"java/lang/String", "equals", "(Ljava/lang/Object;)Z"⟩ : MethodName)) hown (mvT hZ (hw _ (List.mem_of_getElem? (i := 53) rfl))) (mvT hZ (hw _ (List.mem_of_getElem? (i := 54) rfl))) (notFace_of_selects (args := #[]) (mvT hZ (hw _ (List.mem_of_getElem? (i := 56) rfl)))) (mvT hZ (hw _ (List.mem_of_getElem? (i := 56) rfl))) (mvT hZ (hw _ (List.mem_of_getElem? (i := 55) rfl))) (by decide) (backOf (W := 0) (rm_eqBB l Z a0 hw [] tb a1 sc vb w_value_a1 k_vb k_w_value_a1 T1.heap n0 Zs25 f3 hsc f11 f19 f13 f20 f15 f21 f17 f22 ne_tb_a1) hZ (hw _ (List.mem_of_getElem? (i := 57) rfl)) (hw _ (List.mem_of_getElem? (i := 3) rfl)) (by decide) (by decide)) q29a q29c (g := (mkF m 25 #[.val (.ref a1), .val (.ref b1_1), .val (.int (2 : Int32)), .val (.int (0 : Int32)), .val (.ref uB)] [(.ref a1), (.ref tb)])) rfl (by rw [hml]; rfl) (Steps.refl _) (argsL := [(.ref a1)]) (rest := []) (lenOf pd_6 rfl) rfl (by show 2 * 0 + _ ≤ _; exact Nat.le_of_eq rfl) (hb hby d7_25) (fun _ _ => ⟨rfl, e28, (by decide : 1 + 0 ≤ _), (by decide : 2 + 0 ≤ _)⟩)
  dsimp only [Pt.U, Pt.locs, Pt.cells, Pt.slots] at X29 l29 y29 z29 st29 hQ29
  subst l29 y29 z29
  obtain ⟨rfl, Nq29, e29⟩ := hQ29
  have N30 := Fr.app N2 Nq29
  obtain ⟨fs, hr, hrun, hended, hW, hsame⟩ := X29.leave (v := some (.ref uB)) (fun h => by rw [Bd.returns] at h; cases h) Bd.notSynchronized
  refine ⟨_, _, pre0 _ ?_, hrun, hended, _, _, rfl, ?_, ⟨_, rfl⟩, hW, hsame.mono (by decide) (by decide)⟩
  · show Steps p.tables e below (s₁.setTop (mkF m 0 #[.val (.ref a1), .unset, .unset, .unset, .unset] [])) _
    refine st1 _ ?_
    show Steps p.tables e below (T1.setTop (mkF m 3 #[.val (.ref a1), .unset, .unset, .unset, .unset] [(.ref b1_1)])) _
    refine XS.astoreN X1.here hx rfl (hb hby d7_3) rfl rfl (l' := #[.val (.ref a1), .val (.ref b1_1), .unset, .unset, .unset]) rfl ?_
    show Steps p.tables e below (T1.setTop (mkF m 4 #[.val (.ref a1), .val (.ref b1_1), .unset, .unset, .unset] [])) _
    refine XS.aloadN X1.here hx rfl (hb hby d7_4) rfl rfl ?_
    show Steps p.tables e below (T1.setTop (mkF m 5 #[.val (.ref a1), .val (.ref b1_1), .unset, .unset, .unset] [(.ref b1_1)])) _
    refine X1.arraylength hx Aro26.1 (State.isArrayOf_alike hZ.alike Aro26.2.1) (g := (mkF m 5 #[.val (.ref a1), .val (.ref b1_1), .unset, .unset, .unset] [(.ref b1_1)])) rfl rfl (hb hby d7_5) _ ?_
    rw [len_of So26 No26]
    show Steps p.tables e below (T1.setTop (mkF m 6 #[.val (.ref a1), .val (.ref b1_1), .unset, .unset, .unset] [(.int (2 : Int32))])) _
    refine XS.istoreN X1.here hx rfl (hb hby d7_6) rfl (l' := #[.val (.ref a1), .val (.ref b1_1), .val (.int (2 : Int32)), .unset, .unset]) rfl ?_
    show Steps p.tables e below (T1.setTop (mkF m 7 #[.val (.ref a1), .val (.ref b1_1), .val (.int (2 : Int32)), .unset, .unset] [])) _
    refine XS.iconst X1.here hx rfl (hb hby d7_7) ?_
    show Steps p.tables e below (T1.setTop (mkF m 8 #[.val (.ref a1), .val (.ref b1_1), .val (.int (2 : Int32)), .unset, .unset] [(.int (0 : Int32))])) _
    refine XS.istoreN X1.here hx rfl (hb hby d7_8) rfl (l' := #[.val (.ref a1), .val (.ref b1_1), .val (.int (2 : Int32)), .val (.int (0 : Int32)), .unset]) rfl ?_
    show Steps p.tables e below (T1.setTop (mkF m 9 #[.val (.ref a1), .val (.ref b1_1), .val (.int (2 : Int32)), .val (.int (0 : Int32)), .unset] [])) _
    refine XS.iloadN X1.here hx rfl (hb hby d7_9) rfl ?_
    show Steps p.tables e below (T1.setTop (mkF m 10 #[.val (.ref a1), .val (.ref b1_1), .val (.int (2 : Int32)), .val (.int (0 : Int32)), .unset] [(.int (0 : Int32))])) _
    refine XS.iloadN X1.here hx rfl (hb hby d7_10) rfl ?_
    show Steps p.tables e below (T1.setTop (mkF m 11 #[.val (.ref a1), .val (.ref b1_1), .val (.int (2 : Int32)), .val (.int (0 : Int32)), .unset] [(.int (2 : Int32)), (.int (0 : Int32))])) _
    refine XS.icmpNo X1.here hx rfl (hb hby d7_11) rfl (tlt (by decide : (0 : Int32) < (2 : Int32))).2.1 ?_
    show Steps p.tables e below (T1.setTop (mkF m 14 #[.val (.ref a1), .val (.ref b1_1), .val (.int (2 : Int32)), .val (.int (0 : Int32)), .unset] [])) _
    refine XS.aloadN X1.here hx rfl (hb hby d7_14) rfl rfl ?_
    show Steps p.tables e below (T1.setTop (mkF m 15 #[.val (.ref a1), .val (.ref b1_1), .val (.int (2 : Int32)), .val (.int (0 : Int32)), .unset] [(.ref b1_1)])) _
    refine XS.iloadN X1.here hx rfl (hb hby d7_15) rfl ?_
    show Steps p.tables e below (T1.setTop (mkF m 16 #[.val (.ref a1), .val (.ref b1_1), .val (.int (2 : Int32)), .val (.int (0 : Int32)), .unset] [(.int (0 : Int32)), (.ref b1_1)])) _
    refine X1.aaload hx (j := (0 : Int32)) (v := (.ref uB)) Aro27.1 (State.isArrayOf_alike hZ.alike Aro27.2.1) rfl Aro27.2.2 hino27 (Ho27.at hino27 rfl) (g := (mkF m 16 #[.val (.ref a1), .val (.ref b1_1), .val (.int (2 : Int32)), .val (.int (0 : Int32)), .unset] [(.int (0 : Int32)), (.ref b1_1)])) rfl rfl (hb hby d7_16) _ ?_
    show Steps p.tables e below (T1.setTop (mkF m 17 #[.val (.ref a1), .val (.ref b1_1), .val (.int (2 : Int32)), .val (.int (0 : Int32)), .unset] [(.ref uB)])) _
    refine XS.astore X1.here hx rfl (hb hby d7_17) rfl rfl (l' := #[.val (.ref a1), .val (.ref b1_1), .val (.int (2 : Int32)), .val (.int (0 : Int32)), .val (.ref uB)]) rfl ?_
    show Steps p.tables e below (T1.setTop (mkF m 19 #[.val (.ref a1), .val (.ref b1_1), .val (.int (2 : Int32)), .val (.int (0 : Int32)), .val (.ref uB)] [])) _
    refine XS.aload X1.here hx rfl (hb hby d7_19) rfl rfl ?_
    show Steps p.tables e below (T1.setTop (mkF m 21 #[.val (.ref a1), .val (.ref b1_1), .val (.int (2 : Int32)), .val (.int (0 : Int32)), .val (.ref uB)] [(.ref uB)])) _
    refine st28 _ ?_
    show Steps p.tables e below (T28.setTop (mkF m 24 #[.val (.ref a1), .val (.ref b1_1), .val (.int (2 : Int32)), .val (.int (0 : Int32)), .val (.ref uB)] [(.ref tb)])) _
    refine XS.aloadN X28.here hx rfl (hb hby d7_24) rfl rfl ?_
    show Steps p.tables e below (T28.setTop (mkF m 25 #[.val (.ref a1), .val (.ref b1_1), .val (.int (2 : Int32)), .val (.int (0 : Int32)), .val (.ref uB)] [(.ref a1), (.ref tb)])) _
    refine st29.trans ?_
    show Steps p.tables e below (T29.setTop (mkF m 28 #[.val (.ref a1), .val (.ref b1_1), .val (.int (2 : Int32)), .val (.int (0 : Int32)), .val (.ref uB)] [(.int (1 : Int32))])) _
    refine XS.ifNo X29.here hx rfl (hb hby d7_28) rfl ((if0 _ _).trans (feq (by decide : ¬ ((1 : Int32) = (0 : Int32)))).1) ?_
    show Steps p.tables e below (T29.setTop (mkF m 31 #[.val (.ref a1), .val (.ref b1_1), .val (.int (2 : Int32)), .val (.int (0 : Int32)), .val (.ref uB)] [])) _
    refine XS.aload X29.here hx rfl (hb hby d7_31) rfl rfl ?_
    show Steps p.tables e below (T29.setTop (mkF m 33 #[.val (.ref a1), .val (.ref b1_1), .val (.int (2 : Int32)), .val (.int (0 : Int32)), .val (.ref uB)] [(.ref uB)])) _
    exact retOut X29 hx (t := (.object "org/everroll/Fill$Side")) (i := .areturn) Bd.returns rfl (Or.inr (Or.inr (Or.inr (Or.inr ⟨rfl, rfl, rfl⟩)))) (hb hby d7_33) hr
  · show Q_namB Z a1 sc va uB uS tb ts vb vv k_va k_vb k_vv w_value_a1 k_w_value_a1 h0 n0 _ T29.heap _
    rw [e29]
    exact ⟨rfl, N30, K24⟩
theorem d7_34 : decode prog_15_method_4_code 34 = .ok (.iinc 3 1, 3) := by decide +kernel
theorem d7_37 : decode prog_15_method_4_code 37 = .ok (.goto (-28), 3) := by decide +kernel
def Q_namS (Z : State) (a1 : Addr) (sc : Int32) (va : Addr) (uB : Addr) (uS : Addr) (tb : Addr) (ts : Addr) (vb : Addr) (vv : Addr) (k_va : ClassId) (k_vb : ClassId) (k_vv : ClassId) (w_value_a1 : Addr) (k_w_value_a1 : ClassId) (h0 : Heap) (n0 : Nat) (v : Option Value) (h : Heap) (L : List Loc) : Prop := v = some (.ref uS) ∧ Fr n0 L ∧ Keep h0 h []
set_option maxRecDepth 65536 in
set_option maxHeartbeats 40000000 in
theorem rm_namS (l : Launch) (Z : State) (a0 : Array Value) (hw : ∀ d ∈ tables_1, d.before a0 Z = true) (ws : List Jvm.Cond) (a1 : Addr) (sc : Int32) (va : Addr) (uB : Addr) (uS : Addr) (tb : Addr) (ts : Addr) (vb : Addr) (vv : Addr) (k_va : ClassId) (k_vb : ClassId) (k_vv : ClassId) (w_value_a1 : Addr) (k_w_value_a1 : ClassId) (h0 : Heap) (n0 : Nat) (Z0 : n0 ≤ h0.size) (S_COMPACT_STRINGS : Sta Z h0 "java/lang/String" "COMPACT_STRINGS" "Z" (.int sc)) (hsc : ¬ (sc = (0 : Int32))) (S__VALUES : Sta Z h0 "org/everroll/Fill$Side" "$VALUES" "[Lorg/everroll/Fill$Side;" (.ref va)) (E_va : Exa Z h0 va "[Lorg/everroll/Fill$Side;") (V_va : Arv Z h0 va k_va (.object "org/everroll/Fill$Side") (2 : Int32) [(.ref uB), (.ref uS)] .null) (E_uB : Exa Z h0 uB "org/everroll/Fill$Side") (E_uS : Exa Z h0 uS "org/everroll/Fill$Side") (F_text_uB : Fld Z h0 uB "org/everroll/Fill$Side" "text" "Ljava/lang/String;" (.ref tb)) (F_text_uS : Fld Z h0 uS "org/everroll/Fill$Side" "text" "Ljava/lang/String;" (.ref ts)) (E_tb : Exa Z h0 tb "java/lang/String") (E_ts : Exa Z h0 ts "java/lang/String") (F_coder_tb : Fld Z h0 tb "java/lang/String" "coder" "B" (.int (0 : Int32))) (F_coder_ts : Fld Z h0 ts "java/lang/String" "coder" "B" (.int (0 : Int32))) (F_value_tb : Fld Z h0 tb "java/lang/String" "value" "[B" (.ref vb)) (F_value_ts : Fld Z h0 ts "java/lang/String" "value" "[B" (.ref vv)) (V_vb : Arv Z h0 vb k_vb .byte (3 : Int32) [(.int (98 : Int32)), (.int (117 : Int32)), (.int (121 : Int32))] (.int (0 : Int32))) (V_vv : Arv Z h0 vv k_vv .byte (4 : Int32) [(.int (115 : Int32)), (.int (101 : Int32)), (.int (108 : Int32)), (.int (108 : Int32))] (.int (0 : Int32))) (E_a1 : Exa Z h0 a1 "java/lang/String") (F_coder_a1 : Fld Z h0 a1 "java/lang/String" "coder" "B" (.int (0 : Int32))) (F_value_a1 : Fld Z h0 a1 "java/lang/String" "value" "[B" (.ref w_value_a1)) (V_w_value_a1 : Arv Z h0 w_value_a1 k_w_value_a1 .byte (4 : Int32) [(.int (115 : Int32)), (.int (101 : Int32)), (.int (108 : Int32)), (.int (108 : Int32))] (.int (0 : Int32))) (ne_tb_a1 : tb ≠ a1) (ne_ts_a1 : ts ≠ a1) :
    MetFree l (⟨"org/everroll/Fill$Side", "named", "(Ljava/lang/String;)Lorg/everroll/Fill$Side;"⟩ : MethodName) (head1 (Jvm.Cond.code (⟨"org/everroll/Fill$Side", "named", "(Ljava/lang/String;)Lorg/everroll/Fill$Side;"⟩ : MethodName) prog_15_method_4_code 5 (some (.object "org/everroll/Fill$Side")) :: ws) ({ frames := 2, cells := 1, slots := 2, locals := 28 } : Room)) (fun a U => a = #[(.ref a1)] ∧ Z.Warmed39 U.vm ∧ U.heap = h0) (fun _ _ _ _ _ => True) (fun _ U o U' => ∃ v L, o = .returned v ∧ Q_namS Z a1 sc va uB uS tb ts vb vv k_va k_vb k_vv w_value_a1 k_w_value_a1 h0 n0 v U'.heap L ∧ FrameEnd U o U' L ({ frames := 2, cells := 1, slots := 2, locals := 28 } : Room).cells ({ frames := 2, cells := 1, slots := 2, locals := 28 } : Room).slots) := by
  refine MetFree.of_bodySF (plainFor_of_name pn_org_everroll_Fill_Side) hisR ?_
  intro p e s m args below meth c s₁ Bd hml0 hP hK
  obtain ⟨rfl, hZ, hh⟩ := hP
  have hx := Bd.exec
  have hby := Bd.bytes
  have hml : c.maxLocals = 5 := hml0
  have hown : s.vm.findClass "org/everroll/Fill$Side" = some m.cls := findClass_of_methodNamed Bd.named
  have hnm := (name_of_methodNamed Bd.named Bd.method).1
  have X0 : Stand p l e ({ frames := 2, cells := 1, slots := 2, locals := 28 } : Room) s m #[(.ref a1)] below meth c s₁ [] 0 0 := Stand.of_body Bd
  have e0 : s₁.heap = h0 := by rw [← hh, Bd.state]; rfl
  have N0 := Fr.nil n0
  have pre0 : ∀ t, Steps p.tables e below (s₁.setTop (mkF m 0 #[.val (.ref a1), .unset, .unset, .unset, .unset] [])) t → Steps p.tables e below (s₁.setTop (entryFrame m #[(.ref a1)] 5)) t := fun t k => castTop (ef_7_R m a1) k
  obtain ⟨_, _, ⟨T1, L1, k1, n1⟩, -, X1, ⟨Lc1, hQ1, l1, y1, z1⟩, st1⟩ := Jvm.LawKit.callS X0 hx (y := (⟨"org/everroll/Fill$Side", "values", "()[Lorg/everroll/Fill$Side;"⟩ : MethodName)) hown (mvT hZ (hw _ (List.mem_of_getElem? (i := 34) rfl))) (mvT hZ (hw _ (List.mem_of_getElem? (i := 35) rfl))) (mvT hZ (hw _ (List.mem_of_getElem? (i := 32) rfl))) (mvT hZ (hw _ (List.mem_of_getElem? (i := 36) rfl))) (by decide) (backOf (W := 0) (rm_values l Z a0 hw [] va uB uS k_va h0 n0 Z0 S__VALUES E_va V_va) hZ (hw _ (List.mem_of_getElem? (i := 36) rfl)) (hw _ (List.mem_of_getElem? (i := 32) rfl)) (by decide) (by decide)) (g := (mkF m 0 #[.val (.ref a1), .unset, .unset, .unset, .unset] [])) rfl (by rw [hml]; rfl) (argsL := []) (rest := []) (lenOf pd_5 rfl) rfl (by show 2 * 0 + _ ≤ _; exact Nat.le_of_eq rfl) (hb hby d7_0) (fun _ _ => ⟨rfl, e0, (by decide : 0 + 1 ≤ _), (by decide : 0 + 2 ≤ _)⟩)
  dsimp only [Pt.U, Pt.locs, Pt.cells, Pt.slots] at X1 l1 y1 z1 st1 hQ1
  subst l1 y1 z1
  obtain ⟨b1_1, rfl, Nq1, g_b1_1, szq_b1_1, Kc1, fq1_0, fq1_1⟩ := hQ1
  have sz_b1_1 : h0.size ≤ b1_1 := Nat.le_trans (Keep.refl h0 []).1 szq_b1_1
  have ne_va_b1_1 : va ≠ b1_1 := Nat.ne_of_lt (Nat.lt_of_lt_of_le E_va.lt szq_b1_1)
  have ne_uB_b1_1 : uB ≠ b1_1 := Nat.ne_of_lt (Nat.lt_of_lt_of_le E_uB.lt szq_b1_1)
  have ne_uS_b1_1 : uS ≠ b1_1 := Nat.ne_of_lt (Nat.lt_of_lt_of_le E_uS.lt szq_b1_1)
  have ne_tb_b1_1 : tb ≠ b1_1 := Nat.ne_of_lt (Nat.lt_of_lt_of_le E_tb.lt szq_b1_1)
  have ne_ts_b1_1 : ts ≠ b1_1 := Nat.ne_of_lt (Nat.lt_of_lt_of_le E_ts.lt szq_b1_1)
  have ne_vb_b1_1 : vb ≠ b1_1 := Nat.ne_of_lt (Nat.lt_of_lt_of_le V_vb.lt szq_b1_1)
  have ne_vv_b1_1 : vv ≠ b1_1 := Nat.ne_of_lt (Nat.lt_of_lt_of_le V_vv.lt szq_b1_1)
  have ne_a1_b1_1 : a1 ≠ b1_1 := Nat.ne_of_lt (Nat.lt_of_lt_of_le E_a1.lt szq_b1_1)
  have ne_w_value_a1_b1_1 : w_value_a1 ≠ b1_1 := Nat.ne_of_lt (Nat.lt_of_lt_of_le V_w_value_a1.lt szq_b1_1)
  have ne_va_uB : va ≠ uB := ne_exa E_va E_uB (by decide)
  have ne_va_uS : va ≠ uS := ne_exa E_va E_uS (by decide)
  have ne_va_tb : va ≠ tb := ne_exa E_va E_tb (by decide)
  have ne_va_ts : va ≠ ts := ne_exa E_va E_ts (by decide)
  have ne_va_a1 : va ≠ a1 := ne_exa E_va E_a1 (by decide)
  have ne_uB_tb : uB ≠ tb := ne_exa E_uB E_tb (by decide)
  have ne_uB_ts : uB ≠ ts := ne_exa E_uB E_ts (by decide)
  have ne_uB_a1 : uB ≠ a1 := ne_exa E_uB E_a1 (by decide)
  have ne_uS_tb : uS ≠ tb := ne_exa E_uS E_tb (by decide)
  have ne_uS_ts : uS ≠ ts := ne_exa E_uS E_ts (by decide)
  have ne_uS_a1 : uS ≠ a1 := ne_exa E_uS E_a1 (by decide)
  have f3 : Sta Z T1.heap "java/lang/String" "COMPACT_STRINGS" "Z" (.int sc) := own_sta_keep S_COMPACT_STRINGS Kc1 all0
  have f4 : Sta Z T1.heap "org/everroll/Fill$Side" "$VALUES" "[Lorg/everroll/Fill$Side;" (.ref va) := own_sta_keep S__VALUES Kc1 all0
  have f5 : Exa Z T1.heap va "[Lorg/everroll/Fill$Side;" := E_va.keep Kc1
  have f6 : Arv Z T1.heap va k_va (.object "org/everroll/Fill$Side") (2 : Int32) [(.ref uB), (.ref uS)] .null := V_va.keep Kc1 nin0
  have f7 : Exa Z T1.heap uB "org/everroll/Fill$Side" := E_uB.keep Kc1
  have f8 : Exa Z T1.heap uS "org/everroll/Fill$Side" := E_uS.keep Kc1
  have f9 : Fld Z T1.heap uB "org/everroll/Fill$Side" "text" "Ljava/lang/String;" (.ref tb) := F_text_uB.keep Kc1 nin0
  have f10 : Fld Z T1.heap uS "org/everroll/Fill$Side" "text" "Ljava/lang/String;" (.ref ts) := F_text_uS.keep Kc1 nin0
  have f11 : Exa Z T1.heap tb "java/lang/String" := E_tb.keep Kc1
  have f12 : Exa Z T1.heap ts "java/lang/String" := E_ts.keep Kc1
  have f13 : Fld Z T1.heap tb "java/lang/String" "coder" "B" (.int (0 : Int32)) := F_coder_tb.keep Kc1 nin0
  have f14 : Fld Z T1.heap ts "java/lang/String" "coder" "B" (.int (0 : Int32)) := F_coder_ts.keep Kc1 nin0
  have f15 : Fld Z T1.heap tb "java/lang/String" "value" "[B" (.ref vb) := F_value_tb.keep Kc1 nin0
  have f16 : Fld Z T1.heap ts "java/lang/String" "value" "[B" (.ref vv) := F_value_ts.keep Kc1 nin0
  have f17 : Arv Z T1.heap vb k_vb .byte (3 : Int32) [(.int (98 : Int32)), (.int (117 : Int32)), (.int (121 : Int32))] (.int (0 : Int32)) := V_vb.keep Kc1 nin0
  have f18 : Arv Z T1.heap vv k_vv .byte (4 : Int32) [(.int (115 : Int32)), (.int (101 : Int32)), (.int (108 : Int32)), (.int (108 : Int32))] (.int (0 : Int32)) := V_vv.keep Kc1 nin0
  have f19 : Exa Z T1.heap a1 "java/lang/String" := E_a1.keep Kc1
  have f20 : Fld Z T1.heap a1 "java/lang/String" "coder" "B" (.int (0 : Int32)) := F_coder_a1.keep Kc1 nin0
  have f21 : Fld Z T1.heap a1 "java/lang/String" "value" "[B" (.ref w_value_a1) := F_value_a1.keep Kc1 nin0
  have f22 : Arv Z T1.heap w_value_a1 k_w_value_a1 .byte (4 : Int32) [(.int (115 : Int32)), (.int (101 : Int32)), (.int (108 : Int32)), (.int (108 : Int32))] (.int (0 : Int32)) := V_w_value_a1.keep Kc1 nin0
  have f23 : Arv Z T1.heap b1_1 k_va (.object "org/everroll/Fill$Side") (2 : Int32) [(.ref uB), (.ref uS)] .null := fq1_1
  have K24 : Keep h0 T1.heap [] := (Keep.refl h0 []).trans Kc1 all0
  have Zs25 : n0 ≤ T1.heap.size := Nat.le_trans Z0 Kc1.1
  have N2 := Fr.app N0 Nq1
  obtain ⟨clo26, Aro26, -, So26, No26, -, -⟩ := id f23
  obtain ⟨clo27, Aro27, qo27, So27, No27, Ho27, Go27⟩ := id f23
  have hino27 : ¬ ((0 : Int32) < 0 ∨ clo27.slots.size ≤ ((0 : Int32)).toNatClampNeg) := inb_of So27 ⟨by decide, by decide⟩
  obtain ⟨T28, X28, e28, st28⟩ := getF X1 hx hZ hown (host := "") (Or.inl (hw _ (List.mem_of_getElem? (i := 51) rfl))) Via.refl rfl f9 (g := (mkF m 21 #[.val (.ref a1), .val (.ref b1_1), .val (.int (2 : Int32)), .val (.int (0 : Int32)), .val (.ref uB)] [(.ref uB)])) rfl rfl (hb hby d7_21)
  obtain ⟨cq29, kq29, q29a, q29b, q29c⟩ := isOf hZ e28 f11
  obtain ⟨_, _, ⟨T29, L29, k29, n29⟩, -, X29, ⟨Lc29, hQ29, l29, y29, z29⟩, st29⟩ := X28.virtualBack hx (y := (⟨"java/lang/String", "equals", "(Ljava/lang/Object;)Z"⟩ : MethodName)) (z := (⟨"java/lang/String", "equals", "(Ljava/lang/Object;)Z"⟩ : MethodName)) hown (mvT hZ (hw _ (List.mem_of_getElem? (i := 53) rfl))) (mvT hZ (hw _ (List.mem_of_getElem? (i := 54) rfl))) (notFace_of_selects (args := #[]) (mvT hZ (hw _ (List.mem_of_getElem? (i := 56) rfl)))) (mvT hZ (hw _ (List.mem_of_getElem? (i := 56) rfl))) (mvT hZ (hw _ (List.mem_of_getElem? (i := 55) rfl))) (by decide) (backOf (W := 0) (rm_eqBS l Z a0 hw [] tb a1 sc vb w_value_a1 k_vb k_w_value_a1 T1.heap n0 Zs25 f3 hsc f11 f19 f13 f20 f15 f21 f17 f22 ne_tb_a1) hZ (hw _ (List.mem_of_getElem? (i := 57) rfl)) (hw _ (List.mem_of_getElem? (i := 3) rfl)) (by decide) (by decide)) q29a q29c (g := (mkF m 25 #[.val (.ref a1), .val (.ref b1_1), .val (.int (2 : Int32)), .val (.int (0 : Int32)), .val (.ref uB)] [(.ref a1), (.ref tb)])) rfl (by rw [hml]; rfl) (Steps.refl _) (argsL := [(.ref a1)]) (rest := []) (lenOf pd_6 rfl) rfl (by show 2 * 0 + _ ≤ _; exact Nat.le_of_eq rfl) (hb hby d7_25) (fun _ _ => ⟨rfl, e28, (by decide : 1 + 0 ≤ _), (by decide : 2 + 0 ≤ _)⟩)
  dsimp only [Pt.U, Pt.locs, Pt.cells, Pt.slots] at X29 l29 y29 z29 st29 hQ29
  subst l29 y29 z29
  obtain ⟨rfl, Nq29, e29⟩ := hQ29
  have N30 := Fr.app N2 Nq29
  obtain ⟨clo31, Aro31, qo31, So31, No31, Ho31, Go31⟩ := id f23
  have hino31 : ¬ ((1 : Int32) < 0 ∨ clo31.slots.size ≤ ((1 : Int32)).toNatClampNeg) := inb_of So31 ⟨by decide, by decide⟩
  obtain ⟨T32, X32, e32, st32⟩ := getF X29 hx hZ hown (host := "") (Or.inl (hw _ (List.mem_of_getElem? (i := 51) rfl))) Via.refl e29 f10 (g := (mkF m 21 #[.val (.ref a1), .val (.ref b1_1), .val (.int (2 : Int32)), .val (.int (1 : Int32)), .val (.ref uS)] [(.ref uS)])) rfl rfl (hb hby d7_21)
  obtain ⟨cq33, kq33, q33a, q33b, q33c⟩ := isOf hZ e32 f12
  obtain ⟨_, _, ⟨T33, L33, k33, n33⟩, -, X33, ⟨Lc33, hQ33, l33, y33, z33⟩, st33⟩ := X32.virtualBack hx (y := (⟨"java/lang/String", "equals", "(Ljava/lang/Object;)Z"⟩ : MethodName)) (z := (⟨"java/lang/String", "equals", "(Ljava/lang/Object;)Z"⟩ : MethodName)) hown (mvT hZ (hw _ (List.mem_of_getElem? (i := 53) rfl))) (mvT hZ (hw _ (List.mem_of_getElem? (i := 54) rfl))) (notFace_of_selects (args := #[]) (mvT hZ (hw _ (List.mem_of_getElem? (i := 56) rfl)))) (mvT hZ (hw _ (List.mem_of_getElem? (i := 56) rfl))) (mvT hZ (hw _ (List.mem_of_getElem? (i := 55) rfl))) (by decide) (backOf (W := 0) (rm_eqSS l Z a0 hw [] ts a1 sc vv w_value_a1 k_vv k_w_value_a1 T1.heap n0 Zs25 f3 hsc f12 f19 f14 f20 f16 f21 f18 f22 ne_ts_a1) hZ (hw _ (List.mem_of_getElem? (i := 57) rfl)) (hw _ (List.mem_of_getElem? (i := 3) rfl)) (by decide) (by decide)) q33a q33c (g := (mkF m 25 #[.val (.ref a1), .val (.ref b1_1), .val (.int (2 : Int32)), .val (.int (1 : Int32)), .val (.ref uS)] [(.ref a1), (.ref ts)])) rfl (by rw [hml]; rfl) (Steps.refl _) (argsL := [(.ref a1)]) (rest := []) (lenOf pd_6 rfl) rfl (by show 2 * 0 + _ ≤ _; exact Nat.le_of_eq rfl) (hb hby d7_25) (fun _ _ => ⟨rfl, e32, (by decide : 1 + 0 ≤ _), (by decide : 2 + 0 ≤ _)⟩)
  dsimp only [Pt.U, Pt.locs, Pt.cells, Pt.slots] at X33 l33 y33 z33 st33 hQ33
  subst l33 y33 z33
  obtain ⟨rfl, Nq33, e33⟩ := hQ33
  have N34 := Fr.app N30 Nq33
  obtain ⟨fs, hr, hrun, hended, hW, hsame⟩ := X33.leave (v := some (.ref uS)) (fun h => by rw [Bd.returns] at h; cases h) Bd.notSynchronized
  refine ⟨_, _, pre0 _ ?_, hrun, hended, _, _, rfl, ?_, ⟨_, rfl⟩, hW, hsame.mono (by decide) (by decide)⟩
  · show Steps p.tables e below (s₁.setTop (mkF m 0 #[.val (.ref a1), .unset, .unset, .unset, .unset] [])) _
    refine st1 _ ?_
    show Steps p.tables e below (T1.setTop (mkF m 3 #[.val (.ref a1), .unset, .unset, .unset, .unset] [(.ref b1_1)])) _
    refine XS.astoreN X1.here hx rfl (hb hby d7_3) rfl rfl (l' := #[.val (.ref a1), .val (.ref b1_1), .unset, .unset, .unset]) rfl ?_
    show Steps p.tables e below (T1.setTop (mkF m 4 #[.val (.ref a1), .val (.ref b1_1), .unset, .unset, .unset] [])) _
    refine XS.aloadN X1.here hx rfl (hb hby d7_4) rfl rfl ?_
    show Steps p.tables e below (T1.setTop (mkF m 5 #[.val (.ref a1), .val (.ref b1_1), .unset, .unset, .unset] [(.ref b1_1)])) _
    refine X1.arraylength hx Aro26.1 (State.isArrayOf_alike hZ.alike Aro26.2.1) (g := (mkF m 5 #[.val (.ref a1), .val (.ref b1_1), .unset, .unset, .unset] [(.ref b1_1)])) rfl rfl (hb hby d7_5) _ ?_
    rw [len_of So26 No26]
    show Steps p.tables e below (T1.setTop (mkF m 6 #[.val (.ref a1), .val (.ref b1_1), .unset, .unset, .unset] [(.int (2 : Int32))])) _
    refine XS.istoreN X1.here hx rfl (hb hby d7_6) rfl (l' := #[.val (.ref a1), .val (.ref b1_1), .val (.int (2 : Int32)), .unset, .unset]) rfl ?_
    show Steps p.tables e below (T1.setTop (mkF m 7 #[.val (.ref a1), .val (.ref b1_1), .val (.int (2 : Int32)), .unset, .unset] [])) _
    refine XS.iconst X1.here hx rfl (hb hby d7_7) ?_
    show Steps p.tables e below (T1.setTop (mkF m 8 #[.val (.ref a1), .val (.ref b1_1), .val (.int (2 : Int32)), .unset, .unset] [(.int (0 : Int32))])) _
    refine XS.istoreN X1.here hx rfl (hb hby d7_8) rfl (l' := #[.val (.ref a1), .val (.ref b1_1), .val (.int (2 : Int32)), .val (.int (0 : Int32)), .unset]) rfl ?_
    show Steps p.tables e below (T1.setTop (mkF m 9 #[.val (.ref a1), .val (.ref b1_1), .val (.int (2 : Int32)), .val (.int (0 : Int32)), .unset] [])) _
    refine XS.iloadN X1.here hx rfl (hb hby d7_9) rfl ?_
    show Steps p.tables e below (T1.setTop (mkF m 10 #[.val (.ref a1), .val (.ref b1_1), .val (.int (2 : Int32)), .val (.int (0 : Int32)), .unset] [(.int (0 : Int32))])) _
    refine XS.iloadN X1.here hx rfl (hb hby d7_10) rfl ?_
    show Steps p.tables e below (T1.setTop (mkF m 11 #[.val (.ref a1), .val (.ref b1_1), .val (.int (2 : Int32)), .val (.int (0 : Int32)), .unset] [(.int (2 : Int32)), (.int (0 : Int32))])) _
    refine XS.icmpNo X1.here hx rfl (hb hby d7_11) rfl (tlt (by decide : (0 : Int32) < (2 : Int32))).2.1 ?_
    show Steps p.tables e below (T1.setTop (mkF m 14 #[.val (.ref a1), .val (.ref b1_1), .val (.int (2 : Int32)), .val (.int (0 : Int32)), .unset] [])) _
    refine XS.aloadN X1.here hx rfl (hb hby d7_14) rfl rfl ?_
    show Steps p.tables e below (T1.setTop (mkF m 15 #[.val (.ref a1), .val (.ref b1_1), .val (.int (2 : Int32)), .val (.int (0 : Int32)), .unset] [(.ref b1_1)])) _
    refine XS.iloadN X1.here hx rfl (hb hby d7_15) rfl ?_
    show Steps p.tables e below (T1.setTop (mkF m 16 #[.val (.ref a1), .val (.ref b1_1), .val (.int (2 : Int32)), .val (.int (0 : Int32)), .unset] [(.int (0 : Int32)), (.ref b1_1)])) _
    refine X1.aaload hx (j := (0 : Int32)) (v := (.ref uB)) Aro27.1 (State.isArrayOf_alike hZ.alike Aro27.2.1) rfl Aro27.2.2 hino27 (Ho27.at hino27 rfl) (g := (mkF m 16 #[.val (.ref a1), .val (.ref b1_1), .val (.int (2 : Int32)), .val (.int (0 : Int32)), .unset] [(.int (0 : Int32)), (.ref b1_1)])) rfl rfl (hb hby d7_16) _ ?_
    show Steps p.tables e below (T1.setTop (mkF m 17 #[.val (.ref a1), .val (.ref b1_1), .val (.int (2 : Int32)), .val (.int (0 : Int32)), .unset] [(.ref uB)])) _
    refine XS.astore X1.here hx rfl (hb hby d7_17) rfl rfl (l' := #[.val (.ref a1), .val (.ref b1_1), .val (.int (2 : Int32)), .val (.int (0 : Int32)), .val (.ref uB)]) rfl ?_
    show Steps p.tables e below (T1.setTop (mkF m 19 #[.val (.ref a1), .val (.ref b1_1), .val (.int (2 : Int32)), .val (.int (0 : Int32)), .val (.ref uB)] [])) _
    refine XS.aload X1.here hx rfl (hb hby d7_19) rfl rfl ?_
    show Steps p.tables e below (T1.setTop (mkF m 21 #[.val (.ref a1), .val (.ref b1_1), .val (.int (2 : Int32)), .val (.int (0 : Int32)), .val (.ref uB)] [(.ref uB)])) _
    refine st28 _ ?_
    show Steps p.tables e below (T28.setTop (mkF m 24 #[.val (.ref a1), .val (.ref b1_1), .val (.int (2 : Int32)), .val (.int (0 : Int32)), .val (.ref uB)] [(.ref tb)])) _
    refine XS.aloadN X28.here hx rfl (hb hby d7_24) rfl rfl ?_
    show Steps p.tables e below (T28.setTop (mkF m 25 #[.val (.ref a1), .val (.ref b1_1), .val (.int (2 : Int32)), .val (.int (0 : Int32)), .val (.ref uB)] [(.ref a1), (.ref tb)])) _
    refine st29.trans ?_
    show Steps p.tables e below (T29.setTop (mkF m 28 #[.val (.ref a1), .val (.ref b1_1), .val (.int (2 : Int32)), .val (.int (0 : Int32)), .val (.ref uB)] [(.int (0 : Int32))])) _
    refine XS.ifYes X29.here hx rfl (pc0 := 28) (pc' := 34) rfl (hb hby d7_28) rfl ((if0 _ _).trans (teq (by decide : (0 : Int32) = (0 : Int32))).1) (by decide) (by decide) ?_
    show Steps p.tables e below (T29.setTop (mkF m 34 #[.val (.ref a1), .val (.ref b1_1), .val (.int (2 : Int32)), .val (.int (0 : Int32)), .val (.ref uB)] [])) _
    refine XS.iinc X29.here hx rfl (hb hby d7_34) rfl (l' := #[.val (.ref a1), .val (.ref b1_1), .val (.int (2 : Int32)), .val (.int (1 : Int32)), .val (.ref uB)]) rfl ?_
    show Steps p.tables e below (T29.setTop (mkF m 37 #[.val (.ref a1), .val (.ref b1_1), .val (.int (2 : Int32)), .val (.int (1 : Int32)), .val (.ref uB)] [])) _
    refine XS.goto X29.here hx rfl (pc0 := 37) (pc' := 9) rfl (hb hby d7_37) (by decide) (by decide) ?_
    show Steps p.tables e below (T29.setTop (mkF m 9 #[.val (.ref a1), .val (.ref b1_1), .val (.int (2 : Int32)), .val (.int (1 : Int32)), .val (.ref uB)] [])) _
    refine XS.iloadN X29.here hx rfl (hb hby d7_9) rfl ?_
    show Steps p.tables e below (T29.setTop (mkF m 10 #[.val (.ref a1), .val (.ref b1_1), .val (.int (2 : Int32)), .val (.int (1 : Int32)), .val (.ref uB)] [(.int (1 : Int32))])) _
    refine XS.iloadN X29.here hx rfl (hb hby d7_10) rfl ?_
    show Steps p.tables e below (T29.setTop (mkF m 11 #[.val (.ref a1), .val (.ref b1_1), .val (.int (2 : Int32)), .val (.int (1 : Int32)), .val (.ref uB)] [(.int (2 : Int32)), (.int (1 : Int32))])) _
    refine XS.icmpNo X29.here hx rfl (hb hby d7_11) rfl (tlt (by decide : (1 : Int32) < (2 : Int32))).2.1 ?_
    show Steps p.tables e below (T29.setTop (mkF m 14 #[.val (.ref a1), .val (.ref b1_1), .val (.int (2 : Int32)), .val (.int (1 : Int32)), .val (.ref uB)] [])) _
    refine XS.aloadN X29.here hx rfl (hb hby d7_14) rfl rfl ?_
    show Steps p.tables e below (T29.setTop (mkF m 15 #[.val (.ref a1), .val (.ref b1_1), .val (.int (2 : Int32)), .val (.int (1 : Int32)), .val (.ref uB)] [(.ref b1_1)])) _
    refine XS.iloadN X29.here hx rfl (hb hby d7_15) rfl ?_
    show Steps p.tables e below (T29.setTop (mkF m 16 #[.val (.ref a1), .val (.ref b1_1), .val (.int (2 : Int32)), .val (.int (1 : Int32)), .val (.ref uB)] [(.int (1 : Int32)), (.ref b1_1)])) _
    refine X29.aaload hx (j := (1 : Int32)) (v := (.ref uS)) (by rw [e29]; exact Aro31.1) (State.isArrayOf_alike hZ.alike Aro31.2.1) rfl Aro31.2.2 hino31 (Ho31.at hino31 rfl) (g := (mkF m 16 #[.val (.ref a1), .val (.ref b1_1), .val (.int (2 : Int32)), .val (.int (1 : Int32)), .val (.ref uB)] [(.int (1 : Int32)), (.ref b1_1)])) rfl rfl (hb hby d7_16) _ ?_
    show Steps p.tables e below (T29.setTop (mkF m 17 #[.val (.ref a1), .val (.ref b1_1), .val (.int (2 : Int32)), .val (.int (1 : Int32)), .val (.ref uB)] [(.ref uS)])) _
    refine XS.astore X29.here hx rfl (hb hby d7_17) rfl rfl (l' := #[.val (.ref a1), .val (.ref b1_1), .val (.int (2 : Int32)), .val (.int (1 : Int32)), .val (.ref uS)]) rfl ?_
    show Steps p.tables e below (T29.setTop (mkF m 19 #[.val (.ref a1), .val (.ref b1_1), .val (.int (2 : Int32)), .val (.int (1 : Int32)), .val (.ref uS)] [])) _
    refine XS.aload X29.here hx rfl (hb hby d7_19) rfl rfl ?_
    show Steps p.tables e below (T29.setTop (mkF m 21 #[.val (.ref a1), .val (.ref b1_1), .val (.int (2 : Int32)), .val (.int (1 : Int32)), .val (.ref uS)] [(.ref uS)])) _
    refine st32 _ ?_
    show Steps p.tables e below (T32.setTop (mkF m 24 #[.val (.ref a1), .val (.ref b1_1), .val (.int (2 : Int32)), .val (.int (1 : Int32)), .val (.ref uS)] [(.ref ts)])) _
    refine XS.aloadN X32.here hx rfl (hb hby d7_24) rfl rfl ?_
    show Steps p.tables e below (T32.setTop (mkF m 25 #[.val (.ref a1), .val (.ref b1_1), .val (.int (2 : Int32)), .val (.int (1 : Int32)), .val (.ref uS)] [(.ref a1), (.ref ts)])) _
    refine st33.trans ?_
    show Steps p.tables e below (T33.setTop (mkF m 28 #[.val (.ref a1), .val (.ref b1_1), .val (.int (2 : Int32)), .val (.int (1 : Int32)), .val (.ref uS)] [(.int (1 : Int32))])) _
    refine XS.ifNo X33.here hx rfl (hb hby d7_28) rfl ((if0 _ _).trans (feq (by decide : ¬ ((1 : Int32) = (0 : Int32)))).1) ?_
    show Steps p.tables e below (T33.setTop (mkF m 31 #[.val (.ref a1), .val (.ref b1_1), .val (.int (2 : Int32)), .val (.int (1 : Int32)), .val (.ref uS)] [])) _
    refine XS.aload X33.here hx rfl (hb hby d7_31) rfl rfl ?_
    show Steps p.tables e below (T33.setTop (mkF m 33 #[.val (.ref a1), .val (.ref b1_1), .val (.int (2 : Int32)), .val (.int (1 : Int32)), .val (.ref uS)] [(.ref uS)])) _
    exact retOut X33 hx (t := (.object "org/everroll/Fill$Side")) (i := .areturn) Bd.returns rfl (Or.inr (Or.inr (Or.inr (Or.inr ⟨rfl, rfl, rfl⟩)))) (hb hby d7_33) hr
  · show Q_namS Z a1 sc va uB uS tb ts vb vv k_va k_vb k_vv w_value_a1 k_w_value_a1 h0 n0 _ T33.heap _
    rw [e33]
    exact ⟨rfl, N34, K24⟩
theorem pd_7 : parseMethodDescriptor "([C)V" = some ⟨[(.array .char)], none⟩ := by decide +kernel
theorem pd_8 : parseMethodDescriptor "(Ljava/lang/String;)Lorg/everroll/Fill$Side;" = some ⟨[(.object "java/lang/String")], some (.object "org/everroll/Fill$Side")⟩ := by decide +kernel
theorem pn_org_everroll_SideNamedPinLaw : plainName "org/everroll/SideNamedPinLaw" = true := by first | (simp [plainName, overriddenIn]; done) | decide +kernel
theorem ef_0_I (m : MethodId) (x0 : Int32) : entryFrame m #[(.int x0)] maxLocals = mkF m 0 #[.val (.int x0), .unset, .unset, .unset, .unset] [] := by first | (simp [entryFrame, mkF, argsToLocals, Value.category, maxLocals]; done) | rfl
def Q_law (Z : State) (p1 : Int32) (sc : Int32) (va : Addr) (uB : Addr) (uS : Addr) (tb : Addr) (ts : Addr) (vb : Addr) (vv : Addr) (k_va : ClassId) (k_vb : ClassId) (k_vv : ClassId) (h0 : Heap) (n0 : Nat) (v : Option Value) (h : Heap) (L : List Loc) : Prop := v = some (.int (1 : Int32)) ∧ Fr n0 L
def Road_buy (Z : State) (h0 : Heap) (p1 : Int32) (sc : Int32) (va : Addr) (uB : Addr) (uS : Addr) (tb : Addr) (ts : Addr) (vb : Addr) (vv : Addr) (k_va : ClassId) (k_vb : ClassId) (k_vv : ClassId) : Prop := (Sta Z h0 "java/lang/String" "COMPACT_STRINGS" "Z" (.int sc)) ∧ (¬ (sc = (0 : Int32))) ∧ (Sta Z h0 "org/everroll/Fill$Side" "$VALUES" "[Lorg/everroll/Fill$Side;" (.ref va)) ∧ (Exa Z h0 va "[Lorg/everroll/Fill$Side;") ∧ (Arv Z h0 va k_va (.object "org/everroll/Fill$Side") (2 : Int32) [(.ref uB), (.ref uS)] .null) ∧ (Exa Z h0 uB "org/everroll/Fill$Side") ∧ (Exa Z h0 uS "org/everroll/Fill$Side") ∧ (Fld Z h0 uB "org/everroll/Fill$Side" "text" "Ljava/lang/String;" (.ref tb)) ∧ (Fld Z h0 uS "org/everroll/Fill$Side" "text" "Ljava/lang/String;" (.ref ts)) ∧ (Exa Z h0 tb "java/lang/String") ∧ (Exa Z h0 ts "java/lang/String") ∧ (Fld Z h0 tb "java/lang/String" "coder" "B" (.int (0 : Int32))) ∧ (Fld Z h0 ts "java/lang/String" "coder" "B" (.int (0 : Int32))) ∧ (Fld Z h0 tb "java/lang/String" "value" "[B" (.ref vb)) ∧ (Fld Z h0 ts "java/lang/String" "value" "[B" (.ref vv)) ∧ (Arv Z h0 vb k_vb .byte (3 : Int32) [(.int (98 : Int32)), (.int (117 : Int32)), (.int (121 : Int32))] (.int (0 : Int32))) ∧ (Arv Z h0 vv k_vv .byte (4 : Int32) [(.int (115 : Int32)), (.int (101 : Int32)), (.int (108 : Int32)), (.int (108 : Int32))] (.int (0 : Int32))) ∧ (Sta Z h0 "org/everroll/Fill$Side" "BUY" "Lorg/everroll/Fill$Side;" (.ref uB)) ∧ (Sta Z h0 "org/everroll/Fill$Side" "SELL" "Lorg/everroll/Fill$Side;" (.ref uS)) ∧ (¬ ((p1 &&& (1 : Int32)) = (0 : Int32)))
set_option maxRecDepth 65536 in
set_option maxHeartbeats 40000000 in
theorem rm_law_buy (l : Launch) (Z : State) (a0 : Array Value) (hw : ∀ d ∈ tables_1, d.before a0 Z = true) (ws : List Jvm.Cond) (p1 : Int32) (sc : Int32) (va : Addr) (uB : Addr) (uS : Addr) (tb : Addr) (ts : Addr) (vb : Addr) (vv : Addr) (k_va : ClassId) (k_vb : ClassId) (k_vv : ClassId) (h0 : Heap) (n0 : Nat) (Z0 : n0 ≤ h0.size) (hroad : Road_buy Z h0 p1 sc va uB uS tb ts vb vv k_va k_vb k_vv) :
    MetFree l x (head1 (Jvm.Cond.code x code maxLocals ret :: ws) room_1) (fun a U => a = #[(.int p1)] ∧ Z.Warmed39 U.vm ∧ U.heap = h0) (fun _ _ _ _ _ => True) (fun _ U o U' => ∃ v L, o = .returned v ∧ Q_law Z p1 sc va uB uS tb ts vb vv k_va k_vb k_vv h0 n0 v U'.heap L ∧ FrameEnd U o U' L room_1.cells room_1.slots) := by
  obtain ⟨S_COMPACT_STRINGS, hsc, S__VALUES, E_va, V_va, E_uB, E_uS, F_text_uB, F_text_uS, E_tb, E_ts, F_coder_tb, F_coder_ts, F_value_tb, F_value_ts, V_vb, V_vv, S_BUY, S_SELL, hc0⟩ := hroad
  refine MetFree.of_bodySF (plainFor_of_name pn_org_everroll_SideNamedPinLaw) hisR ?_
  intro p e s m args below meth c s₁ Bd hml0 hP hK
  obtain ⟨rfl, hZ, hh⟩ := hP
  have hx := Bd.exec
  have hby := Bd.bytes
  have hml : c.maxLocals = 5 := hml0
  have hown : s.vm.findClass "org/everroll/SideNamedPinLaw" = some m.cls := findClass_of_methodNamed Bd.named
  have hnm := (name_of_methodNamed Bd.named Bd.method).1
  have X0 : Stand p l e room_1 s m #[(.int p1)] below meth c s₁ [] 0 0 := Stand.of_body Bd
  have e0 : s₁.heap = h0 := by rw [← hh, Bd.state]; rfl
  have N0 := Fr.nil n0
  have pre0 : ∀ t, Steps p.tables e below (s₁.setTop (mkF m 0 #[.val (.int p1), .unset, .unset, .unset, .unset] [])) t → Steps p.tables e below (s₁.setTop (entryFrame m #[(.int p1)] maxLocals)) t := fun t k => castTop (ef_0_I m p1) k
  obtain ⟨T1, h1, k1, X1, e1, E1, A1, Ex1, st1⟩ := newPE X0 hx hZ (hw _ (List.mem_of_getElem? (i := 0) rfl)) e0 (g := (mkF m 17 #[.val (.int p1), .val (.int (1 : Int32)), .unset, .unset, .unset] [(.int (3 : Int32))])) rfl (hb hby at_17) rfl (by decide) (cap := 3) (by decide) (by decide) (by decide) (by decide) (ad := "[C") (by decide)
  obtain ⟨b1, g1⟩ : ∃ z, z = h0.size := ⟨_, rfl⟩
  rw [← g1] at A1 Ex1 st1
  have g_b1 : n0 ≤ b1 := Nat.le_trans Z0 (Nat.le_of_eq g1.symm)
  have ne_va_b1 : va ≠ b1 := Nat.ne_of_lt (Nat.lt_of_lt_of_le E_va.lt (Nat.le_of_eq g1.symm))
  have ne_uB_b1 : uB ≠ b1 := Nat.ne_of_lt (Nat.lt_of_lt_of_le E_uB.lt (Nat.le_of_eq g1.symm))
  have ne_uS_b1 : uS ≠ b1 := Nat.ne_of_lt (Nat.lt_of_lt_of_le E_uS.lt (Nat.le_of_eq g1.symm))
  have ne_tb_b1 : tb ≠ b1 := Nat.ne_of_lt (Nat.lt_of_lt_of_le E_tb.lt (Nat.le_of_eq g1.symm))
  have ne_ts_b1 : ts ≠ b1 := Nat.ne_of_lt (Nat.lt_of_lt_of_le E_ts.lt (Nat.le_of_eq g1.symm))
  have ne_vb_b1 : vb ≠ b1 := Nat.ne_of_lt (Nat.lt_of_lt_of_le V_vb.lt (Nat.le_of_eq g1.symm))
  have ne_vv_b1 : vv ≠ b1 := Nat.ne_of_lt (Nat.lt_of_lt_of_le V_vv.lt (Nat.le_of_eq g1.symm))
  have ne_va_uB : va ≠ uB := ne_exa E_va E_uB (by decide)
  have ne_va_uS : va ≠ uS := ne_exa E_va E_uS (by decide)
  have ne_va_tb : va ≠ tb := ne_exa E_va E_tb (by decide)
  have ne_va_ts : va ≠ ts := ne_exa E_va E_ts (by decide)
  have ne_uB_tb : uB ≠ tb := ne_exa E_uB E_tb (by decide)
  have ne_uB_ts : uB ≠ ts := ne_exa E_uB E_ts (by decide)
  have ne_uS_tb : uS ≠ tb := ne_exa E_uS E_tb (by decide)
  have ne_uS_ts : uS ≠ ts := ne_exa E_uS E_ts (by decide)
  have f2 : Sta Z h1 "java/lang/String" "COMPACT_STRINGS" "Z" (.int sc) := S_COMPACT_STRINGS.ext E1
  have f3 : Sta Z h1 "org/everroll/Fill$Side" "$VALUES" "[Lorg/everroll/Fill$Side;" (.ref va) := S__VALUES.ext E1
  have f4 : Exa Z h1 va "[Lorg/everroll/Fill$Side;" := E_va.ext E1
  have f5 : Arv Z h1 va k_va (.object "org/everroll/Fill$Side") (2 : Int32) [(.ref uB), (.ref uS)] .null := V_va.ext E1
  have f6 : Exa Z h1 uB "org/everroll/Fill$Side" := E_uB.ext E1
  have f7 : Exa Z h1 uS "org/everroll/Fill$Side" := E_uS.ext E1
  have f8 : Fld Z h1 uB "org/everroll/Fill$Side" "text" "Ljava/lang/String;" (.ref tb) := F_text_uB.ext E1
  have f9 : Fld Z h1 uS "org/everroll/Fill$Side" "text" "Ljava/lang/String;" (.ref ts) := F_text_uS.ext E1
  have f10 : Exa Z h1 tb "java/lang/String" := E_tb.ext E1
  have f11 : Exa Z h1 ts "java/lang/String" := E_ts.ext E1
  have f12 : Fld Z h1 tb "java/lang/String" "coder" "B" (.int (0 : Int32)) := F_coder_tb.ext E1
  have f13 : Fld Z h1 ts "java/lang/String" "coder" "B" (.int (0 : Int32)) := F_coder_ts.ext E1
  have f14 : Fld Z h1 tb "java/lang/String" "value" "[B" (.ref vb) := F_value_tb.ext E1
  have f15 : Fld Z h1 ts "java/lang/String" "value" "[B" (.ref vv) := F_value_ts.ext E1
  have f16 : Arv Z h1 vb k_vb .byte (3 : Int32) [(.int (98 : Int32)), (.int (117 : Int32)), (.int (121 : Int32))] (.int (0 : Int32)) := V_vb.ext E1
  have f17 : Arv Z h1 vv k_vv .byte (4 : Int32) [(.int (115 : Int32)), (.int (101 : Int32)), (.int (108 : Int32)), (.int (108 : Int32))] (.int (0 : Int32)) := V_vv.ext E1
  have f18 : Sta Z h1 "org/everroll/Fill$Side" "BUY" "Lorg/everroll/Fill$Side;" (.ref uB) := S_BUY.ext E1
  have f19 : Sta Z h1 "org/everroll/Fill$Side" "SELL" "Lorg/everroll/Fill$Side;" (.ref uS) := S_SELL.ext E1
  have Zs20 : n0 ≤ h1.size := Nat.le_trans Z0 E1.1
  have f21 : Arv Z h1 b1 k1 .char (3 : Int32) [(.int (0 : Int32)), (.int (0 : Int32)), (.int (0 : Int32))] (.int (0 : Int32)) := (Arv.new A1 (by decide)).pad (pad_rep [] (.int (0 : Int32)) 3)
  obtain ⟨clo22, Aro22, qo22, So22, No22, Ho22, Go22⟩ := id f21
  have hino22 : ¬ ((0 : Int32) < 0 ∨ clo22.slots.size ≤ ((0 : Int32)).toNatClampNeg) := inb_of So22 ⟨by decide, by decide⟩
  obtain ⟨T23, h23, X23, e23, W23, st23⟩ := stC X1 hx hZ e1 Aro22 (j := (0 : Int32)) hino22 (g := (mkF m 23 #[.val (.int p1), .val (.int (1 : Int32)), .unset, .unset, .unset] [(.int (98 : Int32)), (.int (0 : Int32)), (.ref b1), (.ref b1)])) rfl rfl (hb hby at_23)
  have f24 : Arv Z h23 b1 k1 .char (3 : Int32) [(.int (98 : Int32)), (.int (0 : Int32)), (.int (0 : Int32))] (.int (0 : Int32)) := Arv.set Aro22 qo22 So22 No22 Ho22 Go22 (fits_nar_char _) W23 0 rfl (by decide)
  have f25 : Sta Z h23 "java/lang/String" "COMPACT_STRINGS" "Z" (.int sc) := f2.wr W23
  have f26 : Sta Z h23 "org/everroll/Fill$Side" "$VALUES" "[Lorg/everroll/Fill$Side;" (.ref va) := f3.wr W23
  have f27 : Exa Z h23 va "[Lorg/everroll/Fill$Side;" := f4.wr W23
  have f28 : Arv Z h23 va k_va (.object "org/everroll/Fill$Side") (2 : Int32) [(.ref uB), (.ref uS)] .null := f5.other W23 ne_va_b1
  have f29 : Exa Z h23 uB "org/everroll/Fill$Side" := f6.wr W23
  have f30 : Exa Z h23 uS "org/everroll/Fill$Side" := f7.wr W23
  have f31 : Fld Z h23 uB "org/everroll/Fill$Side" "text" "Ljava/lang/String;" (.ref tb) := f8.other W23 (Or.inl ne_uB_b1)
  have f32 : Fld Z h23 uS "org/everroll/Fill$Side" "text" "Ljava/lang/String;" (.ref ts) := f9.other W23 (Or.inl ne_uS_b1)
  have f33 : Exa Z h23 tb "java/lang/String" := f10.wr W23
  have f34 : Exa Z h23 ts "java/lang/String" := f11.wr W23
  have f35 : Fld Z h23 tb "java/lang/String" "coder" "B" (.int (0 : Int32)) := f12.other W23 (Or.inl ne_tb_b1)
  have f36 : Fld Z h23 ts "java/lang/String" "coder" "B" (.int (0 : Int32)) := f13.other W23 (Or.inl ne_ts_b1)
  have f37 : Fld Z h23 tb "java/lang/String" "value" "[B" (.ref vb) := f14.other W23 (Or.inl ne_tb_b1)
  have f38 : Fld Z h23 ts "java/lang/String" "value" "[B" (.ref vv) := f15.other W23 (Or.inl ne_ts_b1)
  have f39 : Arv Z h23 vb k_vb .byte (3 : Int32) [(.int (98 : Int32)), (.int (117 : Int32)), (.int (121 : Int32))] (.int (0 : Int32)) := f16.other W23 ne_vb_b1
  have f40 : Arv Z h23 vv k_vv .byte (4 : Int32) [(.int (115 : Int32)), (.int (101 : Int32)), (.int (108 : Int32)), (.int (108 : Int32))] (.int (0 : Int32)) := f17.other W23 ne_vv_b1
  have f41 : Sta Z h23 "org/everroll/Fill$Side" "BUY" "Lorg/everroll/Fill$Side;" (.ref uB) := f18.wr W23
  have f42 : Sta Z h23 "org/everroll/Fill$Side" "SELL" "Lorg/everroll/Fill$Side;" (.ref uS) := f19.wr W23
  have f43 : Exa Z h23 b1 "[C" := Ex1.wr W23
  have N44 := Fr.snoc X23 N0 g_b1
  have Zs45 : n0 ≤ h23.size := Nat.le_trans Zs20 (Keep.of_wr W23).1
  obtain ⟨clo46, Aro46, qo46, So46, No46, Ho46, Go46⟩ := id f24
  have hino46 : ¬ ((1 : Int32) < 0 ∨ clo46.slots.size ≤ ((1 : Int32)).toNatClampNeg) := inb_of So46 ⟨by decide, by decide⟩
  obtain ⟨T47, h47, X47, e47, W47, st47⟩ := stC X23 hx hZ e23 Aro46 (j := (1 : Int32)) hino46 (g := (mkF m 28 #[.val (.int p1), .val (.int (1 : Int32)), .unset, .unset, .unset] [(.int (117 : Int32)), (.int (1 : Int32)), (.ref b1), (.ref b1)])) rfl rfl (hb hby at_28)
  have f48 : Arv Z h47 b1 k1 .char (3 : Int32) [(.int (98 : Int32)), (.int (117 : Int32)), (.int (0 : Int32))] (.int (0 : Int32)) := Arv.set Aro46 qo46 So46 No46 Ho46 Go46 (fits_nar_char _) W47 1 rfl (by decide)
  have f49 : Sta Z h47 "java/lang/String" "COMPACT_STRINGS" "Z" (.int sc) := f25.wr W47
  have f50 : Sta Z h47 "org/everroll/Fill$Side" "$VALUES" "[Lorg/everroll/Fill$Side;" (.ref va) := f26.wr W47
  have f51 : Exa Z h47 va "[Lorg/everroll/Fill$Side;" := f27.wr W47
  have f52 : Arv Z h47 va k_va (.object "org/everroll/Fill$Side") (2 : Int32) [(.ref uB), (.ref uS)] .null := f28.other W47 ne_va_b1
  have f53 : Exa Z h47 uB "org/everroll/Fill$Side" := f29.wr W47
  have f54 : Exa Z h47 uS "org/everroll/Fill$Side" := f30.wr W47
  have f55 : Fld Z h47 uB "org/everroll/Fill$Side" "text" "Ljava/lang/String;" (.ref tb) := f31.other W47 (Or.inl ne_uB_b1)
  have f56 : Fld Z h47 uS "org/everroll/Fill$Side" "text" "Ljava/lang/String;" (.ref ts) := f32.other W47 (Or.inl ne_uS_b1)
  have f57 : Exa Z h47 tb "java/lang/String" := f33.wr W47
  have f58 : Exa Z h47 ts "java/lang/String" := f34.wr W47
  have f59 : Fld Z h47 tb "java/lang/String" "coder" "B" (.int (0 : Int32)) := f35.other W47 (Or.inl ne_tb_b1)
  have f60 : Fld Z h47 ts "java/lang/String" "coder" "B" (.int (0 : Int32)) := f36.other W47 (Or.inl ne_ts_b1)
  have f61 : Fld Z h47 tb "java/lang/String" "value" "[B" (.ref vb) := f37.other W47 (Or.inl ne_tb_b1)
  have f62 : Fld Z h47 ts "java/lang/String" "value" "[B" (.ref vv) := f38.other W47 (Or.inl ne_ts_b1)
  have f63 : Arv Z h47 vb k_vb .byte (3 : Int32) [(.int (98 : Int32)), (.int (117 : Int32)), (.int (121 : Int32))] (.int (0 : Int32)) := f39.other W47 ne_vb_b1
  have f64 : Arv Z h47 vv k_vv .byte (4 : Int32) [(.int (115 : Int32)), (.int (101 : Int32)), (.int (108 : Int32)), (.int (108 : Int32))] (.int (0 : Int32)) := f40.other W47 ne_vv_b1
  have f65 : Sta Z h47 "org/everroll/Fill$Side" "BUY" "Lorg/everroll/Fill$Side;" (.ref uB) := f41.wr W47
  have f66 : Sta Z h47 "org/everroll/Fill$Side" "SELL" "Lorg/everroll/Fill$Side;" (.ref uS) := f42.wr W47
  have f67 : Exa Z h47 b1 "[C" := f43.wr W47
  have N68 := Fr.snoc X47 N44 g_b1
  have Zs69 : n0 ≤ h47.size := Nat.le_trans Zs45 (Keep.of_wr W47).1
  obtain ⟨clo70, Aro70, qo70, So70, No70, Ho70, Go70⟩ := id f48
  have hino70 : ¬ ((2 : Int32) < 0 ∨ clo70.slots.size ≤ ((2 : Int32)).toNatClampNeg) := inb_of So70 ⟨by decide, by decide⟩
  obtain ⟨T71, h71, X71, e71, W71, st71⟩ := stC X47 hx hZ e47 Aro70 (j := (2 : Int32)) hino70 (g := (mkF m 33 #[.val (.int p1), .val (.int (1 : Int32)), .unset, .unset, .unset] [(.int (121 : Int32)), (.int (2 : Int32)), (.ref b1), (.ref b1)])) rfl rfl (hb hby at_33)
  have f72 : Arv Z h71 b1 k1 .char (3 : Int32) [(.int (98 : Int32)), (.int (117 : Int32)), (.int (121 : Int32))] (.int (0 : Int32)) := Arv.set Aro70 qo70 So70 No70 Ho70 Go70 (fits_nar_char _) W71 2 rfl (by decide)
  have f73 : Sta Z h71 "java/lang/String" "COMPACT_STRINGS" "Z" (.int sc) := f49.wr W71
  have f74 : Sta Z h71 "org/everroll/Fill$Side" "$VALUES" "[Lorg/everroll/Fill$Side;" (.ref va) := f50.wr W71
  have f75 : Exa Z h71 va "[Lorg/everroll/Fill$Side;" := f51.wr W71
  have f76 : Arv Z h71 va k_va (.object "org/everroll/Fill$Side") (2 : Int32) [(.ref uB), (.ref uS)] .null := f52.other W71 ne_va_b1
  have f77 : Exa Z h71 uB "org/everroll/Fill$Side" := f53.wr W71
  have f78 : Exa Z h71 uS "org/everroll/Fill$Side" := f54.wr W71
  have f79 : Fld Z h71 uB "org/everroll/Fill$Side" "text" "Ljava/lang/String;" (.ref tb) := f55.other W71 (Or.inl ne_uB_b1)
  have f80 : Fld Z h71 uS "org/everroll/Fill$Side" "text" "Ljava/lang/String;" (.ref ts) := f56.other W71 (Or.inl ne_uS_b1)
  have f81 : Exa Z h71 tb "java/lang/String" := f57.wr W71
  have f82 : Exa Z h71 ts "java/lang/String" := f58.wr W71
  have f83 : Fld Z h71 tb "java/lang/String" "coder" "B" (.int (0 : Int32)) := f59.other W71 (Or.inl ne_tb_b1)
  have f84 : Fld Z h71 ts "java/lang/String" "coder" "B" (.int (0 : Int32)) := f60.other W71 (Or.inl ne_ts_b1)
  have f85 : Fld Z h71 tb "java/lang/String" "value" "[B" (.ref vb) := f61.other W71 (Or.inl ne_tb_b1)
  have f86 : Fld Z h71 ts "java/lang/String" "value" "[B" (.ref vv) := f62.other W71 (Or.inl ne_ts_b1)
  have f87 : Arv Z h71 vb k_vb .byte (3 : Int32) [(.int (98 : Int32)), (.int (117 : Int32)), (.int (121 : Int32))] (.int (0 : Int32)) := f63.other W71 ne_vb_b1
  have f88 : Arv Z h71 vv k_vv .byte (4 : Int32) [(.int (115 : Int32)), (.int (101 : Int32)), (.int (108 : Int32)), (.int (108 : Int32))] (.int (0 : Int32)) := f64.other W71 ne_vv_b1
  have f89 : Sta Z h71 "org/everroll/Fill$Side" "BUY" "Lorg/everroll/Fill$Side;" (.ref uB) := f65.wr W71
  have f90 : Sta Z h71 "org/everroll/Fill$Side" "SELL" "Lorg/everroll/Fill$Side;" (.ref uS) := f66.wr W71
  have f91 : Exa Z h71 b1 "[C" := f67.wr W71
  have N92 := Fr.snoc X71 N68 g_b1
  have Zs93 : n0 ≤ h71.size := Nat.le_trans Zs69 (Keep.of_wr W71).1
  obtain ⟨T94, h94, X94, e94, E94, A94, D94, -, st94⟩ := newO X71 hx hZ hown (hw _ (List.mem_of_getElem? (i := 1) rfl)) (hw _ (List.mem_of_getElem? (i := 2) rfl)) (hw _ (List.mem_of_getElem? (i := 3) rfl)) e71 (g := (mkF m 61 #[.val (.int p1), .val (.int (1 : Int32)), .val (.ref b1), .unset, .unset] [])) rfl (hb hby at_61) (by decide) (by decide)
  obtain ⟨b94, g94⟩ : ∃ z, z = h71.size := ⟨_, rfl⟩
  rw [← g94] at A94 D94 st94
  have g_b94 : n0 ≤ b94 := Nat.le_trans Zs93 (Nat.le_of_eq g94.symm)
  have ne_va_b94 : va ≠ b94 := Nat.ne_of_lt (Nat.lt_of_lt_of_le f75.lt (Nat.le_of_eq g94.symm))
  have ne_uB_b94 : uB ≠ b94 := Nat.ne_of_lt (Nat.lt_of_lt_of_le f77.lt (Nat.le_of_eq g94.symm))
  have ne_uS_b94 : uS ≠ b94 := Nat.ne_of_lt (Nat.lt_of_lt_of_le f78.lt (Nat.le_of_eq g94.symm))
  have ne_tb_b94 : tb ≠ b94 := Nat.ne_of_lt (Nat.lt_of_lt_of_le f81.lt (Nat.le_of_eq g94.symm))
  have ne_ts_b94 : ts ≠ b94 := Nat.ne_of_lt (Nat.lt_of_lt_of_le f82.lt (Nat.le_of_eq g94.symm))
  have ne_vb_b94 : vb ≠ b94 := Nat.ne_of_lt (Nat.lt_of_lt_of_le f87.lt (Nat.le_of_eq g94.symm))
  have ne_vv_b94 : vv ≠ b94 := Nat.ne_of_lt (Nat.lt_of_lt_of_le f88.lt (Nat.le_of_eq g94.symm))
  have ne_b1_b94 : b1 ≠ b94 := Nat.ne_of_lt (Nat.lt_of_lt_of_le f91.lt (Nat.le_of_eq g94.symm))
  have f95 : Sta Z h94 "java/lang/String" "COMPACT_STRINGS" "Z" (.int sc) := f73.ext E94
  have f96 : Sta Z h94 "org/everroll/Fill$Side" "$VALUES" "[Lorg/everroll/Fill$Side;" (.ref va) := f74.ext E94
  have f97 : Exa Z h94 va "[Lorg/everroll/Fill$Side;" := f75.ext E94
  have f98 : Arv Z h94 va k_va (.object "org/everroll/Fill$Side") (2 : Int32) [(.ref uB), (.ref uS)] .null := f76.ext E94
  have f99 : Exa Z h94 uB "org/everroll/Fill$Side" := f77.ext E94
  have f100 : Exa Z h94 uS "org/everroll/Fill$Side" := f78.ext E94
  have f101 : Fld Z h94 uB "org/everroll/Fill$Side" "text" "Ljava/lang/String;" (.ref tb) := f79.ext E94
  have f102 : Fld Z h94 uS "org/everroll/Fill$Side" "text" "Ljava/lang/String;" (.ref ts) := f80.ext E94
  have f103 : Exa Z h94 tb "java/lang/String" := f81.ext E94
  have f104 : Exa Z h94 ts "java/lang/String" := f82.ext E94
  have f105 : Fld Z h94 tb "java/lang/String" "coder" "B" (.int (0 : Int32)) := f83.ext E94
  have f106 : Fld Z h94 ts "java/lang/String" "coder" "B" (.int (0 : Int32)) := f84.ext E94
  have f107 : Fld Z h94 tb "java/lang/String" "value" "[B" (.ref vb) := f85.ext E94
  have f108 : Fld Z h94 ts "java/lang/String" "value" "[B" (.ref vv) := f86.ext E94
  have f109 : Arv Z h94 vb k_vb .byte (3 : Int32) [(.int (98 : Int32)), (.int (117 : Int32)), (.int (121 : Int32))] (.int (0 : Int32)) := f87.ext E94
  have f110 : Arv Z h94 vv k_vv .byte (4 : Int32) [(.int (115 : Int32)), (.int (101 : Int32)), (.int (108 : Int32)), (.int (108 : Int32))] (.int (0 : Int32)) := f88.ext E94
  have f111 : Sta Z h94 "org/everroll/Fill$Side" "BUY" "Lorg/everroll/Fill$Side;" (.ref uB) := f89.ext E94
  have f112 : Sta Z h94 "org/everroll/Fill$Side" "SELL" "Lorg/everroll/Fill$Side;" (.ref uS) := f90.ext E94
  have f113 : Exa Z h94 b1 "[C" := f91.ext E94
  have f114 : Arv Z h94 b1 k1 .char (3 : Int32) [(.int (98 : Int32)), (.int (117 : Int32)), (.int (121 : Int32))] (.int (0 : Int32)) := f72.ext E94
  have Zs115 : n0 ≤ h94.size := Nat.le_trans Zs93 E94.1
  have f116 : Fld Z h94 b94 "java/lang/String" "coder" "B" (.int (0 : Int32)) := D94 (Or.inr (hw _ (List.mem_of_getElem? (i := 27) rfl))) (ty := .byte) (by decide)
  have f117 : Fld Z h94 b94 "java/lang/String" "value" "[B" .null := D94 (Or.inr (hw _ (List.mem_of_getElem? (i := 29) rfl))) (ty := (.array .byte)) (by decide)
  obtain ⟨_, _, ⟨T118, L118, k118, n118⟩, -, X118, ⟨Lc118, hQ118, l118, y118, z118⟩, st118⟩ := X94.specialBack hx (y := (⟨"java/lang/String", "<init>", "([C)V"⟩ : MethodName)) rfl hown (mvT hZ (hw _ (List.mem_of_getElem? (i := 4) rfl))) (mvT hZ (hw _ (List.mem_of_getElem? (i := 5) rfl))) (mvT hZ (hw _ (List.mem_of_getElem? (i := 6) rfl))) (by decide) (backOf (W := 1) (rm_strB l Z a0 hw [] b94 b1 sc k1 h94 n0 Zs115 f95 hsc f113 f114 A94 f116 g_b94 f117) hZ (hw _ (List.mem_of_getElem? (i := 6) rfl)) (hw _ (List.mem_of_getElem? (i := 3) rfl)) (by decide) (by decide)) (g := (mkF m 66 #[.val (.int p1), .val (.int (1 : Int32)), .val (.ref b1), .unset, .unset] [(.ref b1), (.ref b94), (.ref b94)])) rfl (by rw [hml]; rfl) (Steps.refl _) (a := b94) (argsL := [(.ref b1)]) (rest := [(.ref b94)]) (lenOf pd_7 rfl) rfl (by show 2 * 0 + _ ≤ _; exact Nat.le_of_eq rfl) (hb hby at_66) (fun _ _ => ⟨rfl, e94, (by decide : 2 + 1 ≤ _), (by decide : 7 + 3 ≤ _)⟩)
  dsimp only [Pt.U, Pt.locs, Pt.cells, Pt.slots] at X118 l118 y118 z118 st118 hQ118
  subst l118 y118 z118
  obtain ⟨b118_1, k118_2, rfl, Nq118, g_b118_1, szq_b118_1, Kc118, fq118_0, fq118_1, fq118_2, fq118_3, fq118_4⟩ := hQ118
  have ne_va_b118_1 : va ≠ b118_1 := Nat.ne_of_lt (Nat.lt_of_lt_of_le f97.lt szq_b118_1)
  have ne_uB_b118_1 : uB ≠ b118_1 := Nat.ne_of_lt (Nat.lt_of_lt_of_le f99.lt szq_b118_1)
  have ne_uS_b118_1 : uS ≠ b118_1 := Nat.ne_of_lt (Nat.lt_of_lt_of_le f100.lt szq_b118_1)
  have ne_tb_b118_1 : tb ≠ b118_1 := Nat.ne_of_lt (Nat.lt_of_lt_of_le f103.lt szq_b118_1)
  have ne_ts_b118_1 : ts ≠ b118_1 := Nat.ne_of_lt (Nat.lt_of_lt_of_le f104.lt szq_b118_1)
  have ne_vb_b118_1 : vb ≠ b118_1 := Nat.ne_of_lt (Nat.lt_of_lt_of_le f109.lt szq_b118_1)
  have ne_vv_b118_1 : vv ≠ b118_1 := Nat.ne_of_lt (Nat.lt_of_lt_of_le f110.lt szq_b118_1)
  have ne_b1_b118_1 : b1 ≠ b118_1 := Nat.ne_of_lt (Nat.lt_of_lt_of_le f113.lt szq_b118_1)
  have ne_b94_b118_1 : b94 ≠ b118_1 := Nat.ne_of_lt (Nat.lt_of_lt_of_le A94.lt szq_b118_1)
  have f120 : Sta Z T118.heap "java/lang/String" "COMPACT_STRINGS" "Z" (.int sc) := own_sta_keep f95 Kc118 (allS (own_plain_cell A94) all0)
  have f121 : Sta Z T118.heap "org/everroll/Fill$Side" "$VALUES" "[Lorg/everroll/Fill$Side;" (.ref va) := own_sta_keep f96 Kc118 (allS (own_plain_cell A94) all0)
  have f122 : Exa Z T118.heap va "[Lorg/everroll/Fill$Side;" := f97.keep Kc118
  have f123 : Arv Z T118.heap va k_va (.object "org/everroll/Fill$Side") (2 : Int32) [(.ref uB), (.ref uS)] .null := f98.keep Kc118 (ninS ne_va_b94 nin0)
  have f124 : Exa Z T118.heap uB "org/everroll/Fill$Side" := f99.keep Kc118
  have f125 : Exa Z T118.heap uS "org/everroll/Fill$Side" := f100.keep Kc118
  have f126 : Fld Z T118.heap uB "org/everroll/Fill$Side" "text" "Ljava/lang/String;" (.ref tb) := f101.keep Kc118 (ninS ne_uB_b94 nin0)
  have f127 : Fld Z T118.heap uS "org/everroll/Fill$Side" "text" "Ljava/lang/String;" (.ref ts) := f102.keep Kc118 (ninS ne_uS_b94 nin0)
  have f128 : Exa Z T118.heap tb "java/lang/String" := f103.keep Kc118
  have f129 : Exa Z T118.heap ts "java/lang/String" := f104.keep Kc118
  have f130 : Fld Z T118.heap tb "java/lang/String" "coder" "B" (.int (0 : Int32)) := f105.keep Kc118 (ninS ne_tb_b94 nin0)
  have f131 : Fld Z T118.heap ts "java/lang/String" "coder" "B" (.int (0 : Int32)) := f106.keep Kc118 (ninS ne_ts_b94 nin0)
  have f132 : Fld Z T118.heap tb "java/lang/String" "value" "[B" (.ref vb) := f107.keep Kc118 (ninS ne_tb_b94 nin0)
  have f133 : Fld Z T118.heap ts "java/lang/String" "value" "[B" (.ref vv) := f108.keep Kc118 (ninS ne_ts_b94 nin0)
  have f134 : Arv Z T118.heap vb k_vb .byte (3 : Int32) [(.int (98 : Int32)), (.int (117 : Int32)), (.int (121 : Int32))] (.int (0 : Int32)) := f109.keep Kc118 (ninS ne_vb_b94 nin0)
  have f135 : Arv Z T118.heap vv k_vv .byte (4 : Int32) [(.int (115 : Int32)), (.int (101 : Int32)), (.int (108 : Int32)), (.int (108 : Int32))] (.int (0 : Int32)) := f110.keep Kc118 (ninS ne_vv_b94 nin0)
  have f136 : Sta Z T118.heap "org/everroll/Fill$Side" "BUY" "Lorg/everroll/Fill$Side;" (.ref uB) := own_sta_keep f111 Kc118 (allS (own_plain_cell A94) all0)
  have f137 : Sta Z T118.heap "org/everroll/Fill$Side" "SELL" "Lorg/everroll/Fill$Side;" (.ref uS) := own_sta_keep f112 Kc118 (allS (own_plain_cell A94) all0)
  have f138 : Exa Z T118.heap b1 "[C" := f113.keep Kc118
  have f139 : Arv Z T118.heap b1 k1 .char (3 : Int32) [(.int (98 : Int32)), (.int (117 : Int32)), (.int (121 : Int32))] (.int (0 : Int32)) := f114.keep Kc118 (ninS ne_b1_b94 nin0)
  have f140 : Fld Z T118.heap b94 "java/lang/String" "coder" "B" (.int (0 : Int32)) := fq118_1
  have f141 : Fld Z T118.heap b94 "java/lang/String" "value" "[B" (.ref b118_1) := fq118_2
  have f142 : Arv Z T118.heap b118_1 k118_2 .byte (3 : Int32) [(.int (98 : Int32)), (.int (117 : Int32)), (.int (121 : Int32))] (.int (0 : Int32)) := fq118_4
  have Zs143 : n0 ≤ T118.heap.size := Nat.le_trans Zs115 Kc118.1
  have N119 := Fr.app N92 Nq118
  obtain ⟨_, _, ⟨T144, L144, k144, n144⟩, -, X144, ⟨Lc144, hQ144, l144, y144, z144⟩, st144⟩ := Jvm.LawKit.callS X118 hx (y := (⟨"org/everroll/Fill$Side", "named", "(Ljava/lang/String;)Lorg/everroll/Fill$Side;"⟩ : MethodName)) hown (mvT hZ (hw _ (List.mem_of_getElem? (i := 30) rfl))) (mvT hZ (hw _ (List.mem_of_getElem? (i := 31) rfl))) (mvT hZ (hw _ (List.mem_of_getElem? (i := 32) rfl))) (mvT hZ (hw _ (List.mem_of_getElem? (i := 33) rfl))) (by decide) (backOf (W := 0) (rm_namB l Z a0 hw [] b94 sc va uB uS tb ts vb vv k_va k_vb k_vv b118_1 k118_2 T118.heap n0 Zs143 f120 hsc f121 f122 f123 f124 f125 f126 f127 f128 f129 f130 f131 f132 f133 f134 f135 fq118_0 f140 f141 f142 ne_tb_b94) hZ (hw _ (List.mem_of_getElem? (i := 33) rfl)) (hw _ (List.mem_of_getElem? (i := 32) rfl)) (by decide) (by decide)) (g := (mkF m 71 #[.val (.int p1), .val (.int (1 : Int32)), .val (.ref b1), .val (.ref b94), .unset] [(.ref b94)])) rfl (by rw [hml]; rfl) (argsL := [(.ref b94)]) (rest := []) (lenOf pd_8 rfl) rfl (by show 2 * 0 + _ ≤ _; exact Nat.le_of_eq rfl) (hb hby at_71) (fun _ _ => ⟨rfl, rfl, (by decide : 3 + 1 ≤ _), (by decide : 10 + 2 ≤ _)⟩)
  dsimp only [Pt.U, Pt.locs, Pt.cells, Pt.slots] at X144 l144 y144 z144 st144 hQ144
  subst l144 y144 z144
  obtain ⟨rfl, Nq144, Kc144⟩ := hQ144
  have f146 : Sta Z T144.heap "java/lang/String" "COMPACT_STRINGS" "Z" (.int sc) := own_sta_keep f120 Kc144 all0
  have f147 : Sta Z T144.heap "org/everroll/Fill$Side" "$VALUES" "[Lorg/everroll/Fill$Side;" (.ref va) := own_sta_keep f121 Kc144 all0
  have f148 : Exa Z T144.heap va "[Lorg/everroll/Fill$Side;" := f122.keep Kc144
  have f149 : Arv Z T144.heap va k_va (.object "org/everroll/Fill$Side") (2 : Int32) [(.ref uB), (.ref uS)] .null := f123.keep Kc144 nin0
  have f150 : Exa Z T144.heap uB "org/everroll/Fill$Side" := f124.keep Kc144
  have f151 : Exa Z T144.heap uS "org/everroll/Fill$Side" := f125.keep Kc144
  have f152 : Fld Z T144.heap uB "org/everroll/Fill$Side" "text" "Ljava/lang/String;" (.ref tb) := f126.keep Kc144 nin0
  have f153 : Fld Z T144.heap uS "org/everroll/Fill$Side" "text" "Ljava/lang/String;" (.ref ts) := f127.keep Kc144 nin0
  have f154 : Exa Z T144.heap tb "java/lang/String" := f128.keep Kc144
  have f155 : Exa Z T144.heap ts "java/lang/String" := f129.keep Kc144
  have f156 : Fld Z T144.heap tb "java/lang/String" "coder" "B" (.int (0 : Int32)) := f130.keep Kc144 nin0
  have f157 : Fld Z T144.heap ts "java/lang/String" "coder" "B" (.int (0 : Int32)) := f131.keep Kc144 nin0
  have f158 : Fld Z T144.heap tb "java/lang/String" "value" "[B" (.ref vb) := f132.keep Kc144 nin0
  have f159 : Fld Z T144.heap ts "java/lang/String" "value" "[B" (.ref vv) := f133.keep Kc144 nin0
  have f160 : Arv Z T144.heap vb k_vb .byte (3 : Int32) [(.int (98 : Int32)), (.int (117 : Int32)), (.int (121 : Int32))] (.int (0 : Int32)) := f134.keep Kc144 nin0
  have f161 : Arv Z T144.heap vv k_vv .byte (4 : Int32) [(.int (115 : Int32)), (.int (101 : Int32)), (.int (108 : Int32)), (.int (108 : Int32))] (.int (0 : Int32)) := f135.keep Kc144 nin0
  have f162 : Sta Z T144.heap "org/everroll/Fill$Side" "BUY" "Lorg/everroll/Fill$Side;" (.ref uB) := own_sta_keep f136 Kc144 all0
  have f163 : Sta Z T144.heap "org/everroll/Fill$Side" "SELL" "Lorg/everroll/Fill$Side;" (.ref uS) := own_sta_keep f137 Kc144 all0
  have f164 : Exa Z T144.heap b1 "[C" := f138.keep Kc144
  have f165 : Arv Z T144.heap b1 k1 .char (3 : Int32) [(.int (98 : Int32)), (.int (117 : Int32)), (.int (121 : Int32))] (.int (0 : Int32)) := f139.keep Kc144 nin0
  have f166 : Exa Z T144.heap b94 "java/lang/String" := fq118_0.keep Kc144
  have f167 : Fld Z T144.heap b94 "java/lang/String" "coder" "B" (.int (0 : Int32)) := f140.keep Kc144 nin0
  have f168 : Fld Z T144.heap b94 "java/lang/String" "value" "[B" (.ref b118_1) := f141.keep Kc144 nin0
  have f169 : Exa Z T144.heap b118_1 "[B" := fq118_3.keep Kc144
  have f170 : Arv Z T144.heap b118_1 k118_2 .byte (3 : Int32) [(.int (98 : Int32)), (.int (117 : Int32)), (.int (121 : Int32))] (.int (0 : Int32)) := f142.keep Kc144 nin0
  have Zs171 : n0 ≤ T144.heap.size := Nat.le_trans Zs143 Kc144.1
  have N145 := Fr.app N119 Nq144
  obtain ⟨T172, X172, e172, st172⟩ := getS2 X144 hx hZ hown (host := "") (Or.inl (hw _ (List.mem_of_getElem? (i := 64) rfl))) Via.refl rfl f162 (g := (mkF m 82 #[.val (.int p1), .val (.int (1 : Int32)), .val (.ref b1), .val (.ref b94), .val (.ref uB)] [(.ref uB)])) rfl (hb hby at_82)
  obtain ⟨fs, hr, hrun, hended, hW, hsame⟩ := X172.leave (v := some (.int (1 : Int32))) (fun h => by rw [Bd.returns] at h; cases h) Bd.notSynchronized
  refine ⟨_, _, pre0 _ ?_, hrun, hended, _, _, rfl, ?_, ⟨_, rfl⟩, hW, hsame.mono (by decide) (by decide)⟩
  · show Steps p.tables e below (s₁.setTop (mkF m 0 #[.val (.int p1), .unset, .unset, .unset, .unset] [])) _
    refine XS.iloadN X0.here hx rfl (hb hby at_0) rfl ?_
    show Steps p.tables e below (s₁.setTop (mkF m 1 #[.val (.int p1), .unset, .unset, .unset, .unset] [(.int p1)])) _
    refine XS.iconst X0.here hx rfl (hb hby at_1) ?_
    show Steps p.tables e below (s₁.setTop (mkF m 2 #[.val (.int p1), .unset, .unset, .unset, .unset] [(.int (1 : Int32)), (.int p1)])) _
    refine XS.iand X0.here hx rfl (hb hby at_2) rfl ?_
    show Steps p.tables e below (s₁.setTop (mkF m 3 #[.val (.int p1), .unset, .unset, .unset, .unset] [(.int (p1 &&& (1 : Int32)))])) _
    refine XS.ifNo X0.here hx rfl (hb hby at_3) rfl ((if0 _ _).trans (feq hc0).1) ?_
    show Steps p.tables e below (s₁.setTop (mkF m 6 #[.val (.int p1), .unset, .unset, .unset, .unset] [])) _
    refine XS.iconst X0.here hx rfl (hb hby at_6) ?_
    show Steps p.tables e below (s₁.setTop (mkF m 7 #[.val (.int p1), .unset, .unset, .unset, .unset] [(.int (1 : Int32))])) _
    refine XS.goto X0.here hx rfl (pc0 := 7) (pc' := 11) rfl (hb hby at_7) (by decide) (by decide) ?_
    show Steps p.tables e below (s₁.setTop (mkF m 11 #[.val (.int p1), .unset, .unset, .unset, .unset] [(.int (1 : Int32))])) _
    refine XS.istoreN X0.here hx rfl (hb hby at_11) rfl (l' := #[.val (.int p1), .val (.int (1 : Int32)), .unset, .unset, .unset]) rfl ?_
    show Steps p.tables e below (s₁.setTop (mkF m 12 #[.val (.int p1), .val (.int (1 : Int32)), .unset, .unset, .unset] [])) _
    refine XS.iloadN X0.here hx rfl (hb hby at_12) rfl ?_
    show Steps p.tables e below (s₁.setTop (mkF m 13 #[.val (.int p1), .val (.int (1 : Int32)), .unset, .unset, .unset] [(.int (1 : Int32))])) _
    refine XS.ifNo X0.here hx rfl (hb hby at_13) rfl ((if0 _ _).trans (feq (by decide : ¬ ((1 : Int32) = (0 : Int32)))).1) ?_
    show Steps p.tables e below (s₁.setTop (mkF m 16 #[.val (.int p1), .val (.int (1 : Int32)), .unset, .unset, .unset] [])) _
    refine XS.iconst X0.here hx rfl (hb hby at_16) ?_
    show Steps p.tables e below (s₁.setTop (mkF m 17 #[.val (.int p1), .val (.int (1 : Int32)), .unset, .unset, .unset] [(.int (3 : Int32))])) _
    refine st1 _ ?_
    show Steps p.tables e below (T1.setTop (mkF m 19 #[.val (.int p1), .val (.int (1 : Int32)), .unset, .unset, .unset] [(.ref b1)])) _
    refine XS.dup X1.here hx rfl (hb hby at_19) rfl rfl ?_
    show Steps p.tables e below (T1.setTop (mkF m 20 #[.val (.int p1), .val (.int (1 : Int32)), .unset, .unset, .unset] [(.ref b1), (.ref b1)])) _
    refine XS.iconst X1.here hx rfl (hb hby at_20) ?_
    show Steps p.tables e below (T1.setTop (mkF m 21 #[.val (.int p1), .val (.int (1 : Int32)), .unset, .unset, .unset] [(.int (0 : Int32)), (.ref b1), (.ref b1)])) _
    refine XS.bipush X1.here hx rfl (hb hby at_21) ?_
    show Steps p.tables e below (T1.setTop (mkF m 23 #[.val (.int p1), .val (.int (1 : Int32)), .unset, .unset, .unset] [(.int (98 : Int32)), (.int (0 : Int32)), (.ref b1), (.ref b1)])) _
    refine st23 _ ?_
    show Steps p.tables e below (T23.setTop (mkF m 24 #[.val (.int p1), .val (.int (1 : Int32)), .unset, .unset, .unset] [(.ref b1)])) _
    refine XS.dup X23.here hx rfl (hb hby at_24) rfl rfl ?_
    show Steps p.tables e below (T23.setTop (mkF m 25 #[.val (.int p1), .val (.int (1 : Int32)), .unset, .unset, .unset] [(.ref b1), (.ref b1)])) _
    refine XS.iconst X23.here hx rfl (hb hby at_25) ?_
    show Steps p.tables e below (T23.setTop (mkF m 26 #[.val (.int p1), .val (.int (1 : Int32)), .unset, .unset, .unset] [(.int (1 : Int32)), (.ref b1), (.ref b1)])) _
    refine XS.bipush X23.here hx rfl (hb hby at_26) ?_
    show Steps p.tables e below (T23.setTop (mkF m 28 #[.val (.int p1), .val (.int (1 : Int32)), .unset, .unset, .unset] [(.int (117 : Int32)), (.int (1 : Int32)), (.ref b1), (.ref b1)])) _
    refine st47 _ ?_
    show Steps p.tables e below (T47.setTop (mkF m 29 #[.val (.int p1), .val (.int (1 : Int32)), .unset, .unset, .unset] [(.ref b1)])) _
    refine XS.dup X47.here hx rfl (hb hby at_29) rfl rfl ?_
    show Steps p.tables e below (T47.setTop (mkF m 30 #[.val (.int p1), .val (.int (1 : Int32)), .unset, .unset, .unset] [(.ref b1), (.ref b1)])) _
    refine XS.iconst X47.here hx rfl (hb hby at_30) ?_
    show Steps p.tables e below (T47.setTop (mkF m 31 #[.val (.int p1), .val (.int (1 : Int32)), .unset, .unset, .unset] [(.int (2 : Int32)), (.ref b1), (.ref b1)])) _
    refine XS.bipush X47.here hx rfl (hb hby at_31) ?_
    show Steps p.tables e below (T47.setTop (mkF m 33 #[.val (.int p1), .val (.int (1 : Int32)), .unset, .unset, .unset] [(.int (121 : Int32)), (.int (2 : Int32)), (.ref b1), (.ref b1)])) _
    refine st71 _ ?_
    show Steps p.tables e below (T71.setTop (mkF m 34 #[.val (.int p1), .val (.int (1 : Int32)), .unset, .unset, .unset] [(.ref b1)])) _
    refine XS.goto X71.here hx rfl (pc0 := 34) (pc' := 60) rfl (hb hby at_34) (by decide) (by decide) ?_
    show Steps p.tables e below (T71.setTop (mkF m 60 #[.val (.int p1), .val (.int (1 : Int32)), .unset, .unset, .unset] [(.ref b1)])) _
    refine XS.astoreN X71.here hx rfl (hb hby at_60) rfl rfl (l' := #[.val (.int p1), .val (.int (1 : Int32)), .val (.ref b1), .unset, .unset]) rfl ?_
    show Steps p.tables e below (T71.setTop (mkF m 61 #[.val (.int p1), .val (.int (1 : Int32)), .val (.ref b1), .unset, .unset] [])) _
    refine st94 _ ?_
    show Steps p.tables e below (T94.setTop (mkF m 64 #[.val (.int p1), .val (.int (1 : Int32)), .val (.ref b1), .unset, .unset] [(.ref b94)])) _
    refine XS.dup X94.here hx rfl (hb hby at_64) rfl rfl ?_
    show Steps p.tables e below (T94.setTop (mkF m 65 #[.val (.int p1), .val (.int (1 : Int32)), .val (.ref b1), .unset, .unset] [(.ref b94), (.ref b94)])) _
    refine XS.aloadN X94.here hx rfl (hb hby at_65) rfl rfl ?_
    show Steps p.tables e below (T94.setTop (mkF m 66 #[.val (.int p1), .val (.int (1 : Int32)), .val (.ref b1), .unset, .unset] [(.ref b1), (.ref b94), (.ref b94)])) _
    refine st118.trans ?_
    show Steps p.tables e below (T118.setTop (mkF m 69 #[.val (.int p1), .val (.int (1 : Int32)), .val (.ref b1), .unset, .unset] [(.ref b94)])) _
    refine XS.astoreN X118.here hx rfl (hb hby at_69) rfl rfl (l' := #[.val (.int p1), .val (.int (1 : Int32)), .val (.ref b1), .val (.ref b94), .unset]) rfl ?_
    show Steps p.tables e below (T118.setTop (mkF m 70 #[.val (.int p1), .val (.int (1 : Int32)), .val (.ref b1), .val (.ref b94), .unset] [])) _
    refine XS.aloadN X118.here hx rfl (hb hby at_70) rfl rfl ?_
    show Steps p.tables e below (T118.setTop (mkF m 71 #[.val (.int p1), .val (.int (1 : Int32)), .val (.ref b1), .val (.ref b94), .unset] [(.ref b94)])) _
    refine st144 _ ?_
    show Steps p.tables e below (T144.setTop (mkF m 74 #[.val (.int p1), .val (.int (1 : Int32)), .val (.ref b1), .val (.ref b94), .unset] [(.ref uB)])) _
    refine XS.astore X144.here hx rfl (hb hby at_74) rfl rfl (l' := #[.val (.int p1), .val (.int (1 : Int32)), .val (.ref b1), .val (.ref b94), .val (.ref uB)]) rfl ?_
    show Steps p.tables e below (T144.setTop (mkF m 76 #[.val (.int p1), .val (.int (1 : Int32)), .val (.ref b1), .val (.ref b94), .val (.ref uB)] [])) _
    refine XS.iloadN X144.here hx rfl (hb hby at_76) rfl ?_
    show Steps p.tables e below (T144.setTop (mkF m 77 #[.val (.int p1), .val (.int (1 : Int32)), .val (.ref b1), .val (.ref b94), .val (.ref uB)] [(.int (1 : Int32))])) _
    refine XS.ifNo X144.here hx rfl (hb hby at_77) rfl ((if0 _ _).trans (feq (by decide : ¬ ((1 : Int32) = (0 : Int32)))).1) ?_
    show Steps p.tables e below (T144.setTop (mkF m 80 #[.val (.int p1), .val (.int (1 : Int32)), .val (.ref b1), .val (.ref b94), .val (.ref uB)] [])) _
    refine XS.aload X144.here hx rfl (hb hby at_80) rfl rfl ?_
    show Steps p.tables e below (T144.setTop (mkF m 82 #[.val (.int p1), .val (.int (1 : Int32)), .val (.ref b1), .val (.ref b94), .val (.ref uB)] [(.ref uB)])) _
    refine st172 _ ?_
    show Steps p.tables e below (T172.setTop (mkF m 85 #[.val (.int p1), .val (.int (1 : Int32)), .val (.ref b1), .val (.ref b94), .val (.ref uB)] [(.ref uB), (.ref uB)])) _
    refine Jvm.RoadKit.acmp (g := (mkF m 85 #[.val (.int p1), .val (.int (1 : Int32)), .val (.ref b1), .val (.ref b94), .val (.ref uB)] [(.ref uB), (.ref uB)])) X172 hx rfl rfl rfl (pc0 := 85) (pc' := 88) (same := true) rfl (hb hby at_85) rfl (decide_eq_true rfl) (by decide) (by decide) ?_
    show Steps p.tables e below (T172.setTop (mkF m 88 #[.val (.int p1), .val (.int (1 : Int32)), .val (.ref b1), .val (.ref b94), .val (.ref uB)] [])) _
    refine XS.iconst X172.here hx rfl (hb hby at_88) ?_
    show Steps p.tables e below (T172.setTop (mkF m 89 #[.val (.int p1), .val (.int (1 : Int32)), .val (.ref b1), .val (.ref b94), .val (.ref uB)] [(.int (1 : Int32))])) _
    refine XS.goto X172.here hx rfl (pc0 := 89) (pc' := 93) rfl (hb hby at_89) (by decide) (by decide) ?_
    show Steps p.tables e below (T172.setTop (mkF m 93 #[.val (.int p1), .val (.int (1 : Int32)), .val (.ref b1), .val (.ref b94), .val (.ref uB)] [(.int (1 : Int32))])) _
    exact retN X172 hx (t := .boolean) Bd.returns (by simp) (hb hby at_93) hr
  · show Q_law Z p1 sc va uB uS tb ts vb vv k_va k_vb k_vv h0 n0 _ T172.heap _
    rw [e172]
    exact ⟨rfl, N145⟩
def Road_sell (Z : State) (h0 : Heap) (p1 : Int32) (sc : Int32) (va : Addr) (uB : Addr) (uS : Addr) (tb : Addr) (ts : Addr) (vb : Addr) (vv : Addr) (k_va : ClassId) (k_vb : ClassId) (k_vv : ClassId) : Prop := (Sta Z h0 "java/lang/String" "COMPACT_STRINGS" "Z" (.int sc)) ∧ (¬ (sc = (0 : Int32))) ∧ (Sta Z h0 "org/everroll/Fill$Side" "$VALUES" "[Lorg/everroll/Fill$Side;" (.ref va)) ∧ (Exa Z h0 va "[Lorg/everroll/Fill$Side;") ∧ (Arv Z h0 va k_va (.object "org/everroll/Fill$Side") (2 : Int32) [(.ref uB), (.ref uS)] .null) ∧ (Exa Z h0 uB "org/everroll/Fill$Side") ∧ (Exa Z h0 uS "org/everroll/Fill$Side") ∧ (Fld Z h0 uB "org/everroll/Fill$Side" "text" "Ljava/lang/String;" (.ref tb)) ∧ (Fld Z h0 uS "org/everroll/Fill$Side" "text" "Ljava/lang/String;" (.ref ts)) ∧ (Exa Z h0 tb "java/lang/String") ∧ (Exa Z h0 ts "java/lang/String") ∧ (Fld Z h0 tb "java/lang/String" "coder" "B" (.int (0 : Int32))) ∧ (Fld Z h0 ts "java/lang/String" "coder" "B" (.int (0 : Int32))) ∧ (Fld Z h0 tb "java/lang/String" "value" "[B" (.ref vb)) ∧ (Fld Z h0 ts "java/lang/String" "value" "[B" (.ref vv)) ∧ (Arv Z h0 vb k_vb .byte (3 : Int32) [(.int (98 : Int32)), (.int (117 : Int32)), (.int (121 : Int32))] (.int (0 : Int32))) ∧ (Arv Z h0 vv k_vv .byte (4 : Int32) [(.int (115 : Int32)), (.int (101 : Int32)), (.int (108 : Int32)), (.int (108 : Int32))] (.int (0 : Int32))) ∧ (Sta Z h0 "org/everroll/Fill$Side" "BUY" "Lorg/everroll/Fill$Side;" (.ref uB)) ∧ (Sta Z h0 "org/everroll/Fill$Side" "SELL" "Lorg/everroll/Fill$Side;" (.ref uS)) ∧ ((p1 &&& (1 : Int32)) = (0 : Int32))
set_option maxRecDepth 65536 in
set_option maxHeartbeats 40000000 in
theorem rm_law_sell (l : Launch) (Z : State) (a0 : Array Value) (hw : ∀ d ∈ tables_1, d.before a0 Z = true) (ws : List Jvm.Cond) (p1 : Int32) (sc : Int32) (va : Addr) (uB : Addr) (uS : Addr) (tb : Addr) (ts : Addr) (vb : Addr) (vv : Addr) (k_va : ClassId) (k_vb : ClassId) (k_vv : ClassId) (h0 : Heap) (n0 : Nat) (Z0 : n0 ≤ h0.size) (hroad : Road_sell Z h0 p1 sc va uB uS tb ts vb vv k_va k_vb k_vv) :
    MetFree l x (head1 (Jvm.Cond.code x code maxLocals ret :: ws) room_1) (fun a U => a = #[(.int p1)] ∧ Z.Warmed39 U.vm ∧ U.heap = h0) (fun _ _ _ _ _ => True) (fun _ U o U' => ∃ v L, o = .returned v ∧ Q_law Z p1 sc va uB uS tb ts vb vv k_va k_vb k_vv h0 n0 v U'.heap L ∧ FrameEnd U o U' L room_1.cells room_1.slots) := by
  obtain ⟨S_COMPACT_STRINGS, hsc, S__VALUES, E_va, V_va, E_uB, E_uS, F_text_uB, F_text_uS, E_tb, E_ts, F_coder_tb, F_coder_ts, F_value_tb, F_value_ts, V_vb, V_vv, S_BUY, S_SELL, hc0⟩ := hroad
  refine MetFree.of_bodySF (plainFor_of_name pn_org_everroll_SideNamedPinLaw) hisR ?_
  intro p e s m args below meth c s₁ Bd hml0 hP hK
  obtain ⟨rfl, hZ, hh⟩ := hP
  have hx := Bd.exec
  have hby := Bd.bytes
  have hml : c.maxLocals = 5 := hml0
  have hown : s.vm.findClass "org/everroll/SideNamedPinLaw" = some m.cls := findClass_of_methodNamed Bd.named
  have hnm := (name_of_methodNamed Bd.named Bd.method).1
  have X0 : Stand p l e room_1 s m #[(.int p1)] below meth c s₁ [] 0 0 := Stand.of_body Bd
  have e0 : s₁.heap = h0 := by rw [← hh, Bd.state]; rfl
  have N0 := Fr.nil n0
  have pre0 : ∀ t, Steps p.tables e below (s₁.setTop (mkF m 0 #[.val (.int p1), .unset, .unset, .unset, .unset] [])) t → Steps p.tables e below (s₁.setTop (entryFrame m #[(.int p1)] maxLocals)) t := fun t k => castTop (ef_0_I m p1) k
  obtain ⟨T1, h1, k1, X1, e1, E1, A1, Ex1, st1⟩ := newPE X0 hx hZ (hw _ (List.mem_of_getElem? (i := 0) rfl)) e0 (g := (mkF m 38 #[.val (.int p1), .val (.int (0 : Int32)), .unset, .unset, .unset] [(.int (4 : Int32))])) rfl (hb hby at_38) rfl (by decide) (cap := 4) (by decide) (by decide) (by decide) (by decide) (ad := "[C") (by decide)
  obtain ⟨b1, g1⟩ : ∃ z, z = h0.size := ⟨_, rfl⟩
  rw [← g1] at A1 Ex1 st1
  have g_b1 : n0 ≤ b1 := Nat.le_trans Z0 (Nat.le_of_eq g1.symm)
  have ne_va_b1 : va ≠ b1 := Nat.ne_of_lt (Nat.lt_of_lt_of_le E_va.lt (Nat.le_of_eq g1.symm))
  have ne_uB_b1 : uB ≠ b1 := Nat.ne_of_lt (Nat.lt_of_lt_of_le E_uB.lt (Nat.le_of_eq g1.symm))
  have ne_uS_b1 : uS ≠ b1 := Nat.ne_of_lt (Nat.lt_of_lt_of_le E_uS.lt (Nat.le_of_eq g1.symm))
  have ne_tb_b1 : tb ≠ b1 := Nat.ne_of_lt (Nat.lt_of_lt_of_le E_tb.lt (Nat.le_of_eq g1.symm))
  have ne_ts_b1 : ts ≠ b1 := Nat.ne_of_lt (Nat.lt_of_lt_of_le E_ts.lt (Nat.le_of_eq g1.symm))
  have ne_vb_b1 : vb ≠ b1 := Nat.ne_of_lt (Nat.lt_of_lt_of_le V_vb.lt (Nat.le_of_eq g1.symm))
  have ne_vv_b1 : vv ≠ b1 := Nat.ne_of_lt (Nat.lt_of_lt_of_le V_vv.lt (Nat.le_of_eq g1.symm))
  have ne_va_uB : va ≠ uB := ne_exa E_va E_uB (by decide)
  have ne_va_uS : va ≠ uS := ne_exa E_va E_uS (by decide)
  have ne_va_tb : va ≠ tb := ne_exa E_va E_tb (by decide)
  have ne_va_ts : va ≠ ts := ne_exa E_va E_ts (by decide)
  have ne_uB_tb : uB ≠ tb := ne_exa E_uB E_tb (by decide)
  have ne_uB_ts : uB ≠ ts := ne_exa E_uB E_ts (by decide)
  have ne_uS_tb : uS ≠ tb := ne_exa E_uS E_tb (by decide)
  have ne_uS_ts : uS ≠ ts := ne_exa E_uS E_ts (by decide)
  have f2 : Sta Z h1 "java/lang/String" "COMPACT_STRINGS" "Z" (.int sc) := S_COMPACT_STRINGS.ext E1
  have f3 : Sta Z h1 "org/everroll/Fill$Side" "$VALUES" "[Lorg/everroll/Fill$Side;" (.ref va) := S__VALUES.ext E1
  have f4 : Exa Z h1 va "[Lorg/everroll/Fill$Side;" := E_va.ext E1
  have f5 : Arv Z h1 va k_va (.object "org/everroll/Fill$Side") (2 : Int32) [(.ref uB), (.ref uS)] .null := V_va.ext E1
  have f6 : Exa Z h1 uB "org/everroll/Fill$Side" := E_uB.ext E1
  have f7 : Exa Z h1 uS "org/everroll/Fill$Side" := E_uS.ext E1
  have f8 : Fld Z h1 uB "org/everroll/Fill$Side" "text" "Ljava/lang/String;" (.ref tb) := F_text_uB.ext E1
  have f9 : Fld Z h1 uS "org/everroll/Fill$Side" "text" "Ljava/lang/String;" (.ref ts) := F_text_uS.ext E1
  have f10 : Exa Z h1 tb "java/lang/String" := E_tb.ext E1
  have f11 : Exa Z h1 ts "java/lang/String" := E_ts.ext E1
  have f12 : Fld Z h1 tb "java/lang/String" "coder" "B" (.int (0 : Int32)) := F_coder_tb.ext E1
  have f13 : Fld Z h1 ts "java/lang/String" "coder" "B" (.int (0 : Int32)) := F_coder_ts.ext E1
  have f14 : Fld Z h1 tb "java/lang/String" "value" "[B" (.ref vb) := F_value_tb.ext E1
  have f15 : Fld Z h1 ts "java/lang/String" "value" "[B" (.ref vv) := F_value_ts.ext E1
  have f16 : Arv Z h1 vb k_vb .byte (3 : Int32) [(.int (98 : Int32)), (.int (117 : Int32)), (.int (121 : Int32))] (.int (0 : Int32)) := V_vb.ext E1
  have f17 : Arv Z h1 vv k_vv .byte (4 : Int32) [(.int (115 : Int32)), (.int (101 : Int32)), (.int (108 : Int32)), (.int (108 : Int32))] (.int (0 : Int32)) := V_vv.ext E1
  have f18 : Sta Z h1 "org/everroll/Fill$Side" "BUY" "Lorg/everroll/Fill$Side;" (.ref uB) := S_BUY.ext E1
  have f19 : Sta Z h1 "org/everroll/Fill$Side" "SELL" "Lorg/everroll/Fill$Side;" (.ref uS) := S_SELL.ext E1
  have Zs20 : n0 ≤ h1.size := Nat.le_trans Z0 E1.1
  have f21 : Arv Z h1 b1 k1 .char (4 : Int32) [(.int (0 : Int32)), (.int (0 : Int32)), (.int (0 : Int32)), (.int (0 : Int32))] (.int (0 : Int32)) := (Arv.new A1 (by decide)).pad (pad_rep [] (.int (0 : Int32)) 4)
  obtain ⟨clo22, Aro22, qo22, So22, No22, Ho22, Go22⟩ := id f21
  have hino22 : ¬ ((0 : Int32) < 0 ∨ clo22.slots.size ≤ ((0 : Int32)).toNatClampNeg) := inb_of So22 ⟨by decide, by decide⟩
  obtain ⟨T23, h23, X23, e23, W23, st23⟩ := stC X1 hx hZ e1 Aro22 (j := (0 : Int32)) hino22 (g := (mkF m 44 #[.val (.int p1), .val (.int (0 : Int32)), .unset, .unset, .unset] [(.int (115 : Int32)), (.int (0 : Int32)), (.ref b1), (.ref b1)])) rfl rfl (hb hby at_44)
  have f24 : Arv Z h23 b1 k1 .char (4 : Int32) [(.int (115 : Int32)), (.int (0 : Int32)), (.int (0 : Int32)), (.int (0 : Int32))] (.int (0 : Int32)) := Arv.set Aro22 qo22 So22 No22 Ho22 Go22 (fits_nar_char _) W23 0 rfl (by decide)
  have f25 : Sta Z h23 "java/lang/String" "COMPACT_STRINGS" "Z" (.int sc) := f2.wr W23
  have f26 : Sta Z h23 "org/everroll/Fill$Side" "$VALUES" "[Lorg/everroll/Fill$Side;" (.ref va) := f3.wr W23
  have f27 : Exa Z h23 va "[Lorg/everroll/Fill$Side;" := f4.wr W23
  have f28 : Arv Z h23 va k_va (.object "org/everroll/Fill$Side") (2 : Int32) [(.ref uB), (.ref uS)] .null := f5.other W23 ne_va_b1
  have f29 : Exa Z h23 uB "org/everroll/Fill$Side" := f6.wr W23
  have f30 : Exa Z h23 uS "org/everroll/Fill$Side" := f7.wr W23
  have f31 : Fld Z h23 uB "org/everroll/Fill$Side" "text" "Ljava/lang/String;" (.ref tb) := f8.other W23 (Or.inl ne_uB_b1)
  have f32 : Fld Z h23 uS "org/everroll/Fill$Side" "text" "Ljava/lang/String;" (.ref ts) := f9.other W23 (Or.inl ne_uS_b1)
  have f33 : Exa Z h23 tb "java/lang/String" := f10.wr W23
  have f34 : Exa Z h23 ts "java/lang/String" := f11.wr W23
  have f35 : Fld Z h23 tb "java/lang/String" "coder" "B" (.int (0 : Int32)) := f12.other W23 (Or.inl ne_tb_b1)
  have f36 : Fld Z h23 ts "java/lang/String" "coder" "B" (.int (0 : Int32)) := f13.other W23 (Or.inl ne_ts_b1)
  have f37 : Fld Z h23 tb "java/lang/String" "value" "[B" (.ref vb) := f14.other W23 (Or.inl ne_tb_b1)
  have f38 : Fld Z h23 ts "java/lang/String" "value" "[B" (.ref vv) := f15.other W23 (Or.inl ne_ts_b1)
  have f39 : Arv Z h23 vb k_vb .byte (3 : Int32) [(.int (98 : Int32)), (.int (117 : Int32)), (.int (121 : Int32))] (.int (0 : Int32)) := f16.other W23 ne_vb_b1
  have f40 : Arv Z h23 vv k_vv .byte (4 : Int32) [(.int (115 : Int32)), (.int (101 : Int32)), (.int (108 : Int32)), (.int (108 : Int32))] (.int (0 : Int32)) := f17.other W23 ne_vv_b1
  have f41 : Sta Z h23 "org/everroll/Fill$Side" "BUY" "Lorg/everroll/Fill$Side;" (.ref uB) := f18.wr W23
  have f42 : Sta Z h23 "org/everroll/Fill$Side" "SELL" "Lorg/everroll/Fill$Side;" (.ref uS) := f19.wr W23
  have f43 : Exa Z h23 b1 "[C" := Ex1.wr W23
  have N44 := Fr.snoc X23 N0 g_b1
  have Zs45 : n0 ≤ h23.size := Nat.le_trans Zs20 (Keep.of_wr W23).1
  obtain ⟨clo46, Aro46, qo46, So46, No46, Ho46, Go46⟩ := id f24
  have hino46 : ¬ ((1 : Int32) < 0 ∨ clo46.slots.size ≤ ((1 : Int32)).toNatClampNeg) := inb_of So46 ⟨by decide, by decide⟩
  obtain ⟨T47, h47, X47, e47, W47, st47⟩ := stC X23 hx hZ e23 Aro46 (j := (1 : Int32)) hino46 (g := (mkF m 49 #[.val (.int p1), .val (.int (0 : Int32)), .unset, .unset, .unset] [(.int (101 : Int32)), (.int (1 : Int32)), (.ref b1), (.ref b1)])) rfl rfl (hb hby at_49)
  have f48 : Arv Z h47 b1 k1 .char (4 : Int32) [(.int (115 : Int32)), (.int (101 : Int32)), (.int (0 : Int32)), (.int (0 : Int32))] (.int (0 : Int32)) := Arv.set Aro46 qo46 So46 No46 Ho46 Go46 (fits_nar_char _) W47 1 rfl (by decide)
  have f49 : Sta Z h47 "java/lang/String" "COMPACT_STRINGS" "Z" (.int sc) := f25.wr W47
  have f50 : Sta Z h47 "org/everroll/Fill$Side" "$VALUES" "[Lorg/everroll/Fill$Side;" (.ref va) := f26.wr W47
  have f51 : Exa Z h47 va "[Lorg/everroll/Fill$Side;" := f27.wr W47
  have f52 : Arv Z h47 va k_va (.object "org/everroll/Fill$Side") (2 : Int32) [(.ref uB), (.ref uS)] .null := f28.other W47 ne_va_b1
  have f53 : Exa Z h47 uB "org/everroll/Fill$Side" := f29.wr W47
  have f54 : Exa Z h47 uS "org/everroll/Fill$Side" := f30.wr W47
  have f55 : Fld Z h47 uB "org/everroll/Fill$Side" "text" "Ljava/lang/String;" (.ref tb) := f31.other W47 (Or.inl ne_uB_b1)
  have f56 : Fld Z h47 uS "org/everroll/Fill$Side" "text" "Ljava/lang/String;" (.ref ts) := f32.other W47 (Or.inl ne_uS_b1)
  have f57 : Exa Z h47 tb "java/lang/String" := f33.wr W47
  have f58 : Exa Z h47 ts "java/lang/String" := f34.wr W47
  have f59 : Fld Z h47 tb "java/lang/String" "coder" "B" (.int (0 : Int32)) := f35.other W47 (Or.inl ne_tb_b1)
  have f60 : Fld Z h47 ts "java/lang/String" "coder" "B" (.int (0 : Int32)) := f36.other W47 (Or.inl ne_ts_b1)
  have f61 : Fld Z h47 tb "java/lang/String" "value" "[B" (.ref vb) := f37.other W47 (Or.inl ne_tb_b1)
  have f62 : Fld Z h47 ts "java/lang/String" "value" "[B" (.ref vv) := f38.other W47 (Or.inl ne_ts_b1)
  have f63 : Arv Z h47 vb k_vb .byte (3 : Int32) [(.int (98 : Int32)), (.int (117 : Int32)), (.int (121 : Int32))] (.int (0 : Int32)) := f39.other W47 ne_vb_b1
  have f64 : Arv Z h47 vv k_vv .byte (4 : Int32) [(.int (115 : Int32)), (.int (101 : Int32)), (.int (108 : Int32)), (.int (108 : Int32))] (.int (0 : Int32)) := f40.other W47 ne_vv_b1
  have f65 : Sta Z h47 "org/everroll/Fill$Side" "BUY" "Lorg/everroll/Fill$Side;" (.ref uB) := f41.wr W47
  have f66 : Sta Z h47 "org/everroll/Fill$Side" "SELL" "Lorg/everroll/Fill$Side;" (.ref uS) := f42.wr W47
  have f67 : Exa Z h47 b1 "[C" := f43.wr W47
  have N68 := Fr.snoc X47 N44 g_b1
  have Zs69 : n0 ≤ h47.size := Nat.le_trans Zs45 (Keep.of_wr W47).1
  obtain ⟨clo70, Aro70, qo70, So70, No70, Ho70, Go70⟩ := id f48
  have hino70 : ¬ ((2 : Int32) < 0 ∨ clo70.slots.size ≤ ((2 : Int32)).toNatClampNeg) := inb_of So70 ⟨by decide, by decide⟩
  obtain ⟨T71, h71, X71, e71, W71, st71⟩ := stC X47 hx hZ e47 Aro70 (j := (2 : Int32)) hino70 (g := (mkF m 54 #[.val (.int p1), .val (.int (0 : Int32)), .unset, .unset, .unset] [(.int (108 : Int32)), (.int (2 : Int32)), (.ref b1), (.ref b1)])) rfl rfl (hb hby at_54)
  have f72 : Arv Z h71 b1 k1 .char (4 : Int32) [(.int (115 : Int32)), (.int (101 : Int32)), (.int (108 : Int32)), (.int (0 : Int32))] (.int (0 : Int32)) := Arv.set Aro70 qo70 So70 No70 Ho70 Go70 (fits_nar_char _) W71 2 rfl (by decide)
  have f73 : Sta Z h71 "java/lang/String" "COMPACT_STRINGS" "Z" (.int sc) := f49.wr W71
  have f74 : Sta Z h71 "org/everroll/Fill$Side" "$VALUES" "[Lorg/everroll/Fill$Side;" (.ref va) := f50.wr W71
  have f75 : Exa Z h71 va "[Lorg/everroll/Fill$Side;" := f51.wr W71
  have f76 : Arv Z h71 va k_va (.object "org/everroll/Fill$Side") (2 : Int32) [(.ref uB), (.ref uS)] .null := f52.other W71 ne_va_b1
  have f77 : Exa Z h71 uB "org/everroll/Fill$Side" := f53.wr W71
  have f78 : Exa Z h71 uS "org/everroll/Fill$Side" := f54.wr W71
  have f79 : Fld Z h71 uB "org/everroll/Fill$Side" "text" "Ljava/lang/String;" (.ref tb) := f55.other W71 (Or.inl ne_uB_b1)
  have f80 : Fld Z h71 uS "org/everroll/Fill$Side" "text" "Ljava/lang/String;" (.ref ts) := f56.other W71 (Or.inl ne_uS_b1)
  have f81 : Exa Z h71 tb "java/lang/String" := f57.wr W71
  have f82 : Exa Z h71 ts "java/lang/String" := f58.wr W71
  have f83 : Fld Z h71 tb "java/lang/String" "coder" "B" (.int (0 : Int32)) := f59.other W71 (Or.inl ne_tb_b1)
  have f84 : Fld Z h71 ts "java/lang/String" "coder" "B" (.int (0 : Int32)) := f60.other W71 (Or.inl ne_ts_b1)
  have f85 : Fld Z h71 tb "java/lang/String" "value" "[B" (.ref vb) := f61.other W71 (Or.inl ne_tb_b1)
  have f86 : Fld Z h71 ts "java/lang/String" "value" "[B" (.ref vv) := f62.other W71 (Or.inl ne_ts_b1)
  have f87 : Arv Z h71 vb k_vb .byte (3 : Int32) [(.int (98 : Int32)), (.int (117 : Int32)), (.int (121 : Int32))] (.int (0 : Int32)) := f63.other W71 ne_vb_b1
  have f88 : Arv Z h71 vv k_vv .byte (4 : Int32) [(.int (115 : Int32)), (.int (101 : Int32)), (.int (108 : Int32)), (.int (108 : Int32))] (.int (0 : Int32)) := f64.other W71 ne_vv_b1
  have f89 : Sta Z h71 "org/everroll/Fill$Side" "BUY" "Lorg/everroll/Fill$Side;" (.ref uB) := f65.wr W71
  have f90 : Sta Z h71 "org/everroll/Fill$Side" "SELL" "Lorg/everroll/Fill$Side;" (.ref uS) := f66.wr W71
  have f91 : Exa Z h71 b1 "[C" := f67.wr W71
  have N92 := Fr.snoc X71 N68 g_b1
  have Zs93 : n0 ≤ h71.size := Nat.le_trans Zs69 (Keep.of_wr W71).1
  obtain ⟨clo94, Aro94, qo94, So94, No94, Ho94, Go94⟩ := id f72
  have hino94 : ¬ ((3 : Int32) < 0 ∨ clo94.slots.size ≤ ((3 : Int32)).toNatClampNeg) := inb_of So94 ⟨by decide, by decide⟩
  obtain ⟨T95, h95, X95, e95, W95, st95⟩ := stC X71 hx hZ e71 Aro94 (j := (3 : Int32)) hino94 (g := (mkF m 59 #[.val (.int p1), .val (.int (0 : Int32)), .unset, .unset, .unset] [(.int (108 : Int32)), (.int (3 : Int32)), (.ref b1), (.ref b1)])) rfl rfl (hb hby at_59)
  have f96 : Arv Z h95 b1 k1 .char (4 : Int32) [(.int (115 : Int32)), (.int (101 : Int32)), (.int (108 : Int32)), (.int (108 : Int32))] (.int (0 : Int32)) := Arv.set Aro94 qo94 So94 No94 Ho94 Go94 (fits_nar_char _) W95 3 rfl (by decide)
  have f97 : Sta Z h95 "java/lang/String" "COMPACT_STRINGS" "Z" (.int sc) := f73.wr W95
  have f98 : Sta Z h95 "org/everroll/Fill$Side" "$VALUES" "[Lorg/everroll/Fill$Side;" (.ref va) := f74.wr W95
  have f99 : Exa Z h95 va "[Lorg/everroll/Fill$Side;" := f75.wr W95
  have f100 : Arv Z h95 va k_va (.object "org/everroll/Fill$Side") (2 : Int32) [(.ref uB), (.ref uS)] .null := f76.other W95 ne_va_b1
  have f101 : Exa Z h95 uB "org/everroll/Fill$Side" := f77.wr W95
  have f102 : Exa Z h95 uS "org/everroll/Fill$Side" := f78.wr W95
  have f103 : Fld Z h95 uB "org/everroll/Fill$Side" "text" "Ljava/lang/String;" (.ref tb) := f79.other W95 (Or.inl ne_uB_b1)
  have f104 : Fld Z h95 uS "org/everroll/Fill$Side" "text" "Ljava/lang/String;" (.ref ts) := f80.other W95 (Or.inl ne_uS_b1)
  have f105 : Exa Z h95 tb "java/lang/String" := f81.wr W95
  have f106 : Exa Z h95 ts "java/lang/String" := f82.wr W95
  have f107 : Fld Z h95 tb "java/lang/String" "coder" "B" (.int (0 : Int32)) := f83.other W95 (Or.inl ne_tb_b1)
  have f108 : Fld Z h95 ts "java/lang/String" "coder" "B" (.int (0 : Int32)) := f84.other W95 (Or.inl ne_ts_b1)
  have f109 : Fld Z h95 tb "java/lang/String" "value" "[B" (.ref vb) := f85.other W95 (Or.inl ne_tb_b1)
  have f110 : Fld Z h95 ts "java/lang/String" "value" "[B" (.ref vv) := f86.other W95 (Or.inl ne_ts_b1)
  have f111 : Arv Z h95 vb k_vb .byte (3 : Int32) [(.int (98 : Int32)), (.int (117 : Int32)), (.int (121 : Int32))] (.int (0 : Int32)) := f87.other W95 ne_vb_b1
  have f112 : Arv Z h95 vv k_vv .byte (4 : Int32) [(.int (115 : Int32)), (.int (101 : Int32)), (.int (108 : Int32)), (.int (108 : Int32))] (.int (0 : Int32)) := f88.other W95 ne_vv_b1
  have f113 : Sta Z h95 "org/everroll/Fill$Side" "BUY" "Lorg/everroll/Fill$Side;" (.ref uB) := f89.wr W95
  have f114 : Sta Z h95 "org/everroll/Fill$Side" "SELL" "Lorg/everroll/Fill$Side;" (.ref uS) := f90.wr W95
  have f115 : Exa Z h95 b1 "[C" := f91.wr W95
  have N116 := Fr.snoc X95 N92 g_b1
  have Zs117 : n0 ≤ h95.size := Nat.le_trans Zs93 (Keep.of_wr W95).1
  obtain ⟨T118, h118, X118, e118, E118, A118, D118, -, st118⟩ := newO X95 hx hZ hown (hw _ (List.mem_of_getElem? (i := 1) rfl)) (hw _ (List.mem_of_getElem? (i := 2) rfl)) (hw _ (List.mem_of_getElem? (i := 3) rfl)) e95 (g := (mkF m 61 #[.val (.int p1), .val (.int (0 : Int32)), .val (.ref b1), .unset, .unset] [])) rfl (hb hby at_61) (by decide) (by decide)
  obtain ⟨b118, g118⟩ : ∃ z, z = h95.size := ⟨_, rfl⟩
  rw [← g118] at A118 D118 st118
  have g_b118 : n0 ≤ b118 := Nat.le_trans Zs117 (Nat.le_of_eq g118.symm)
  have ne_va_b118 : va ≠ b118 := Nat.ne_of_lt (Nat.lt_of_lt_of_le f99.lt (Nat.le_of_eq g118.symm))
  have ne_uB_b118 : uB ≠ b118 := Nat.ne_of_lt (Nat.lt_of_lt_of_le f101.lt (Nat.le_of_eq g118.symm))
  have ne_uS_b118 : uS ≠ b118 := Nat.ne_of_lt (Nat.lt_of_lt_of_le f102.lt (Nat.le_of_eq g118.symm))
  have ne_tb_b118 : tb ≠ b118 := Nat.ne_of_lt (Nat.lt_of_lt_of_le f105.lt (Nat.le_of_eq g118.symm))
  have ne_ts_b118 : ts ≠ b118 := Nat.ne_of_lt (Nat.lt_of_lt_of_le f106.lt (Nat.le_of_eq g118.symm))
  have ne_vb_b118 : vb ≠ b118 := Nat.ne_of_lt (Nat.lt_of_lt_of_le f111.lt (Nat.le_of_eq g118.symm))
  have ne_vv_b118 : vv ≠ b118 := Nat.ne_of_lt (Nat.lt_of_lt_of_le f112.lt (Nat.le_of_eq g118.symm))
  have ne_b1_b118 : b1 ≠ b118 := Nat.ne_of_lt (Nat.lt_of_lt_of_le f115.lt (Nat.le_of_eq g118.symm))
  have f119 : Sta Z h118 "java/lang/String" "COMPACT_STRINGS" "Z" (.int sc) := f97.ext E118
  have f120 : Sta Z h118 "org/everroll/Fill$Side" "$VALUES" "[Lorg/everroll/Fill$Side;" (.ref va) := f98.ext E118
  have f121 : Exa Z h118 va "[Lorg/everroll/Fill$Side;" := f99.ext E118
  have f122 : Arv Z h118 va k_va (.object "org/everroll/Fill$Side") (2 : Int32) [(.ref uB), (.ref uS)] .null := f100.ext E118
  have f123 : Exa Z h118 uB "org/everroll/Fill$Side" := f101.ext E118
  have f124 : Exa Z h118 uS "org/everroll/Fill$Side" := f102.ext E118
  have f125 : Fld Z h118 uB "org/everroll/Fill$Side" "text" "Ljava/lang/String;" (.ref tb) := f103.ext E118
  have f126 : Fld Z h118 uS "org/everroll/Fill$Side" "text" "Ljava/lang/String;" (.ref ts) := f104.ext E118
  have f127 : Exa Z h118 tb "java/lang/String" := f105.ext E118
  have f128 : Exa Z h118 ts "java/lang/String" := f106.ext E118
  have f129 : Fld Z h118 tb "java/lang/String" "coder" "B" (.int (0 : Int32)) := f107.ext E118
  have f130 : Fld Z h118 ts "java/lang/String" "coder" "B" (.int (0 : Int32)) := f108.ext E118
  have f131 : Fld Z h118 tb "java/lang/String" "value" "[B" (.ref vb) := f109.ext E118
  have f132 : Fld Z h118 ts "java/lang/String" "value" "[B" (.ref vv) := f110.ext E118
  have f133 : Arv Z h118 vb k_vb .byte (3 : Int32) [(.int (98 : Int32)), (.int (117 : Int32)), (.int (121 : Int32))] (.int (0 : Int32)) := f111.ext E118
  have f134 : Arv Z h118 vv k_vv .byte (4 : Int32) [(.int (115 : Int32)), (.int (101 : Int32)), (.int (108 : Int32)), (.int (108 : Int32))] (.int (0 : Int32)) := f112.ext E118
  have f135 : Sta Z h118 "org/everroll/Fill$Side" "BUY" "Lorg/everroll/Fill$Side;" (.ref uB) := f113.ext E118
  have f136 : Sta Z h118 "org/everroll/Fill$Side" "SELL" "Lorg/everroll/Fill$Side;" (.ref uS) := f114.ext E118
  have f137 : Exa Z h118 b1 "[C" := f115.ext E118
  have f138 : Arv Z h118 b1 k1 .char (4 : Int32) [(.int (115 : Int32)), (.int (101 : Int32)), (.int (108 : Int32)), (.int (108 : Int32))] (.int (0 : Int32)) := f96.ext E118
  have Zs139 : n0 ≤ h118.size := Nat.le_trans Zs117 E118.1
  have f140 : Fld Z h118 b118 "java/lang/String" "coder" "B" (.int (0 : Int32)) := D118 (Or.inr (hw _ (List.mem_of_getElem? (i := 27) rfl))) (ty := .byte) (by decide)
  have f141 : Fld Z h118 b118 "java/lang/String" "value" "[B" .null := D118 (Or.inr (hw _ (List.mem_of_getElem? (i := 29) rfl))) (ty := (.array .byte)) (by decide)
  obtain ⟨_, _, ⟨T142, L142, k142, n142⟩, -, X142, ⟨Lc142, hQ142, l142, y142, z142⟩, st142⟩ := X118.specialBack hx (y := (⟨"java/lang/String", "<init>", "([C)V"⟩ : MethodName)) rfl hown (mvT hZ (hw _ (List.mem_of_getElem? (i := 4) rfl))) (mvT hZ (hw _ (List.mem_of_getElem? (i := 5) rfl))) (mvT hZ (hw _ (List.mem_of_getElem? (i := 6) rfl))) (by decide) (backOf (W := 1) (rm_strS l Z a0 hw [] b118 b1 sc k1 h118 n0 Zs139 f119 hsc f137 f138 A118 f140 g_b118 f141) hZ (hw _ (List.mem_of_getElem? (i := 6) rfl)) (hw _ (List.mem_of_getElem? (i := 3) rfl)) (by decide) (by decide)) (g := (mkF m 66 #[.val (.int p1), .val (.int (0 : Int32)), .val (.ref b1), .unset, .unset] [(.ref b1), (.ref b118), (.ref b118)])) rfl (by rw [hml]; rfl) (Steps.refl _) (a := b118) (argsL := [(.ref b1)]) (rest := [(.ref b118)]) (lenOf pd_7 rfl) rfl (by show 2 * 0 + _ ≤ _; exact Nat.le_of_eq rfl) (hb hby at_66) (fun _ _ => ⟨rfl, e118, (by decide : 2 + 1 ≤ _), (by decide : 8 + 4 ≤ _)⟩)
  dsimp only [Pt.U, Pt.locs, Pt.cells, Pt.slots] at X142 l142 y142 z142 st142 hQ142
  subst l142 y142 z142
  obtain ⟨b142_1, k142_2, rfl, Nq142, g_b142_1, szq_b142_1, Kc142, fq142_0, fq142_1, fq142_2, fq142_3, fq142_4⟩ := hQ142
  have ne_va_b142_1 : va ≠ b142_1 := Nat.ne_of_lt (Nat.lt_of_lt_of_le f121.lt szq_b142_1)
  have ne_uB_b142_1 : uB ≠ b142_1 := Nat.ne_of_lt (Nat.lt_of_lt_of_le f123.lt szq_b142_1)
  have ne_uS_b142_1 : uS ≠ b142_1 := Nat.ne_of_lt (Nat.lt_of_lt_of_le f124.lt szq_b142_1)
  have ne_tb_b142_1 : tb ≠ b142_1 := Nat.ne_of_lt (Nat.lt_of_lt_of_le f127.lt szq_b142_1)
  have ne_ts_b142_1 : ts ≠ b142_1 := Nat.ne_of_lt (Nat.lt_of_lt_of_le f128.lt szq_b142_1)
  have ne_vb_b142_1 : vb ≠ b142_1 := Nat.ne_of_lt (Nat.lt_of_lt_of_le f133.lt szq_b142_1)
  have ne_vv_b142_1 : vv ≠ b142_1 := Nat.ne_of_lt (Nat.lt_of_lt_of_le f134.lt szq_b142_1)
  have ne_b1_b142_1 : b1 ≠ b142_1 := Nat.ne_of_lt (Nat.lt_of_lt_of_le f137.lt szq_b142_1)
  have ne_b118_b142_1 : b118 ≠ b142_1 := Nat.ne_of_lt (Nat.lt_of_lt_of_le A118.lt szq_b142_1)
  have f144 : Sta Z T142.heap "java/lang/String" "COMPACT_STRINGS" "Z" (.int sc) := own_sta_keep f119 Kc142 (allS (own_plain_cell A118) all0)
  have f145 : Sta Z T142.heap "org/everroll/Fill$Side" "$VALUES" "[Lorg/everroll/Fill$Side;" (.ref va) := own_sta_keep f120 Kc142 (allS (own_plain_cell A118) all0)
  have f146 : Exa Z T142.heap va "[Lorg/everroll/Fill$Side;" := f121.keep Kc142
  have f147 : Arv Z T142.heap va k_va (.object "org/everroll/Fill$Side") (2 : Int32) [(.ref uB), (.ref uS)] .null := f122.keep Kc142 (ninS ne_va_b118 nin0)
  have f148 : Exa Z T142.heap uB "org/everroll/Fill$Side" := f123.keep Kc142
  have f149 : Exa Z T142.heap uS "org/everroll/Fill$Side" := f124.keep Kc142
  have f150 : Fld Z T142.heap uB "org/everroll/Fill$Side" "text" "Ljava/lang/String;" (.ref tb) := f125.keep Kc142 (ninS ne_uB_b118 nin0)
  have f151 : Fld Z T142.heap uS "org/everroll/Fill$Side" "text" "Ljava/lang/String;" (.ref ts) := f126.keep Kc142 (ninS ne_uS_b118 nin0)
  have f152 : Exa Z T142.heap tb "java/lang/String" := f127.keep Kc142
  have f153 : Exa Z T142.heap ts "java/lang/String" := f128.keep Kc142
  have f154 : Fld Z T142.heap tb "java/lang/String" "coder" "B" (.int (0 : Int32)) := f129.keep Kc142 (ninS ne_tb_b118 nin0)
  have f155 : Fld Z T142.heap ts "java/lang/String" "coder" "B" (.int (0 : Int32)) := f130.keep Kc142 (ninS ne_ts_b118 nin0)
  have f156 : Fld Z T142.heap tb "java/lang/String" "value" "[B" (.ref vb) := f131.keep Kc142 (ninS ne_tb_b118 nin0)
  have f157 : Fld Z T142.heap ts "java/lang/String" "value" "[B" (.ref vv) := f132.keep Kc142 (ninS ne_ts_b118 nin0)
  have f158 : Arv Z T142.heap vb k_vb .byte (3 : Int32) [(.int (98 : Int32)), (.int (117 : Int32)), (.int (121 : Int32))] (.int (0 : Int32)) := f133.keep Kc142 (ninS ne_vb_b118 nin0)
  have f159 : Arv Z T142.heap vv k_vv .byte (4 : Int32) [(.int (115 : Int32)), (.int (101 : Int32)), (.int (108 : Int32)), (.int (108 : Int32))] (.int (0 : Int32)) := f134.keep Kc142 (ninS ne_vv_b118 nin0)
  have f160 : Sta Z T142.heap "org/everroll/Fill$Side" "BUY" "Lorg/everroll/Fill$Side;" (.ref uB) := own_sta_keep f135 Kc142 (allS (own_plain_cell A118) all0)
  have f161 : Sta Z T142.heap "org/everroll/Fill$Side" "SELL" "Lorg/everroll/Fill$Side;" (.ref uS) := own_sta_keep f136 Kc142 (allS (own_plain_cell A118) all0)
  have f162 : Exa Z T142.heap b1 "[C" := f137.keep Kc142
  have f163 : Arv Z T142.heap b1 k1 .char (4 : Int32) [(.int (115 : Int32)), (.int (101 : Int32)), (.int (108 : Int32)), (.int (108 : Int32))] (.int (0 : Int32)) := f138.keep Kc142 (ninS ne_b1_b118 nin0)
  have f164 : Fld Z T142.heap b118 "java/lang/String" "coder" "B" (.int (0 : Int32)) := fq142_1
  have f165 : Fld Z T142.heap b118 "java/lang/String" "value" "[B" (.ref b142_1) := fq142_2
  have f166 : Arv Z T142.heap b142_1 k142_2 .byte (4 : Int32) [(.int (115 : Int32)), (.int (101 : Int32)), (.int (108 : Int32)), (.int (108 : Int32))] (.int (0 : Int32)) := fq142_4
  have Zs167 : n0 ≤ T142.heap.size := Nat.le_trans Zs139 Kc142.1
  have N143 := Fr.app N116 Nq142
  obtain ⟨_, _, ⟨T168, L168, k168, n168⟩, -, X168, ⟨Lc168, hQ168, l168, y168, z168⟩, st168⟩ := Jvm.LawKit.callS X142 hx (y := (⟨"org/everroll/Fill$Side", "named", "(Ljava/lang/String;)Lorg/everroll/Fill$Side;"⟩ : MethodName)) hown (mvT hZ (hw _ (List.mem_of_getElem? (i := 30) rfl))) (mvT hZ (hw _ (List.mem_of_getElem? (i := 31) rfl))) (mvT hZ (hw _ (List.mem_of_getElem? (i := 32) rfl))) (mvT hZ (hw _ (List.mem_of_getElem? (i := 33) rfl))) (by decide) (backOf (W := 0) (rm_namS l Z a0 hw [] b118 sc va uB uS tb ts vb vv k_va k_vb k_vv b142_1 k142_2 T142.heap n0 Zs167 f144 hsc f145 f146 f147 f148 f149 f150 f151 f152 f153 f154 f155 f156 f157 f158 f159 fq142_0 f164 f165 f166 ne_tb_b118 ne_ts_b118) hZ (hw _ (List.mem_of_getElem? (i := 33) rfl)) (hw _ (List.mem_of_getElem? (i := 32) rfl)) (by decide) (by decide)) (g := (mkF m 71 #[.val (.int p1), .val (.int (0 : Int32)), .val (.ref b1), .val (.ref b118), .unset] [(.ref b118)])) rfl (by rw [hml]; rfl) (argsL := [(.ref b118)]) (rest := []) (lenOf pd_8 rfl) rfl (by show 2 * 0 + _ ≤ _; exact Nat.le_of_eq rfl) (hb hby at_71) (fun _ _ => ⟨rfl, rfl, (by decide : 3 + 1 ≤ _), (by decide : 12 + 2 ≤ _)⟩)
  dsimp only [Pt.U, Pt.locs, Pt.cells, Pt.slots] at X168 l168 y168 z168 st168 hQ168
  subst l168 y168 z168
  obtain ⟨rfl, Nq168, Kc168⟩ := hQ168
  have f170 : Sta Z T168.heap "java/lang/String" "COMPACT_STRINGS" "Z" (.int sc) := own_sta_keep f144 Kc168 all0
  have f171 : Sta Z T168.heap "org/everroll/Fill$Side" "$VALUES" "[Lorg/everroll/Fill$Side;" (.ref va) := own_sta_keep f145 Kc168 all0
  have f172 : Exa Z T168.heap va "[Lorg/everroll/Fill$Side;" := f146.keep Kc168
  have f173 : Arv Z T168.heap va k_va (.object "org/everroll/Fill$Side") (2 : Int32) [(.ref uB), (.ref uS)] .null := f147.keep Kc168 nin0
  have f174 : Exa Z T168.heap uB "org/everroll/Fill$Side" := f148.keep Kc168
  have f175 : Exa Z T168.heap uS "org/everroll/Fill$Side" := f149.keep Kc168
  have f176 : Fld Z T168.heap uB "org/everroll/Fill$Side" "text" "Ljava/lang/String;" (.ref tb) := f150.keep Kc168 nin0
  have f177 : Fld Z T168.heap uS "org/everroll/Fill$Side" "text" "Ljava/lang/String;" (.ref ts) := f151.keep Kc168 nin0
  have f178 : Exa Z T168.heap tb "java/lang/String" := f152.keep Kc168
  have f179 : Exa Z T168.heap ts "java/lang/String" := f153.keep Kc168
  have f180 : Fld Z T168.heap tb "java/lang/String" "coder" "B" (.int (0 : Int32)) := f154.keep Kc168 nin0
  have f181 : Fld Z T168.heap ts "java/lang/String" "coder" "B" (.int (0 : Int32)) := f155.keep Kc168 nin0
  have f182 : Fld Z T168.heap tb "java/lang/String" "value" "[B" (.ref vb) := f156.keep Kc168 nin0
  have f183 : Fld Z T168.heap ts "java/lang/String" "value" "[B" (.ref vv) := f157.keep Kc168 nin0
  have f184 : Arv Z T168.heap vb k_vb .byte (3 : Int32) [(.int (98 : Int32)), (.int (117 : Int32)), (.int (121 : Int32))] (.int (0 : Int32)) := f158.keep Kc168 nin0
  have f185 : Arv Z T168.heap vv k_vv .byte (4 : Int32) [(.int (115 : Int32)), (.int (101 : Int32)), (.int (108 : Int32)), (.int (108 : Int32))] (.int (0 : Int32)) := f159.keep Kc168 nin0
  have f186 : Sta Z T168.heap "org/everroll/Fill$Side" "BUY" "Lorg/everroll/Fill$Side;" (.ref uB) := own_sta_keep f160 Kc168 all0
  have f187 : Sta Z T168.heap "org/everroll/Fill$Side" "SELL" "Lorg/everroll/Fill$Side;" (.ref uS) := own_sta_keep f161 Kc168 all0
  have f188 : Exa Z T168.heap b1 "[C" := f162.keep Kc168
  have f189 : Arv Z T168.heap b1 k1 .char (4 : Int32) [(.int (115 : Int32)), (.int (101 : Int32)), (.int (108 : Int32)), (.int (108 : Int32))] (.int (0 : Int32)) := f163.keep Kc168 nin0
  have f190 : Exa Z T168.heap b118 "java/lang/String" := fq142_0.keep Kc168
  have f191 : Fld Z T168.heap b118 "java/lang/String" "coder" "B" (.int (0 : Int32)) := f164.keep Kc168 nin0
  have f192 : Fld Z T168.heap b118 "java/lang/String" "value" "[B" (.ref b142_1) := f165.keep Kc168 nin0
  have f193 : Exa Z T168.heap b142_1 "[B" := fq142_3.keep Kc168
  have f194 : Arv Z T168.heap b142_1 k142_2 .byte (4 : Int32) [(.int (115 : Int32)), (.int (101 : Int32)), (.int (108 : Int32)), (.int (108 : Int32))] (.int (0 : Int32)) := f166.keep Kc168 nin0
  have Zs195 : n0 ≤ T168.heap.size := Nat.le_trans Zs167 Kc168.1
  have N169 := Fr.app N143 Nq168
  obtain ⟨T196, X196, e196, st196⟩ := getS2 X168 hx hZ hown (host := "") (Or.inl (hw _ (List.mem_of_getElem? (i := 63) rfl))) Via.refl rfl f187 (g := (mkF m 96 #[.val (.int p1), .val (.int (0 : Int32)), .val (.ref b1), .val (.ref b118), .val (.ref uS)] [(.ref uS)])) rfl (hb hby at_96)
  obtain ⟨fs, hr, hrun, hended, hW, hsame⟩ := X196.leave (v := some (.int (1 : Int32))) (fun h => by rw [Bd.returns] at h; cases h) Bd.notSynchronized
  refine ⟨_, _, pre0 _ ?_, hrun, hended, _, _, rfl, ?_, ⟨_, rfl⟩, hW, hsame.mono (by decide) (by decide)⟩
  · show Steps p.tables e below (s₁.setTop (mkF m 0 #[.val (.int p1), .unset, .unset, .unset, .unset] [])) _
    refine XS.iloadN X0.here hx rfl (hb hby at_0) rfl ?_
    show Steps p.tables e below (s₁.setTop (mkF m 1 #[.val (.int p1), .unset, .unset, .unset, .unset] [(.int p1)])) _
    refine XS.iconst X0.here hx rfl (hb hby at_1) ?_
    show Steps p.tables e below (s₁.setTop (mkF m 2 #[.val (.int p1), .unset, .unset, .unset, .unset] [(.int (1 : Int32)), (.int p1)])) _
    refine XS.iand X0.here hx rfl (hb hby at_2) rfl ?_
    show Steps p.tables e below (s₁.setTop (mkF m 3 #[.val (.int p1), .unset, .unset, .unset, .unset] [(.int (p1 &&& (1 : Int32)))])) _
    refine XS.ifYes X0.here hx rfl (pc0 := 3) (pc' := 10) rfl (hb hby at_3) rfl ((if0 _ _).trans (teq hc0).1) (by decide) (by decide) ?_
    show Steps p.tables e below (s₁.setTop (mkF m 10 #[.val (.int p1), .unset, .unset, .unset, .unset] [])) _
    refine XS.iconst X0.here hx rfl (hb hby at_10) ?_
    show Steps p.tables e below (s₁.setTop (mkF m 11 #[.val (.int p1), .unset, .unset, .unset, .unset] [(.int (0 : Int32))])) _
    refine XS.istoreN X0.here hx rfl (hb hby at_11) rfl (l' := #[.val (.int p1), .val (.int (0 : Int32)), .unset, .unset, .unset]) rfl ?_
    show Steps p.tables e below (s₁.setTop (mkF m 12 #[.val (.int p1), .val (.int (0 : Int32)), .unset, .unset, .unset] [])) _
    refine XS.iloadN X0.here hx rfl (hb hby at_12) rfl ?_
    show Steps p.tables e below (s₁.setTop (mkF m 13 #[.val (.int p1), .val (.int (0 : Int32)), .unset, .unset, .unset] [(.int (0 : Int32))])) _
    refine XS.ifYes X0.here hx rfl (pc0 := 13) (pc' := 37) rfl (hb hby at_13) rfl ((if0 _ _).trans (teq (by decide : (0 : Int32) = (0 : Int32))).1) (by decide) (by decide) ?_
    show Steps p.tables e below (s₁.setTop (mkF m 37 #[.val (.int p1), .val (.int (0 : Int32)), .unset, .unset, .unset] [])) _
    refine XS.iconst X0.here hx rfl (hb hby at_37) ?_
    show Steps p.tables e below (s₁.setTop (mkF m 38 #[.val (.int p1), .val (.int (0 : Int32)), .unset, .unset, .unset] [(.int (4 : Int32))])) _
    refine st1 _ ?_
    show Steps p.tables e below (T1.setTop (mkF m 40 #[.val (.int p1), .val (.int (0 : Int32)), .unset, .unset, .unset] [(.ref b1)])) _
    refine XS.dup X1.here hx rfl (hb hby at_40) rfl rfl ?_
    show Steps p.tables e below (T1.setTop (mkF m 41 #[.val (.int p1), .val (.int (0 : Int32)), .unset, .unset, .unset] [(.ref b1), (.ref b1)])) _
    refine XS.iconst X1.here hx rfl (hb hby at_41) ?_
    show Steps p.tables e below (T1.setTop (mkF m 42 #[.val (.int p1), .val (.int (0 : Int32)), .unset, .unset, .unset] [(.int (0 : Int32)), (.ref b1), (.ref b1)])) _
    refine XS.bipush X1.here hx rfl (hb hby at_42) ?_
    show Steps p.tables e below (T1.setTop (mkF m 44 #[.val (.int p1), .val (.int (0 : Int32)), .unset, .unset, .unset] [(.int (115 : Int32)), (.int (0 : Int32)), (.ref b1), (.ref b1)])) _
    refine st23 _ ?_
    show Steps p.tables e below (T23.setTop (mkF m 45 #[.val (.int p1), .val (.int (0 : Int32)), .unset, .unset, .unset] [(.ref b1)])) _
    refine XS.dup X23.here hx rfl (hb hby at_45) rfl rfl ?_
    show Steps p.tables e below (T23.setTop (mkF m 46 #[.val (.int p1), .val (.int (0 : Int32)), .unset, .unset, .unset] [(.ref b1), (.ref b1)])) _
    refine XS.iconst X23.here hx rfl (hb hby at_46) ?_
    show Steps p.tables e below (T23.setTop (mkF m 47 #[.val (.int p1), .val (.int (0 : Int32)), .unset, .unset, .unset] [(.int (1 : Int32)), (.ref b1), (.ref b1)])) _
    refine XS.bipush X23.here hx rfl (hb hby at_47) ?_
    show Steps p.tables e below (T23.setTop (mkF m 49 #[.val (.int p1), .val (.int (0 : Int32)), .unset, .unset, .unset] [(.int (101 : Int32)), (.int (1 : Int32)), (.ref b1), (.ref b1)])) _
    refine st47 _ ?_
    show Steps p.tables e below (T47.setTop (mkF m 50 #[.val (.int p1), .val (.int (0 : Int32)), .unset, .unset, .unset] [(.ref b1)])) _
    refine XS.dup X47.here hx rfl (hb hby at_50) rfl rfl ?_
    show Steps p.tables e below (T47.setTop (mkF m 51 #[.val (.int p1), .val (.int (0 : Int32)), .unset, .unset, .unset] [(.ref b1), (.ref b1)])) _
    refine XS.iconst X47.here hx rfl (hb hby at_51) ?_
    show Steps p.tables e below (T47.setTop (mkF m 52 #[.val (.int p1), .val (.int (0 : Int32)), .unset, .unset, .unset] [(.int (2 : Int32)), (.ref b1), (.ref b1)])) _
    refine XS.bipush X47.here hx rfl (hb hby at_52) ?_
    show Steps p.tables e below (T47.setTop (mkF m 54 #[.val (.int p1), .val (.int (0 : Int32)), .unset, .unset, .unset] [(.int (108 : Int32)), (.int (2 : Int32)), (.ref b1), (.ref b1)])) _
    refine st71 _ ?_
    show Steps p.tables e below (T71.setTop (mkF m 55 #[.val (.int p1), .val (.int (0 : Int32)), .unset, .unset, .unset] [(.ref b1)])) _
    refine XS.dup X71.here hx rfl (hb hby at_55) rfl rfl ?_
    show Steps p.tables e below (T71.setTop (mkF m 56 #[.val (.int p1), .val (.int (0 : Int32)), .unset, .unset, .unset] [(.ref b1), (.ref b1)])) _
    refine XS.iconst X71.here hx rfl (hb hby at_56) ?_
    show Steps p.tables e below (T71.setTop (mkF m 57 #[.val (.int p1), .val (.int (0 : Int32)), .unset, .unset, .unset] [(.int (3 : Int32)), (.ref b1), (.ref b1)])) _
    refine XS.bipush X71.here hx rfl (hb hby at_57) ?_
    show Steps p.tables e below (T71.setTop (mkF m 59 #[.val (.int p1), .val (.int (0 : Int32)), .unset, .unset, .unset] [(.int (108 : Int32)), (.int (3 : Int32)), (.ref b1), (.ref b1)])) _
    refine st95 _ ?_
    show Steps p.tables e below (T95.setTop (mkF m 60 #[.val (.int p1), .val (.int (0 : Int32)), .unset, .unset, .unset] [(.ref b1)])) _
    refine XS.astoreN X95.here hx rfl (hb hby at_60) rfl rfl (l' := #[.val (.int p1), .val (.int (0 : Int32)), .val (.ref b1), .unset, .unset]) rfl ?_
    show Steps p.tables e below (T95.setTop (mkF m 61 #[.val (.int p1), .val (.int (0 : Int32)), .val (.ref b1), .unset, .unset] [])) _
    refine st118 _ ?_
    show Steps p.tables e below (T118.setTop (mkF m 64 #[.val (.int p1), .val (.int (0 : Int32)), .val (.ref b1), .unset, .unset] [(.ref b118)])) _
    refine XS.dup X118.here hx rfl (hb hby at_64) rfl rfl ?_
    show Steps p.tables e below (T118.setTop (mkF m 65 #[.val (.int p1), .val (.int (0 : Int32)), .val (.ref b1), .unset, .unset] [(.ref b118), (.ref b118)])) _
    refine XS.aloadN X118.here hx rfl (hb hby at_65) rfl rfl ?_
    show Steps p.tables e below (T118.setTop (mkF m 66 #[.val (.int p1), .val (.int (0 : Int32)), .val (.ref b1), .unset, .unset] [(.ref b1), (.ref b118), (.ref b118)])) _
    refine st142.trans ?_
    show Steps p.tables e below (T142.setTop (mkF m 69 #[.val (.int p1), .val (.int (0 : Int32)), .val (.ref b1), .unset, .unset] [(.ref b118)])) _
    refine XS.astoreN X142.here hx rfl (hb hby at_69) rfl rfl (l' := #[.val (.int p1), .val (.int (0 : Int32)), .val (.ref b1), .val (.ref b118), .unset]) rfl ?_
    show Steps p.tables e below (T142.setTop (mkF m 70 #[.val (.int p1), .val (.int (0 : Int32)), .val (.ref b1), .val (.ref b118), .unset] [])) _
    refine XS.aloadN X142.here hx rfl (hb hby at_70) rfl rfl ?_
    show Steps p.tables e below (T142.setTop (mkF m 71 #[.val (.int p1), .val (.int (0 : Int32)), .val (.ref b1), .val (.ref b118), .unset] [(.ref b118)])) _
    refine st168 _ ?_
    show Steps p.tables e below (T168.setTop (mkF m 74 #[.val (.int p1), .val (.int (0 : Int32)), .val (.ref b1), .val (.ref b118), .unset] [(.ref uS)])) _
    refine XS.astore X168.here hx rfl (hb hby at_74) rfl rfl (l' := #[.val (.int p1), .val (.int (0 : Int32)), .val (.ref b1), .val (.ref b118), .val (.ref uS)]) rfl ?_
    show Steps p.tables e below (T168.setTop (mkF m 76 #[.val (.int p1), .val (.int (0 : Int32)), .val (.ref b1), .val (.ref b118), .val (.ref uS)] [])) _
    refine XS.iloadN X168.here hx rfl (hb hby at_76) rfl ?_
    show Steps p.tables e below (T168.setTop (mkF m 77 #[.val (.int p1), .val (.int (0 : Int32)), .val (.ref b1), .val (.ref b118), .val (.ref uS)] [(.int (0 : Int32))])) _
    refine XS.ifYes X168.here hx rfl (pc0 := 77) (pc' := 94) rfl (hb hby at_77) rfl ((if0 _ _).trans (teq (by decide : (0 : Int32) = (0 : Int32))).1) (by decide) (by decide) ?_
    show Steps p.tables e below (T168.setTop (mkF m 94 #[.val (.int p1), .val (.int (0 : Int32)), .val (.ref b1), .val (.ref b118), .val (.ref uS)] [])) _
    refine XS.aload X168.here hx rfl (hb hby at_94) rfl rfl ?_
    show Steps p.tables e below (T168.setTop (mkF m 96 #[.val (.int p1), .val (.int (0 : Int32)), .val (.ref b1), .val (.ref b118), .val (.ref uS)] [(.ref uS)])) _
    refine st196 _ ?_
    show Steps p.tables e below (T196.setTop (mkF m 99 #[.val (.int p1), .val (.int (0 : Int32)), .val (.ref b1), .val (.ref b118), .val (.ref uS)] [(.ref uS), (.ref uS)])) _
    refine Jvm.RoadKit.acmp (g := (mkF m 99 #[.val (.int p1), .val (.int (0 : Int32)), .val (.ref b1), .val (.ref b118), .val (.ref uS)] [(.ref uS), (.ref uS)])) X196 hx rfl rfl rfl (pc0 := 99) (pc' := 102) (same := true) rfl (hb hby at_99) rfl (decide_eq_true rfl) (by decide) (by decide) ?_
    show Steps p.tables e below (T196.setTop (mkF m 102 #[.val (.int p1), .val (.int (0 : Int32)), .val (.ref b1), .val (.ref b118), .val (.ref uS)] [])) _
    refine XS.iconst X196.here hx rfl (hb hby at_102) ?_
    show Steps p.tables e below (T196.setTop (mkF m 103 #[.val (.int p1), .val (.int (0 : Int32)), .val (.ref b1), .val (.ref b118), .val (.ref uS)] [(.int (1 : Int32))])) _
    refine XS.goto X196.here hx rfl (pc0 := 103) (pc' := 107) rfl (hb hby at_103) (by decide) (by decide) ?_
    show Steps p.tables e below (T196.setTop (mkF m 107 #[.val (.int p1), .val (.int (0 : Int32)), .val (.ref b1), .val (.ref b118), .val (.ref uS)] [(.int (1 : Int32))])) _
    exact retN X196 hx (t := .boolean) Bd.returns (by simp) (hb hby at_107) hr
  · show Q_law Z p1 sc va uB uS tb ts vb vv k_va k_vb k_vv h0 n0 _ T196.heap _
    rw [e196]
    exact ⟨rfl, N169⟩
def own_Start (Z : State) (h0 : Heap) (sc : Int32) (va : Addr) (uB : Addr) (uS : Addr) (tb : Addr) (ts : Addr) (vb : Addr) (vv : Addr) (k_va : ClassId) (k_vb : ClassId) (k_vv : ClassId) : Prop := (Sta Z h0 "java/lang/String" "COMPACT_STRINGS" "Z" (.int sc)) ∧ (¬ (sc = (0 : Int32))) ∧ (Sta Z h0 "org/everroll/Fill$Side" "$VALUES" "[Lorg/everroll/Fill$Side;" (.ref va)) ∧ (Exa Z h0 va "[Lorg/everroll/Fill$Side;") ∧ (Arv Z h0 va k_va (.object "org/everroll/Fill$Side") (2 : Int32) [(.ref uB), (.ref uS)] .null) ∧ (Exa Z h0 uB "org/everroll/Fill$Side") ∧ (Exa Z h0 uS "org/everroll/Fill$Side") ∧ (Fld Z h0 uB "org/everroll/Fill$Side" "text" "Ljava/lang/String;" (.ref tb)) ∧ (Fld Z h0 uS "org/everroll/Fill$Side" "text" "Ljava/lang/String;" (.ref ts)) ∧ (Exa Z h0 tb "java/lang/String") ∧ (Exa Z h0 ts "java/lang/String") ∧ (Fld Z h0 tb "java/lang/String" "coder" "B" (.int (0 : Int32))) ∧ (Fld Z h0 ts "java/lang/String" "coder" "B" (.int (0 : Int32))) ∧ (Fld Z h0 tb "java/lang/String" "value" "[B" (.ref vb)) ∧ (Fld Z h0 ts "java/lang/String" "value" "[B" (.ref vv)) ∧ (Arv Z h0 vb k_vb .byte (3 : Int32) [(.int (98 : Int32)), (.int (117 : Int32)), (.int (121 : Int32))] (.int (0 : Int32))) ∧ (Arv Z h0 vv k_vv .byte (4 : Int32) [(.int (115 : Int32)), (.int (101 : Int32)), (.int (108 : Int32)), (.int (108 : Int32))] (.int (0 : Int32))) ∧ (Sta Z h0 "org/everroll/Fill$Side" "BUY" "Lorg/everroll/Fill$Side;" (.ref uB)) ∧ (Sta Z h0 "org/everroll/Fill$Side" "SELL" "Lorg/everroll/Fill$Side;" (.ref uS))
set_option maxRecDepth 65536 in
set_option maxHeartbeats 40000000 in
theorem rm_law (l : Launch) (Z : State) (a0 : Array Value) (hw : ∀ d ∈ tables_1, d.before a0 Z = true) (ws : List Jvm.Cond) (p1 : Int32) (sc : Int32) (va : Addr) (uB : Addr) (uS : Addr) (tb : Addr) (ts : Addr) (vb : Addr) (vv : Addr) (k_va : ClassId) (k_vb : ClassId) (k_vv : ClassId) (h0 : Heap) (n0 : Nat) (Z0 : n0 ≤ h0.size) (hst : own_Start Z h0 sc va uB uS tb ts vb vv k_va k_vb k_vv) :
    MetFree l x (head1 (Jvm.Cond.code x code maxLocals ret :: ws) room_1) (fun a U => a = #[(.int p1)] ∧ Z.Warmed39 U.vm ∧ U.heap = h0) (fun _ _ _ _ _ => True) (fun _ U o U' => ∃ v L, o = .returned v ∧ Q_law Z p1 sc va uB uS tb ts vb vv k_va k_vb k_vv h0 n0 v U'.heap L ∧ FrameEnd U o U' L room_1.cells room_1.slots) := by
  obtain ⟨S_COMPACT_STRINGS, hsc, S__VALUES, E_va, V_va, E_uB, E_uS, F_text_uB, F_text_uS, E_tb, E_ts, F_coder_tb, F_coder_ts, F_value_tb, F_value_ts, V_vb, V_vv, S_BUY, S_SELL⟩ := hst
  by_cases cc : (p1 &&& (1 : Int32)) = (0 : Int32)
  · exact rm_law_sell l Z a0 hw ws p1 sc va uB uS tb ts vb vv k_va k_vb k_vv h0 n0 Z0 ⟨S_COMPACT_STRINGS, hsc, S__VALUES, E_va, V_va, E_uB, E_uS, F_text_uB, F_text_uS, E_tb, E_ts, F_coder_tb, F_coder_ts, F_value_tb, F_value_ts, V_vb, V_vv, S_BUY, S_SELL, cc⟩
  · exact rm_law_buy l Z a0 hw ws p1 sc va uB uS tb ts vb vv k_va k_vb k_vv h0 n0 Z0 ⟨S_COMPACT_STRINGS, hsc, S__VALUES, E_va, V_va, E_uB, E_uS, F_text_uB, F_text_uS, E_tb, E_ts, F_coder_tb, F_coder_ts, F_value_tb, F_value_ts, V_vb, V_vv, S_BUY, S_SELL, cc⟩
abbrev tVal : Jvm.Term := (Jvm.Term.static "org/everroll/Fill$Side" "$VALUES" "[Lorg/everroll/Fill$Side;")
abbrev tBuy : Jvm.Term := (Jvm.Term.static "org/everroll/Fill$Side" "BUY" "Lorg/everroll/Fill$Side;")
abbrev tSell : Jvm.Term := (Jvm.Term.static "org/everroll/Fill$Side" "SELL" "Lorg/everroll/Fill$Side;")
abbrev tTb : Jvm.Term := (Jvm.Term.field tBuy "org/everroll/Fill$Side" "text" "Ljava/lang/String;")
abbrev tTs : Jvm.Term := (Jvm.Term.field tSell "org/everroll/Fill$Side" "text" "Ljava/lang/String;")
abbrev tVb : Jvm.Term := (Jvm.Term.field tTb "java/lang/String" "value" "[B")
abbrev tVv : Jvm.Term := (Jvm.Term.field tTs "java/lang/String" "value" "[B")
set_option maxRecDepth 65536 in
set_option maxHeartbeats 40000000 in
theorem comes_1 {Post : Tables → Env → Array Value → State → Outcome → State → Prop} (hpost : ∀ tb e args s v u, (limb_1_1.after args s (.returned v) u = true ∧ limb_1_2.after args s (.returned v) u = true ∧ True) → FrameEnd s (.returned v) u (Jvm.fieldLocs frame_1_writes args s ++ Jvm.arrayLocs frame_1_arrays args s ++ Jvm.staticLocs frame_1_statics s) 16 128 → Post tb e args s (.returned v) u) :
    ArmFor flags0 classFile x code maxLocals ret World_1 tables_1 room_1 Calls_1 rest_1 Pre_1 Post := by
  intro l hfl _ _ p e ha hc hk s m args below hf hA hF happ hP
  obtain ⟨hcalls, hrest, hpre⟩ := hP
  obtain ⟨-, -, -, hnamed, -, -, -, hat⟩ := (Spec.applies_iff hf).mp happ
  obtain ⟨hg, hn⟩ := and_e (Cond.before_iff.mp (show (Jvm.Cond.and given_1 narrow_1).before args s = true from hpre))
  obtain ⟨g1, g2⟩ := and_e hg
  obtain ⟨w0, rfl⟩ : ∃ w0 : Value, args = #[w0] := by
    have hs : args.size = 1 := by simpa [Cond.value, given_1] using g1
    obtain ⟨L⟩ := args
    match L, hs with
    | [w0], _ => exact ⟨w0, rfl⟩
  have hw := fun d (hd : d ∈ tables_1) => atoms_spec (ws := Jvm.Cond.code x code maxLocals ret :: tables_1) hat d (List.mem_cons_of_mem _ hd)
  have hfit : Fit s := fun {y c} hc i hi => by
    obtain ⟨ha, rfl⟩ := Array.getElem?_eq_some_iff.mp hc
    have q := List.all_eq_true.mp ((Array.all_eq_true_iff_forall_mem.mp hF) _ (Array.getElem_mem ha)) i (List.mem_range.mpr hi)
    simpa [Array.getElem?_eq_getElem hi] using q
  obtain ⟨hsets, hown0⟩ := atoms_of _ (rest_1_c_eq ▸ (show rest_1_c.before _ s = true from hrest))
  obtain ⟨i0, ei0⟩ := is_v g2
  obtain rfl : w0 = (.int i0) := Option.some.inj ei0
  obtain ⟨m1, hn⟩ := and_e hn
  obtain ⟨m2, hn⟩ := and_e hn
  obtain ⟨m3, hn⟩ := and_e hn
  obtain ⟨m4, hn⟩ := and_e hn
  obtain ⟨m5, hn⟩ := and_e hn
  obtain ⟨m6, hn⟩ := and_e hn
  obtain ⟨m7, hn⟩ := and_e hn
  obtain ⟨m8, hn⟩ := and_e hn
  obtain ⟨m9, hn⟩ := and_e hn
  obtain ⟨m10, hn⟩ := and_e hn
  obtain ⟨m11, hn⟩ := and_e hn
  obtain ⟨m12, hn⟩ := and_e hn
  obtain ⟨m13, hn⟩ := and_e hn
  obtain ⟨m14, hn⟩ := and_e hn
  obtain ⟨m15, hn⟩ := and_e hn
  obtain ⟨m16, hn⟩ := and_e hn
  obtain ⟨m17, hn⟩ := and_e hn
  obtain ⟨m18, hn⟩ := and_e hn
  obtain ⟨m19, hn⟩ := and_e hn
  obtain ⟨m20, hn⟩ := and_e hn
  obtain ⟨m21, hn⟩ := and_e hn
  have m22 := hn
  obtain ⟨uB, eb, Eb⟩ : ∃ a, tBuy.eval #[.int i0] s none [] s = some (.ref a) ∧ Exa s s.heap a "org/everroll/Fill$Side" := by
    obtain ⟨a, q⟩ := exa_v m4
    exact ⟨a, q, Exa.start q m4⟩
  obtain ⟨uS, es, Es⟩ : ∃ a, tSell.eval #[.int i0] s none [] s = some (.ref a) ∧ Exa s s.heap a "org/everroll/Fill$Side" := by
    obtain ⟨a, q⟩ := exa_v m6
    exact ⟨a, q, Exa.start q m6⟩
  obtain ⟨tb, etb, Etb⟩ : ∃ a, tTb.eval #[.int i0] s none [] s = some (.ref a) ∧ Exa s s.heap a "java/lang/String" := by
    obtain ⟨a, q⟩ := exa_v m8
    exact ⟨a, q, Exa.start q m8⟩
  obtain ⟨ts, ets, Ets⟩ : ∃ a, tTs.eval #[.int i0] s none [] s = some (.ref a) ∧ Exa s s.heap a "java/lang/String" := by
    obtain ⟨a, q⟩ := exa_v m12
    exact ⟨a, q, Exa.start q m12⟩
  obtain ⟨va, kva, eva, Vva⟩ := own_arvStart (dv := .null) (vs := [(.ref uB), (.ref uS)]) hfit m1 m3 (by decide) rfl (fun a cl ht hc => ⟨own_elR m5 eb ht hc, own_elR m7 es ht hc, trivial⟩)
  obtain ⟨vb, kvb, evb, Vvb⟩ := own_arvStart (dv := .int (0 : Int32)) (vs := [(.int (98 : Int32)), (.int (117 : Int32)), (.int (121 : Int32))]) hfit m10 m11 (by decide) rfl (fun a cl ht hc => ⟨own_elI m20 ht hc, own_elI m21 ht hc, own_elI m22 ht hc, trivial⟩)
  obtain ⟨vv, kvv, evv, Vvv⟩ := own_arvStart (dv := .int (0 : Int32)) (vs := [(.int (115 : Int32)), (.int (101 : Int32)), (.int (108 : Int32)), (.int (108 : Int32))]) hfit m14 m15 (by decide) rfl (fun a cl ht hc => ⟨own_elI m16 ht hc, own_elI m17 ht hc, own_elI m18 ht hc, own_elI m19 ht hc, trivial⟩)
  have Eva := Exa.start eva m2
  have Ftb := own_fldStart eb etb
  have Fts := own_fldStart es ets
  have Fcb := own_fldStart etb (eqv_i (Term.int_eval (0 : Int32)) m9)
  have Fcs := own_fldStart ets (eqv_i (Term.int_eval (0 : Int32)) m13)
  have Fvb := own_fldStart etb evb
  have Fvv := own_fldStart ets evv
  obtain ⟨sc, esc⟩ := is_v (Cond.before_iff.mp (hsets _ (List.mem_of_getElem? (i := 1) rfl)))
  have Ssc := Sta.start esc (Or.inl (hsets _ (List.mem_of_getElem? (i := 0) rfl)))
  have hsc : ¬ (sc = (0 : Int32)) := fun q => by
    have h2 := Cond.before_iff.mp (hsets _ (List.mem_of_getElem? (i := 2) rfl))
    have h3 : (Jvm.Cond.eq (Jvm.Term.static "java/lang/String" "COMPACT_STRINGS" "Z") (Jvm.Term.int (0 : Int32))).value #[.int i0] s none s [] = some true := eq_i esc (Term.int_eval 0) (by rw [q])
    simp only [Cond.value] at h2 h3
    rw [h3] at h2
    cases h2
  have Sva := Sta.start eva (Or.inl (hw _ (List.mem_of_getElem? (i := 48) rfl)))
  have Sb := Sta.start eb (Or.inr ⟨hw _ (List.mem_of_getElem? (i := 32) rfl), hw _ (List.mem_of_getElem? (i := 46) rfl)⟩)
  have Ss := Sta.start es (Or.inr ⟨hw _ (List.mem_of_getElem? (i := 32) rfl), hw _ (List.mem_of_getElem? (i := 47) rfl)⟩)
  obtain ⟨n, o, h1, h2, h3, _, L, rfl, ⟨rfl, N⟩, hq⟩ := rm_law l s _ hw tables_1 i0 sc va uB uS tb ts vb vv kva kvb kvv s.heap s.heap.size (Nat.le_refl _) ⟨Ssc, hsc, Sva, Eva, Vva, Eb, Es, Ftb, Fts, Etb, Ets, Fcb, Fcs, Fvb, Fvv, Vvb, Vvv, Sb, Ss⟩ p e ha hc hk s m _ below hf ((Spec.applies_iff_loose hf).mp happ).1 ⟨rfl, State.Warmed39.refl s, rfl⟩ trivial
  refine ⟨n, _, h1, h2, h3, hpost _ _ _ _ _ _ ⟨Cond.after_iff.mpr rfl, Cond.after_iff.mpr (eq_i res_at (Term.int_eval (1)) rfl), trivial⟩ ⟨hq.1, hq.2.1, (hq.2.2.sift fun y hy => Or.inr (N y hy)).mono (by decide) (by decide)⟩⟩
theorem main_1_1 : Claimed_1_1 := comes_1 fun _ _ _ _ _ _ h hF => ⟨h.1, hF⟩
theorem main_1_2 : Claimed_1_2 := comes_1 fun _ _ _ _ _ _ h hF => ⟨h.2.1, hF⟩
end Jvm.Pilot.@@N@@
namespace Jvm.Pilot.@@N@@
open Jvm Jvm.ClassFile Sem Op Lib Jvm.Free Jvm.Stand Jvm.Pilot.@@N@@.Jvm.D
/-! MADE BY PROGRAM (witnessworld.py) out of the Statement's table words and the real class files: 22 classes; the members and pool entries that the words name. The judged class is class 1, her method 1. -/
namespace start1
open Jvm.ClassFile
def u (s : String) : CpInfo := .utf8 (stringToUtf16 s)
/-- a pool by its gaps: so many unusable entries, then the entry; so many at the end -/
def gap : Nat → List CpInfo → List CpInfo
  | 0, r => r
  | n + 1, r => .unusable :: gap n r
def poolList (es : List (Nat × CpInfo)) (last : Nat) : List CpInfo := es.foldr (fun e r => gap e.1 (e.2 :: r)) (gap last [])
def pool (es : List (Nat × CpInfo)) (last : Nat) : Array CpInfo := ⟨poolList es last⟩
def fileOf (pool : Array CpInfo) (this : Nat) (attrs : Array Attribute := #[]) (ms : Array MethodInfo := #[]) (fl : Nat := 33) (sup : Nat := 0) (ifs : Array Nat := #[]) (fds : Array FieldInfo := #[]) : ClassFile where
  minorVersion := 0
  majorVersion := 65
  constantPool := pool
  accessFlags := fl
  thisClass := this
  superClass := sup
  interfaces := ifs
  fields := fds
  methods := ms
  attributes := attrs
def plain (name : String) (sup : Option ClassId) : Class where
  name := name
  kind := .ordinary
  loader := none
  accessFlags := 33
  super := sup
  interfaces := #[]
  cf := none
  fields := #[]
  methods := #[]
  instanceTypes := #[]
  staticTypes := #[]
  resolved := #[]
  callSites := []
  init := .initialized
  statics := none
  mirror := none

def pool0 : Array CpInfo := pool [(5, u "<init>"), (0, u "()V"), (1, .class_ 10), (1, u "java/lang/Object"), (85, u "clone"), (0, u "()Ljava/lang/Object;")] 26

def k0c0 : Code := { maxStack := 0, maxLocals := 1, code := object_method_1_code, exceptionTable := #[], attributes := #[] }
def k0m0 : Method := { name := "<init>", desc := "()V", sig := { parameters := [], returnType := none }, accessFlags := 1, code := some k0c0 }
def k0m1 : Method := { name := "clone", desc := "()Ljava/lang/Object;", sig := { parameters := [], returnType := some (.object "java/lang/Object") }, accessFlags := 260, code := none }
/-- java/lang/Object -/
def k0 : Class := { plain "java/lang/Object" none with
  accessFlags := 33
  interfaces := #[]
  cf := some (fileOf pool0 8 #[] #[{ accessFlags := 1, nameIndex := 5, descriptorIndex := 6, attributes := #[] }, { accessFlags := 260, nameIndex := 96, descriptorIndex := 97, attributes := #[] }] 33 0 #[] #[])
  fields := #[]
  methods := #[k0m0, k0m1]
  instanceTypes := #[]
  staticTypes := #[]
  resolved := Array.replicate 124 none
  statics := none }

def pool1 : Array CpInfo := pool [(2, .class_ 4), (1, u "java/lang/Object"), (0, u "<init>"), (0, u "()V"), (0, .class_ 8), (0, u "java/lang/String"), (0, .methodref 7 10), (0, .nameAndType 5 11), (0, u "([C)V"), (0, .methodref 13 14), (0, .class_ 15), (0, .nameAndType 16 17), (0, u "org/everroll/Fill$Side"), (0, u "named"), (0, u "(Ljava/lang/String;)Lorg/everroll/Fill$Side;"), (0, .fieldref 13 19), (0, .nameAndType 20 21), (0, u "BUY"), (0, u "Lorg/everroll/Fill$Side;"), (0, .fieldref 13 23), (0, .nameAndType 24 21), (0, u "SELL"), (0, .class_ 26), (0, u "org/everroll/SideNamedPinLaw"), (2, u "law"), (0, u "(I)Z")] 12

def k1m0 : Method := { name := "<init>", desc := "()V", sig := { parameters := [], returnType := none }, accessFlags := 2, code := none }
def k1c1 : Code := { maxStack := 4, maxLocals := 5, code := code, exceptionTable := #[], attributes := #[] }
def k1m1 : Method := { name := "law", desc := "(I)Z", sig := { parameters := [.int], returnType := some .boolean }, accessFlags := 9, code := some k1c1 }
/-- org/everroll/SideNamedPinLaw -/
def k1 : Class := { plain "org/everroll/SideNamedPinLaw" (some 0) with
  accessFlags := 49
  interfaces := #[]
  cf := some (fileOf pool1 25 #[] #[{ accessFlags := 2, nameIndex := 5, descriptorIndex := 6, attributes := #[] }, { accessFlags := 9, nameIndex := 29, descriptorIndex := 30, attributes := #[] }] 49 2 #[] #[])
  fields := #[]
  methods := #[k1m0, k1m1]
  instanceTypes := #[]
  staticTypes := #[]
  resolved := Array.replicate 43 none
  statics := none }

def pool2 : Array CpInfo := pool [(1, .class_ 2), (0, u "java/io/Serializable"), (0, .class_ 4), (0, u "java/lang/Object")] 2

/-- java/io/Serializable -/
def k2 : Class := { plain "java/io/Serializable" (some 0) with
  accessFlags := 1537
  interfaces := #[]
  cf := some (fileOf pool2 1 #[] #[] 1537 3 #[] #[])
  fields := #[]
  methods := #[]
  instanceTypes := #[]
  staticTypes := #[]
  resolved := Array.replicate 7 none
  statics := none }

def pool3 : Array CpInfo := pool [(1, .class_ 2), (0, u "java/lang/Comparable"), (0, .class_ 4), (0, u "java/lang/Object")] 7

/-- java/lang/Comparable -/
def k3 : Class := { plain "java/lang/Comparable" (some 0) with
  accessFlags := 1537
  interfaces := #[]
  cf := some (fileOf pool3 1 #[] #[] 1537 3 #[] #[])
  fields := #[]
  methods := #[]
  instanceTypes := #[]
  staticTypes := #[]
  resolved := Array.replicate 12 none
  statics := none }

def pool4 : Array CpInfo := pool [(2, .class_ 4), (1, u "java/lang/CharSequence"), (42, .class_ 48), (0, u "java/lang/CharSequence$1CodePointIterator"), (10, .class_ 60), (0, u "java/lang/CharSequence$1CharIterator"), (5, .class_ 67), (0, u "java/lang/Object")] 63

/-- java/lang/CharSequence -/
def k4 : Class := { plain "java/lang/CharSequence" (some 0) with
  accessFlags := 1537
  interfaces := #[]
  cf := some (fileOf pool4 2 #[.nestMembers #[47, 59]] #[] 1537 66 #[] #[])
  fields := #[]
  methods := #[]
  instanceTypes := #[]
  staticTypes := #[]
  resolved := Array.replicate 131 none
  statics := none }

def pool5 : Array CpInfo := pool [(1, .class_ 2), (0, u "java/lang/constant/Constable"), (0, .class_ 4), (0, u "java/lang/Object")] 6

/-- java/lang/constant/Constable -/
def k5 : Class := { plain "java/lang/constant/Constable" (some 0) with
  accessFlags := 1537
  interfaces := #[]
  cf := some (fileOf pool5 1 #[] #[] 1537 3 #[] #[])
  fields := #[]
  methods := #[]
  instanceTypes := #[]
  staticTypes := #[]
  resolved := Array.replicate 11 none
  statics := none }

def pool6 : Array CpInfo := pool [(1, .class_ 2), (0, u "java/lang/constant/ConstantDesc"), (0, .class_ 4), (0, u "java/lang/Object")] 32

/-- java/lang/constant/ConstantDesc -/
def k6 : Class := { plain "java/lang/constant/ConstantDesc" (some 0) with
  accessFlags := 1537
  interfaces := #[]
  cf := some (fileOf pool6 1 #[] #[] 1537 3 #[] #[])
  fields := #[]
  methods := #[]
  instanceTypes := #[]
  staticTypes := #[]
  resolved := Array.replicate 37 none
  statics := none }

def pool7 : Array CpInfo := pool [(1, .methodref 2 3), (0, .class_ 4), (0, .nameAndType 5 6), (0, u "java/lang/Object"), (0, u "<init>"), (0, u "()V"), (2, .fieldref 10 11), (0, .class_ 12), (0, .nameAndType 13 14), (0, u "java/lang/String"), (0, u "value"), (0, u "[B"), (0, .fieldref 10 16), (0, .nameAndType 17 18), (0, u "coder"), (0, u "B"), (2, u "hash"), (0, u "I"), (2, u "hashIsZero"), (0, u "Z"), (0, .methodref 10 28), (0, .nameAndType 5 29), (0, u "([CIILjava/lang/Void;)V"), (8, .fieldref 10 39), (0, .nameAndType 40 26), (0, u "COMPACT_STRINGS"), (1, .class_ 44), (1, u "java/lang/StringUTF16"), (0, u "compress"), (1, .methodref 42 48), (0, .nameAndType 49 50), (0, u "coderFromArrayLen"), (0, u "([BI)B"), (56, .class_ 109), (1, u "java/lang/StringLatin1"), (67, .methodref 42 178), (0, .nameAndType 45 179), (0, u "([CII)[B"), (361, .methodref 107 542), (0, .nameAndType 543 544), (0, u "equals"), (0, u "([B[B)Z"), (28, u "(Ljava/lang/Object;)Z"), (1, .class_ 576), (0, u "java/lang/CharSequence"), (22, u "CASE_INSENSITIVE_ORDER"), (0, u "Ljava/util/Comparator;"), (409, u "([C)V"), (90, u "serialPersistentFields"), (0, u "[Ljava/io/ObjectStreamField;"), (0, .class_ 1104), (0, u "java/lang/String$CaseInsensitiveComparator"), (1, .class_ 1107), (0, u "java/io/Serializable"), (0, .class_ 1109), (0, u "java/lang/Comparable"), (0, .class_ 1111), (0, u "java/lang/constant/Constable"), (0, .class_ 1113), (0, u "java/lang/constant/ConstantDesc"), (2, u "serialVersionUID"), (0, u "J"), (3, u "REPL"), (0, u "C"), (2, u "LATIN1"), (1, u "UTF16")] 323

def k7m0 : Method := { name := "<init>", desc := "()V", sig := { parameters := [], returnType := none }, accessFlags := 1, code := none }
def k7c1 : Code := { maxStack := 5, maxLocals := 2, code := jdk_42_method_3_code, exceptionTable := #[], attributes := #[] }
def k7m1 : Method := { name := "<init>", desc := "([C)V", sig := { parameters := [(.array .char)], returnType := none }, accessFlags := 1, code := some k7c1 }
def k7c2 : Code := { maxStack := 2, maxLocals := 3, code := jdk_42_method_66_code, exceptionTable := #[], attributes := #[] }
def k7m2 : Method := { name := "equals", desc := "(Ljava/lang/Object;)Z", sig := { parameters := [(.object "java/lang/Object")], returnType := some .boolean }, accessFlags := 1, code := some k7c2 }
def k7c3 : Code := { maxStack := 4, maxLocals := 6, code := jdk_42_method_149_code, exceptionTable := #[], attributes := #[] }
def k7m3 : Method := { name := "<init>", desc := "([CIILjava/lang/Void;)V", sig := { parameters := [(.array .char), .int, .int, (.object "java/lang/Void")], returnType := none }, accessFlags := 2, code := some k7c3 }
/-- java/lang/String -/
def k7 : Class := { plain "java/lang/String" (some 0) with
  accessFlags := 49
  interfaces := #[2, 3, 4, 5, 6]
  cf := some (fileOf pool7 10 #[.nestMembers #[1103]] #[{ accessFlags := 1, nameIndex := 5, descriptorIndex := 6, attributes := #[] }, { accessFlags := 1, nameIndex := 5, descriptorIndex := 1010, attributes := #[] }, { accessFlags := 1, nameIndex := 543, descriptorIndex := 573, attributes := #[] }, { accessFlags := 2, nameIndex := 5, descriptorIndex := 29, attributes := #[] }] 49 2 #[1106, 1108, 575, 1110, 1112] #[{ accessFlags := 18, nameIndex := 13, descriptorIndex := 14, attributes := #[] }, { accessFlags := 18, nameIndex := 17, descriptorIndex := 18, attributes := #[] }, { accessFlags := 2, nameIndex := 21, descriptorIndex := 22, attributes := #[] }, { accessFlags := 2, nameIndex := 25, descriptorIndex := 26, attributes := #[] }, { accessFlags := 26, nameIndex := 1116, descriptorIndex := 1117, attributes := #[] }, { accessFlags := 24, nameIndex := 40, descriptorIndex := 26, attributes := #[] }, { accessFlags := 26, nameIndex := 1101, descriptorIndex := 1102, attributes := #[] }, { accessFlags := 26, nameIndex := 1121, descriptorIndex := 1122, attributes := #[] }, { accessFlags := 25, nameIndex := 599, descriptorIndex := 600, attributes := #[] }, { accessFlags := 24, nameIndex := 1125, descriptorIndex := 18, attributes := #[] }, { accessFlags := 24, nameIndex := 1127, descriptorIndex := 18, attributes := #[] }])
  fields := #[{ name := "value", type := (.array .byte), accessFlags := 18, slot := 0, constantValue := 0 }, { name := "coder", type := .byte, accessFlags := 18, slot := 1, constantValue := 0 }, { name := "hash", type := .int, accessFlags := 2, slot := 2, constantValue := 0 }, { name := "hashIsZero", type := .boolean, accessFlags := 2, slot := 3, constantValue := 0 }, { name := "serialVersionUID", type := .long, accessFlags := 26, slot := 0, constantValue := 0 }, { name := "COMPACT_STRINGS", type := .boolean, accessFlags := 24, slot := 1, constantValue := 0 }, { name := "serialPersistentFields", type := (.array (.object "java/io/ObjectStreamField")), accessFlags := 26, slot := 2, constantValue := 0 }, { name := "REPL", type := .char, accessFlags := 26, slot := 3, constantValue := 0 }, { name := "CASE_INSENSITIVE_ORDER", type := (.object "java/util/Comparator"), accessFlags := 25, slot := 4, constantValue := 0 }, { name := "LATIN1", type := .byte, accessFlags := 24, slot := 5, constantValue := 0 }, { name := "UTF16", type := .byte, accessFlags := 24, slot := 6, constantValue := 0 }]
  methods := #[k7m0, k7m1, k7m2, k7m3]
  instanceTypes := #[(.array .byte), .byte, .int, .boolean]
  staticTypes := #[.long, .boolean, (.array (.object "java/io/ObjectStreamField")), .char, (.object "java/util/Comparator"), .byte, .byte]
  resolved := Array.replicate 1451 none
  statics := some 0 }

def pool8 : Array CpInfo := pool [(6, .class_ 8), (1, u "java/lang/Object"), (0, u "<init>"), (0, u "()V"), (1, .class_ 14), (1, u "java/lang/StringUTF16"), (31, u "$assertionsDisabled"), (0, u "Z"), (13, u "HI_BYTE_SHIFT"), (0, u "I"), (2, u "LO_BYTE_SHIFT"), (49, .methodref 12 116), (0, .nameAndType 117 118), (0, u "compress"), (0, u "([CI[BII)I"), (3, u "([CII)[B"), (138, u "coderFromArrayLen"), (0, u "([BI)B"), (106, .class_ 371), (1, u "java/lang/StringUTF16$LinesSpliterator"), (58, u "MAX_LENGTH"), (196, .class_ 628), (0, u "java/lang/StringUTF16$CodePointsSpliterator"), (0, .class_ 630), (0, u "java/lang/StringUTF16$CharsSpliterator")] 4

def k8m0 : Method := { name := "<init>", desc := "()V", sig := { parameters := [], returnType := none }, accessFlags := 0, code := none }
def k8c1 : Code := { maxStack := 2, maxLocals := 2, code := jdk_52_method_15_code, exceptionTable := #[], attributes := #[] }
def k8m1 : Method := { name := "coderFromArrayLen", desc := "([BI)B", sig := { parameters := [(.array .byte), .int], returnType := some .byte }, accessFlags := 8, code := some k8c1 }
def k8c2 : Code := { maxStack := 5, maxLocals := 6, code := jdk_52_method_16_code, exceptionTable := #[], attributes := #[] }
def k8m2 : Method := { name := "compress", desc := "([CII)[B", sig := { parameters := [(.array .char), .int, .int], returnType := some (.array .byte) }, accessFlags := 9, code := some k8c2 }
def k8c3 : Code := { maxStack := 3, maxLocals := 7, code := jdk_52_method_21_code, exceptionTable := #[], attributes := #[] }
def k8m3 : Method := { name := "compress", desc := "([CI[BII)I", sig := { parameters := [(.array .char), .int, (.array .byte), .int, .int], returnType := some .int }, accessFlags := 9, code := some k8c3 }
/-- java/lang/StringUTF16 -/
def k8 : Class := { plain "java/lang/StringUTF16" (some 0) with
  accessFlags := 48
  interfaces := #[]
  cf := some (fileOf pool8 12 #[.nestMembers #[627, 629, 369]] #[{ accessFlags := 0, nameIndex := 9, descriptorIndex := 10, attributes := #[] }, { accessFlags := 8, nameIndex := 261, descriptorIndex := 262, attributes := #[] }, { accessFlags := 9, nameIndex := 117, descriptorIndex := 122, attributes := #[] }, { accessFlags := 9, nameIndex := 117, descriptorIndex := 118, attributes := #[] }] 48 6 #[] #[{ accessFlags := 26, nameIndex := 61, descriptorIndex := 62, attributes := #[] }, { accessFlags := 26, nameIndex := 65, descriptorIndex := 62, attributes := #[] }, { accessFlags := 24, nameIndex := 430, descriptorIndex := 62, attributes := #[] }, { accessFlags := 4120, nameIndex := 46, descriptorIndex := 47, attributes := #[] }])
  fields := #[{ name := "HI_BYTE_SHIFT", type := .int, accessFlags := 26, slot := 0, constantValue := 0 }, { name := "LO_BYTE_SHIFT", type := .int, accessFlags := 26, slot := 1, constantValue := 0 }, { name := "MAX_LENGTH", type := .int, accessFlags := 24, slot := 2, constantValue := 0 }, { name := "$assertionsDisabled", type := .boolean, accessFlags := 4120, slot := 3, constantValue := 0 }]
  methods := #[k8m0, k8m1, k8m2, k8m3]
  instanceTypes := #[]
  staticTypes := #[.int, .int, .int, .boolean]
  resolved := Array.replicate 635 none
  statics := none }

def pool9 : Array CpInfo := pool [(2, .class_ 4), (1, u "java/lang/Enum"), (0, u "name"), (0, u "Ljava/lang/String;"), (2, u "ordinal"), (0, u "I"), (1, .class_ 14), (1, u "java/lang/Object"), (4, u "hash"), (86, .class_ 108), (1, u "java/lang/Enum$EnumDesc"), (2, .class_ 112), (0, u "java/lang/constant/Constable"), (0, .class_ 114), (0, u "java/lang/Comparable"), (0, .class_ 116), (0, u "java/io/Serializable")] 87

/-- java/lang/Enum -/
def k9 : Class := { plain "java/lang/Enum" (some 0) with
  accessFlags := 1057
  interfaces := #[5, 3, 2]
  cf := some (fileOf pool9 2 #[.nestMembers #[106]] #[] 1057 12 #[111, 113, 115] #[{ accessFlags := 18, nameIndex := 5, descriptorIndex := 6, attributes := #[] }, { accessFlags := 18, nameIndex := 9, descriptorIndex := 10, attributes := #[] }, { accessFlags := 2, nameIndex := 19, descriptorIndex := 10, attributes := #[] }])
  fields := #[{ name := "name", type := (.object "java/lang/String"), accessFlags := 18, slot := 0, constantValue := 0 }, { name := "ordinal", type := .int, accessFlags := 18, slot := 1, constantValue := 0 }, { name := "hash", type := .int, accessFlags := 2, slot := 2, constantValue := 0 }]
  methods := #[]
  instanceTypes := #[(.object "java/lang/String"), .int, .int]
  staticTypes := #[]
  resolved := Array.replicate 204 none
  statics := none }

def pool10 : Array CpInfo := pool [(1, .class_ 2), (0, u "org/everroll/Fill$Side"), (2, u "BUY"), (0, u "Lorg/everroll/Fill$Side;"), (2, u "SELL"), (0, .fieldref 1 11), (0, .nameAndType 12 13), (0, u "$VALUES"), (0, u "[Lorg/everroll/Fill$Side;"), (0, .methodref 15 16), (0, .class_ 13), (0, .nameAndType 17 18), (0, u "clone"), (0, u "()Ljava/lang/Object;"), (1, .class_ 22), (1, u "java/lang/Enum"), (6, .fieldref 1 30), (0, .nameAndType 31 32), (0, u "text"), (0, u "Ljava/lang/String;"), (0, .methodref 1 34), (0, .nameAndType 35 36), (0, u "values"), (0, u "()[Lorg/everroll/Fill$Side;"), (0, .methodref 38 39), (0, .class_ 40), (0, .nameAndType 41 42), (0, u "java/lang/String"), (0, u "equals"), (0, u "(Ljava/lang/Object;)Z"), (23, u "(Ljava/lang/String;)Lorg/everroll/Fill$Side;"), (2, u "named"), (8, .class_ 79), (0, u "org/everroll/Fill")] 16

def k10c0 : Code := { maxStack := 1, maxLocals := 0, code := prog_15_method_1_code, exceptionTable := #[], attributes := #[] }
def k10m0 : Method := { name := "values", desc := "()[Lorg/everroll/Fill$Side;", sig := { parameters := [], returnType := some (.array (.object "org/everroll/Fill$Side")) }, accessFlags := 9, code := some k10c0 }
def k10c1 : Code := { maxStack := 3, maxLocals := 5, code := prog_15_method_4_code, exceptionTable := #[], attributes := #[] }
def k10m1 : Method := { name := "named", desc := "(Ljava/lang/String;)Lorg/everroll/Fill$Side;", sig := { parameters := [(.object "java/lang/String")], returnType := some (.object "org/everroll/Fill$Side") }, accessFlags := 8, code := some k10c1 }
/-- org/everroll/Fill$Side -/
def k10 : Class := { plain "org/everroll/Fill$Side" (some 9) with
  accessFlags := 16432
  interfaces := #[]
  cf := some (fileOf pool10 1 #[.nestHost 78] #[{ accessFlags := 9, nameIndex := 35, descriptorIndex := 36, attributes := #[] }, { accessFlags := 8, nameIndex := 69, descriptorIndex := 66, attributes := #[] }] 16432 20 #[] #[{ accessFlags := 16409, nameIndex := 5, descriptorIndex := 6, attributes := #[] }, { accessFlags := 16409, nameIndex := 9, descriptorIndex := 6, attributes := #[] }, { accessFlags := 18, nameIndex := 31, descriptorIndex := 32, attributes := #[] }, { accessFlags := 4122, nameIndex := 12, descriptorIndex := 13, attributes := #[] }])
  fields := #[{ name := "BUY", type := (.object "org/everroll/Fill$Side"), accessFlags := 16409, slot := 0, constantValue := 0 }, { name := "SELL", type := (.object "org/everroll/Fill$Side"), accessFlags := 16409, slot := 1, constantValue := 0 }, { name := "text", type := (.object "java/lang/String"), accessFlags := 18, slot := 3, constantValue := 0 }, { name := "$VALUES", type := (.array (.object "org/everroll/Fill$Side")), accessFlags := 4122, slot := 2, constantValue := 0 }]
  methods := #[k10m0, k10m1]
  instanceTypes := #[(.object "java/lang/String"), .int, .int, (.object "java/lang/String")]
  staticTypes := #[(.object "org/everroll/Fill$Side"), (.object "org/everroll/Fill$Side"), (.array (.object "org/everroll/Fill$Side"))]
  resolved := Array.replicate 96 none
  statics := some 1 }

def pool11 : Array CpInfo := pool [(1, .class_ 2), (0, u "java/lang/Cloneable"), (0, .class_ 4), (0, u "java/lang/Object")] 2

/-- java/lang/Cloneable -/
def k11 : Class := { plain "java/lang/Cloneable" (some 0) with
  accessFlags := 1537
  interfaces := #[]
  cf := some (fileOf pool11 1 #[] #[] 1537 3 #[] #[])
  fields := #[]
  methods := #[]
  instanceTypes := #[]
  staticTypes := #[]
  resolved := Array.replicate 7 none
  statics := none }

def pool12 : Array CpInfo := pool [(4, .class_ 6), (1, u "java/lang/Object"), (0, u "<init>"), (0, u "()V"), (5, .class_ 16), (1, u "java/lang/StringLatin1"), (104, u "$assertionsDisabled"), (0, u "Z"), (98, .class_ 223), (1, u "java/lang/StringLatin1$LinesSpliterator"), (57, u "equals"), (0, u "([B[B)Z"), (107, .class_ 391), (0, u "java/lang/StringLatin1$CharsSpliterator")] 3

def k12m0 : Method := { name := "<init>", desc := "()V", sig := { parameters := [], returnType := none }, accessFlags := 0, code := none }
def k12c1 : Code := { maxStack := 3, maxLocals := 3, code := jdk_43_method_13_code, exceptionTable := #[], attributes := #[] }
def k12m1 : Method := { name := "equals", desc := "([B[B)Z", sig := { parameters := [(.array .byte), (.array .byte)], returnType := some .boolean }, accessFlags := 9, code := some k12c1 }
/-- java/lang/StringLatin1 -/
def k12 : Class := { plain "java/lang/StringLatin1" (some 0) with
  accessFlags := 48
  interfaces := #[]
  cf := some (fileOf pool12 14 #[.nestMembers #[390, 221]] #[{ accessFlags := 0, nameIndex := 7, descriptorIndex := 8, attributes := #[] }, { accessFlags := 9, nameIndex := 281, descriptorIndex := 282, attributes := #[] }] 48 4 #[] #[{ accessFlags := 4120, nameIndex := 121, descriptorIndex := 122, attributes := #[] }])
  fields := #[{ name := "$assertionsDisabled", type := .boolean, accessFlags := 4120, slot := 0, constantValue := 0 }]
  methods := #[k12m0, k12m1]
  instanceTypes := #[]
  staticTypes := #[.boolean]
  resolved := Array.replicate 395 none
  statics := none }

def pool13 : Array CpInfo := pool [(2, .class_ 4), (1, u "java/lang/Object"), (0, u "<init>"), (0, u "()V"), (17, .class_ 26), (1, u "jdk/internal/util/Preconditions"), (28, .class_ 56), (0, u "jdk/internal/util/Preconditions$4"), (57, .class_ 115), (0, u "jdk/internal/util/Preconditions$1"), (7, u "SIOOBE_FORMATTER"), (0, u "Ljava/util/function/BiFunction;"), (0, .class_ 126), (0, u "jdk/internal/util/Preconditions$2"), (3, u "AIOOBE_FORMATTER"), (0, .class_ 132), (0, u "jdk/internal/util/Preconditions$3"), (3, u "IOOBE_FORMATTER")] 57

def k13m0 : Method := { name := "<init>", desc := "()V", sig := { parameters := [], returnType := none }, accessFlags := 1, code := none }
/-- jdk/internal/util/Preconditions -/
def k13 : Class := { plain "jdk/internal/util/Preconditions" (some 0) with
  accessFlags := 33
  interfaces := #[]
  cf := some (fileOf pool13 24 #[.nestMembers #[55, 131, 125, 114]] #[{ accessFlags := 1, nameIndex := 5, descriptorIndex := 6, attributes := #[] }] 33 2 #[] #[{ accessFlags := 25, nameIndex := 123, descriptorIndex := 124, attributes := #[] }, { accessFlags := 25, nameIndex := 130, descriptorIndex := 124, attributes := #[] }, { accessFlags := 25, nameIndex := 136, descriptorIndex := 124, attributes := #[] }])
  fields := #[{ name := "SIOOBE_FORMATTER", type := (.object "java/util/function/BiFunction"), accessFlags := 25, slot := 0, constantValue := 0 }, { name := "AIOOBE_FORMATTER", type := (.object "java/util/function/BiFunction"), accessFlags := 25, slot := 1, constantValue := 0 }, { name := "IOOBE_FORMATTER", type := (.object "java/util/function/BiFunction"), accessFlags := 25, slot := 2, constantValue := 0 }]
  methods := #[k13m0]
  instanceTypes := #[]
  staticTypes := #[(.object "java/util/function/BiFunction"), (.object "java/util/function/BiFunction"), (.object "java/util/function/BiFunction")]
  resolved := Array.replicate 194 none
  statics := some 2 }

def pool14 : Array CpInfo := pool [(9, u "<init>"), (6, .class_ 18), (1, u "java/lang/Object"), (0, u "()V"), (1, .class_ 23), (1, u "jdk/internal/util/ArraysSupport"), (0, u "LOG2_ARRAY_LONG_INDEX_SCALE"), (0, u "I"), (2, u "U"), (0, u "Ljdk/internal/misc/Unsafe;"), (8, u "BIG_ENDIAN"), (0, u "Z"), (8, u "LOG2_BYTE_BIT_SIZE"), (4, u "LOG2_ARRAY_INT_INDEX_SCALE"), (54, u "JLA"), (0, u "Ljdk/internal/access/JavaLangAccess;"), (11, u "LOG2_ARRAY_BOOLEAN_INDEX_SCALE"), (9, u "LOG2_ARRAY_BYTE_INDEX_SCALE"), (5, u "LOG2_ARRAY_CHAR_INDEX_SCALE"), (5, u "LOG2_ARRAY_SHORT_INDEX_SCALE"), (18, u "LOG2_ARRAY_FLOAT_INDEX_SCALE"), (24, u "LOG2_ARRAY_DOUBLE_INDEX_SCALE"), (89, u "T_BOOLEAN"), (2, u "T_CHAR"), (1, u "T_FLOAT"), (1, u "T_DOUBLE"), (1, u "T_BYTE"), (1, u "T_SHORT"), (1, u "T_INT"), (1, u "T_LONG"), (1, u "SOFT_MAX_ARRAY_LENGTH")] 83

def k14m0 : Method := { name := "<init>", desc := "()V", sig := { parameters := [], returnType := none }, accessFlags := 2, code := none }
/-- jdk/internal/util/ArraysSupport -/
def k14 : Class := { plain "jdk/internal/util/ArraysSupport" (some 0) with
  accessFlags := 33
  interfaces := #[]
  cf := some (fileOf pool14 21 #[] #[{ accessFlags := 2, nameIndex := 9, descriptorIndex := 19, attributes := #[] }] 33 16 #[] #[{ accessFlags := 24, nameIndex := 28, descriptorIndex := 29, attributes := #[] }, { accessFlags := 26, nameIndex := 38, descriptorIndex := 39, attributes := #[] }, { accessFlags := 25, nameIndex := 121, descriptorIndex := 25, attributes := #[] }, { accessFlags := 25, nameIndex := 131, descriptorIndex := 25, attributes := #[] }, { accessFlags := 25, nameIndex := 137, descriptorIndex := 25, attributes := #[] }, { accessFlags := 25, nameIndex := 143, descriptorIndex := 25, attributes := #[] }, { accessFlags := 25, nameIndex := 53, descriptorIndex := 25, attributes := #[] }, { accessFlags := 25, nameIndex := 24, descriptorIndex := 25, attributes := #[] }, { accessFlags := 25, nameIndex := 162, descriptorIndex := 25, attributes := #[] }, { accessFlags := 25, nameIndex := 187, descriptorIndex := 25, attributes := #[] }, { accessFlags := 26, nameIndex := 48, descriptorIndex := 25, attributes := #[] }, { accessFlags := 25, nameIndex := 277, descriptorIndex := 25, attributes := #[] }, { accessFlags := 25, nameIndex := 280, descriptorIndex := 25, attributes := #[] }, { accessFlags := 25, nameIndex := 282, descriptorIndex := 25, attributes := #[] }, { accessFlags := 25, nameIndex := 284, descriptorIndex := 25, attributes := #[] }, { accessFlags := 25, nameIndex := 286, descriptorIndex := 25, attributes := #[] }, { accessFlags := 25, nameIndex := 288, descriptorIndex := 25, attributes := #[] }, { accessFlags := 25, nameIndex := 290, descriptorIndex := 25, attributes := #[] }, { accessFlags := 25, nameIndex := 292, descriptorIndex := 25, attributes := #[] }, { accessFlags := 26, nameIndex := 108, descriptorIndex := 109, attributes := #[] }, { accessFlags := 25, nameIndex := 294, descriptorIndex := 25, attributes := #[] }])
  fields := #[{ name := "U", type := (.object "jdk/internal/misc/Unsafe"), accessFlags := 24, slot := 0, constantValue := 0 }, { name := "BIG_ENDIAN", type := .boolean, accessFlags := 26, slot := 1, constantValue := 0 }, { name := "LOG2_ARRAY_BOOLEAN_INDEX_SCALE", type := .int, accessFlags := 25, slot := 2, constantValue := 0 }, { name := "LOG2_ARRAY_BYTE_INDEX_SCALE", type := .int, accessFlags := 25, slot := 3, constantValue := 0 }, { name := "LOG2_ARRAY_CHAR_INDEX_SCALE", type := .int, accessFlags := 25, slot := 4, constantValue := 0 }, { name := "LOG2_ARRAY_SHORT_INDEX_SCALE", type := .int, accessFlags := 25, slot := 5, constantValue := 0 }, { name := "LOG2_ARRAY_INT_INDEX_SCALE", type := .int, accessFlags := 25, slot := 6, constantValue := 0 }, { name := "LOG2_ARRAY_LONG_INDEX_SCALE", type := .int, accessFlags := 25, slot := 7, constantValue := 0 }, { name := "LOG2_ARRAY_FLOAT_INDEX_SCALE", type := .int, accessFlags := 25, slot := 8, constantValue := 0 }, { name := "LOG2_ARRAY_DOUBLE_INDEX_SCALE", type := .int, accessFlags := 25, slot := 9, constantValue := 0 }, { name := "LOG2_BYTE_BIT_SIZE", type := .int, accessFlags := 26, slot := 10, constantValue := 0 }, { name := "T_BOOLEAN", type := .int, accessFlags := 25, slot := 11, constantValue := 0 }, { name := "T_CHAR", type := .int, accessFlags := 25, slot := 12, constantValue := 0 }, { name := "T_FLOAT", type := .int, accessFlags := 25, slot := 13, constantValue := 0 }, { name := "T_DOUBLE", type := .int, accessFlags := 25, slot := 14, constantValue := 0 }, { name := "T_BYTE", type := .int, accessFlags := 25, slot := 15, constantValue := 0 }, { name := "T_SHORT", type := .int, accessFlags := 25, slot := 16, constantValue := 0 }, { name := "T_INT", type := .int, accessFlags := 25, slot := 17, constantValue := 0 }, { name := "T_LONG", type := .int, accessFlags := 25, slot := 18, constantValue := 0 }, { name := "JLA", type := (.object "jdk/internal/access/JavaLangAccess"), accessFlags := 26, slot := 19, constantValue := 0 }, { name := "SOFT_MAX_ARRAY_LENGTH", type := .int, accessFlags := 25, slot := 20, constantValue := 0 }]
  methods := #[k14m0]
  instanceTypes := #[]
  staticTypes := #[(.object "jdk/internal/misc/Unsafe"), .boolean, .int, .int, .int, .int, .int, .int, .int, .int, .int, .int, .int, .int, .int, .int, .int, .int, .int, (.object "jdk/internal/access/JavaLangAccess"), .int]
  resolved := Array.replicate 378 none
  statics := none }

/-- the primitive byte -/
def k15 : Class := { plain "byte" none with kind := .primitive 'B', accessFlags := 0x411 }
/-- [B -/
def k16 : Class := { plain "[B" (some 0) with kind := .array 15 .byte, interfaces := #[11, 2], accessFlags := 1041 }

/-- the primitive char -/
def k17 : Class := { plain "char" none with kind := .primitive 'C', accessFlags := 0x411 }
/-- [C -/
def k18 : Class := { plain "[C" (some 0) with kind := .array 17 .char, interfaces := #[11, 2], accessFlags := 1041 }

/-- the primitive int -/
def k19 : Class := { plain "int" none with kind := .primitive 'I', accessFlags := 0x411 }
/-- [I -/
def k20 : Class := { plain "[I" (some 0) with kind := .array 19 .int, interfaces := #[11, 2], accessFlags := 1041 }

/-- [Lorg/everroll/Fill$Side; -/
def k21 : Class := { plain "[Lorg/everroll/Fill$Side;" (some 0) with kind := .array 10 (.object "org/everroll/Fill$Side"), interfaces := #[11, 2], accessFlags := 1041 }

def heap : Heap := #[{ cls := 7, slots := #[.long 0, .int 1, .null, .int 0, .null, .int 0, .int 0], vm := .statics 7 },
  { cls := 10, slots := #[.ref 4, .ref 5, .ref 3], vm := .statics 10 },
  { cls := 13, slots := #[.null, .null, .null], vm := .statics 13 },
  { cls := 21, slots := #[.ref 4, .ref 5], vm := .none },
  { cls := 10, slots := #[.null, .int 0, .int 0, .ref 6], vm := .none },
  { cls := 10, slots := #[.null, .int 1, .int 0, .ref 7], vm := .none },
  { cls := 7, slots := #[.ref 8, .int 0, .int 0, .int 0], vm := .none },
  { cls := 7, slots := #[.ref 9, .int 0, .int 0, .int 0], vm := .none },
  { cls := 16, slots := #[.int 98, .int 117, .int 121], vm := .none },
  { cls := 16, slots := #[.int 115, .int 101, .int 108, .int 108], vm := .none }]
def classes : Array Class := #[k0, k1, k2, k3, k4, k5, k6, k7, k8, k9, k10, k11, k12, k13, k14, k15, k16, k17, k18, k19, k20, k21]
def interned : List (Array UInt16 × Addr) := []
def slotsUsed : Nat := 38
def theMethod : MethodId := ⟨1, 1⟩
def args0 : Array Value := #[.int 5]
def aboutOver (below : List Frame) : State where
  vm := { classes := classes, interned := interned.toArray }
  heap := heap
  slotsUsed := slotsUsed
  threads := #[{ frames := .invoking theMethod args0 :: below }]
def below0 : List Frame := [.native { method := ⟨0, 0⟩, args := #[] }]
def about1 : State := aboutOver below0
def p0 : Program := .bare "" "" ""
def e0 : Env := launch0.env 0 0 0
theorem w_frames : about1.frames = Frame.invoking theMethod args0 :: below0 := rfl
set_option maxRecDepth 65536 in
theorem w_args : argsFit about1.vm theMethod args0 = true := by decide +kernel
set_option maxRecDepth 65536 in
theorem w_heap : heapFits about1 = true := by decide +kernel
set_option maxRecDepth 65536 in
theorem w_runnable : about1.curStatus? = some .runnable := by decide +kernel
set_option maxRecDepth 65536 in
theorem w_alone : about1.alone = true := by decide +kernel
set_option maxRecDepth 65536 in
theorem w_named : about1.methodNamed? x = some theMethod := by decide +kernel
set_option maxRecDepth 65536 in
theorem w_hears : about1.hears theMethod below0 = true := by decide +kernel
set_option maxRecDepth 65536 in
theorem w_ripe : about1.ripe theMethod args0 below0 = true := by decide +kernel
theorem w_running : about1.status = .running := rfl
set_option maxRecDepth 65536 in
theorem w_room : about1.hasRoom e0.platform room_1 = true :=
  launch0.hasRoom_least _ room_1 (by decide +kernel) (by decide +kernel) (by decide +kernel) (by decide +kernel) (by decide +kernel) (by decide +kernel)
theorem allAtoms_all (ts : List Jvm.Cond) (a : Array Jvm.Value) (st : Jvm.State) : (allAtoms ts).before a st = ts.all (fun c => c.before a st) := by
  induction ts with
  | nil => rfl
  | cons c t ih =>
    show (Jvm.Cond.and c (allAtoms t)).before a st = _
    rw [Jvm.Cond.before_and, ih, List.all_cons]
def words1 : List Jvm.Cond := Jvm.Cond.code x code maxLocals ret :: tables_1
/-- a 'code' word, met by the world's own term for the bytes: nothing is compared byte by byte -/
theorem code_word {y : MethodName} {bytes : ByteArray} {mx : Nat} {rt : Option FieldType} {a : Array Value} {s : State} {m : MethodId} {meth : Method} {c : Code} (h1 : s.methodNamed? y = some m) (h2 : s.vm.method? m = some meth) (h3 : meth.code = some c) (h4 : c.code = bytes)
    (h5 : (c.maxLocals == mx && c.exceptionTable.isEmpty && decide (c.maxStack ≤ mostOperands) && decide (meth.sig.returnType = rt) && !meth.locks && decide (parseMethodDescriptor y.desc = some meth.sig)) = true) : (Jvm.Cond.code y bytes mx rt).before a s = true := by
  simp only [Bool.and_eq_true, beq_iff_eq, Bool.not_eq_true', decide_eq_true_eq] at h5
  obtain ⟨⟨⟨⟨⟨g1, g2⟩, g3⟩, g4⟩, g5⟩, g6⟩ := h5
  simp [Cond.before, Cond.holds, Cond.value, h1, h2, h3, h4, g1, g2, g3, g4, g5, g6]
def isCode : Jvm.Cond → Bool
  | .code _ _ _ _ => true
  | _ => false
theorem all_split {L : List Jvm.Cond} {P : Jvm.Cond → Bool} (h1 : L.all (fun c => isCode c || P c) = true) (h2 : ∀ c ∈ L.filter isCode, P c = true) : L.all P = true := by
  refine List.all_eq_true.mpr fun c hc => ?_
  have h := List.all_eq_true.mp h1 c hc
  rcases Bool.eq_false_or_eq_true (isCode c) with hi | hi
  · exact h2 c (List.mem_filter.mpr ⟨hc, hi⟩)
  · simpa [hi] using h
set_option maxRecDepth 65536 in
theorem w_c0 : (Jvm.Cond.code x code maxLocals ret).before args0 about1 = true := code_word (m := ⟨1, 1⟩) (meth := k1m1) (c := k1c1) (by decide +kernel) rfl rfl rfl (by decide +kernel)
set_option maxRecDepth 65536 in
theorem w_c1 : (Jvm.Cond.code ({ cls := "java/lang/String", name := "<init>", desc := "([C)V" } : Jvm.MethodName) jdk_42_method_3_code (2 : Nat) (Option.none : Option Jvm.ClassFile.FieldType)).before args0 about1 = true := code_word (m := ⟨7, 1⟩) (meth := k7m1) (c := k7c1) (by decide +kernel) rfl rfl rfl (by decide +kernel)
set_option maxRecDepth 65536 in
theorem w_c2 : (Jvm.Cond.code ({ cls := "java/lang/String", name := "<init>", desc := "([CIILjava/lang/Void;)V" } : Jvm.MethodName) jdk_42_method_149_code (6 : Nat) (Option.none : Option Jvm.ClassFile.FieldType)).before args0 about1 = true := code_word (m := ⟨7, 3⟩) (meth := k7m3) (c := k7c3) (by decide +kernel) rfl rfl rfl (by decide +kernel)
set_option maxRecDepth 65536 in
theorem w_c3 : (Jvm.Cond.code ({ cls := "java/lang/Object", name := "<init>", desc := "()V" } : Jvm.MethodName) object_method_1_code (1 : Nat) (Option.none : Option Jvm.ClassFile.FieldType)).before args0 about1 = true := code_word (m := ⟨0, 0⟩) (meth := k0m0) (c := k0c0) (by decide +kernel) rfl rfl rfl (by decide +kernel)
set_option maxRecDepth 65536 in
theorem w_c4 : (Jvm.Cond.code ({ cls := "java/lang/StringUTF16", name := "compress", desc := "([CII)[B" } : Jvm.MethodName) jdk_52_method_16_code (6 : Nat) (Option.some (Jvm.ClassFile.FieldType.array Jvm.ClassFile.FieldType.byte))).before args0 about1 = true := code_word (m := ⟨8, 2⟩) (meth := k8m2) (c := k8c2) (by decide +kernel) rfl rfl rfl (by decide +kernel)
set_option maxRecDepth 65536 in
theorem w_c5 : (Jvm.Cond.code ({ cls := "java/lang/StringUTF16", name := "compress", desc := "([CI[BII)I" } : Jvm.MethodName) jdk_52_method_21_code (7 : Nat) (Option.some Jvm.ClassFile.FieldType.int)).before args0 about1 = true := code_word (m := ⟨8, 3⟩) (meth := k8m3) (c := k8c3) (by decide +kernel) rfl rfl rfl (by decide +kernel)
set_option maxRecDepth 65536 in
theorem w_c6 : (Jvm.Cond.code ({ cls := "java/lang/StringUTF16", name := "coderFromArrayLen", desc := "([BI)B" } : Jvm.MethodName) jdk_52_method_15_code (2 : Nat) (Option.some Jvm.ClassFile.FieldType.byte)).before args0 about1 = true := code_word (m := ⟨8, 1⟩) (meth := k8m1) (c := k8c1) (by decide +kernel) rfl rfl rfl (by decide +kernel)
set_option maxRecDepth 65536 in
theorem w_c7 : (Jvm.Cond.code ({ cls := "org/everroll/Fill$Side", name := "named", desc := "(Ljava/lang/String;)Lorg/everroll/Fill$Side;" } : Jvm.MethodName) prog_15_method_4_code (5 : Nat) (Option.some (Jvm.ClassFile.FieldType.object "org/everroll/Fill$Side"))).before args0 about1 = true := code_word (m := ⟨10, 1⟩) (meth := k10m1) (c := k10c1) (by decide +kernel) rfl rfl rfl (by decide +kernel)
set_option maxRecDepth 65536 in
theorem w_c8 : (Jvm.Cond.code ({ cls := "org/everroll/Fill$Side", name := "values", desc := "()[Lorg/everroll/Fill$Side;" } : Jvm.MethodName) prog_15_method_1_code (0 : Nat) (Option.some (Jvm.ClassFile.FieldType.array (Jvm.ClassFile.FieldType.object "org/everroll/Fill$Side")))).before args0 about1 = true := code_word (m := ⟨10, 0⟩) (meth := k10m0) (c := k10c0) (by decide +kernel) rfl rfl rfl (by decide +kernel)
set_option maxRecDepth 65536 in
theorem w_c9 : (Jvm.Cond.code ({ cls := "java/lang/String", name := "equals", desc := "(Ljava/lang/Object;)Z" } : Jvm.MethodName) jdk_42_method_66_code (3 : Nat) (Option.some Jvm.ClassFile.FieldType.boolean)).before args0 about1 = true := code_word (m := ⟨7, 2⟩) (meth := k7m2) (c := k7c2) (by decide +kernel) rfl rfl rfl (by decide +kernel)
set_option maxRecDepth 65536 in
theorem w_c10 : (Jvm.Cond.code ({ cls := "java/lang/StringLatin1", name := "equals", desc := "([B[B)Z" } : Jvm.MethodName) jdk_43_method_13_code (3 : Nat) (Option.some Jvm.ClassFile.FieldType.boolean)).before args0 about1 = true := code_word (m := ⟨12, 1⟩) (meth := k12m1) (c := k12c1) (by decide +kernel) rfl rfl rfl (by decide +kernel)
def codes1 : List Jvm.Cond := [Jvm.Cond.code x code maxLocals ret, Jvm.Cond.code ({ cls := "java/lang/String", name := "<init>", desc := "([C)V" } : Jvm.MethodName) jdk_42_method_3_code (2 : Nat) (Option.none : Option Jvm.ClassFile.FieldType), Jvm.Cond.code ({ cls := "java/lang/String", name := "<init>", desc := "([CIILjava/lang/Void;)V" } : Jvm.MethodName) jdk_42_method_149_code (6 : Nat) (Option.none : Option Jvm.ClassFile.FieldType), Jvm.Cond.code ({ cls := "java/lang/Object", name := "<init>", desc := "()V" } : Jvm.MethodName) object_method_1_code (1 : Nat) (Option.none : Option Jvm.ClassFile.FieldType), Jvm.Cond.code ({ cls := "java/lang/StringUTF16", name := "compress", desc := "([CII)[B" } : Jvm.MethodName) jdk_52_method_16_code (6 : Nat) (Option.some (Jvm.ClassFile.FieldType.array Jvm.ClassFile.FieldType.byte)), Jvm.Cond.code ({ cls := "java/lang/StringUTF16", name := "compress", desc := "([CI[BII)I" } : Jvm.MethodName) jdk_52_method_21_code (7 : Nat) (Option.some Jvm.ClassFile.FieldType.int), Jvm.Cond.code ({ cls := "java/lang/StringUTF16", name := "coderFromArrayLen", desc := "([BI)B" } : Jvm.MethodName) jdk_52_method_15_code (2 : Nat) (Option.some Jvm.ClassFile.FieldType.byte), Jvm.Cond.code ({ cls := "org/everroll/Fill$Side", name := "named", desc := "(Ljava/lang/String;)Lorg/everroll/Fill$Side;" } : Jvm.MethodName) prog_15_method_4_code (5 : Nat) (Option.some (Jvm.ClassFile.FieldType.object "org/everroll/Fill$Side")), Jvm.Cond.code ({ cls := "org/everroll/Fill$Side", name := "values", desc := "()[Lorg/everroll/Fill$Side;" } : Jvm.MethodName) prog_15_method_1_code (0 : Nat) (Option.some (Jvm.ClassFile.FieldType.array (Jvm.ClassFile.FieldType.object "org/everroll/Fill$Side"))), Jvm.Cond.code ({ cls := "java/lang/String", name := "equals", desc := "(Ljava/lang/Object;)Z" } : Jvm.MethodName) jdk_42_method_66_code (3 : Nat) (Option.some Jvm.ClassFile.FieldType.boolean), Jvm.Cond.code ({ cls := "java/lang/StringLatin1", name := "equals", desc := "([B[B)Z" } : Jvm.MethodName) jdk_43_method_13_code (3 : Nat) (Option.some Jvm.ClassFile.FieldType.boolean)]
set_option maxRecDepth 65536 in
theorem codes_eq : words1.filter isCode = codes1 := rfl
theorem w_codes : ∀ c ∈ words1.filter isCode, c.before args0 about1 = true := by
  rw [codes_eq]
  intro c hc
  simp only [codes1, List.mem_cons, List.not_mem_nil, or_false] at hc
  rcases hc with rfl | rfl | rfl | rfl | rfl | rfl | rfl | rfl | rfl | rfl | rfl
  · exact w_c0
  · exact w_c1
  · exact w_c2
  · exact w_c3
  · exact w_c4
  · exact w_c5
  · exact w_c6
  · exact w_c7
  · exact w_c8
  · exact w_c9
  · exact w_c10
set_option maxRecDepth 65536 in
theorem w_t1 : (words1.take 24).all (fun c => isCode c || c.before args0 about1) = true := by decide +kernel
set_option maxRecDepth 65536 in
theorem w_t2 : ((words1.drop 24).take 24).all (fun c => isCode c || c.before args0 about1) = true := by decide +kernel
set_option maxRecDepth 65536 in
theorem w_t3 : ((words1.drop 24).drop 24).all (fun c => isCode c || c.before args0 about1) = true := by decide +kernel
theorem w_tables : (allAtoms (Jvm.Cond.code x code maxLocals ret :: tables_1)).before args0 about1 = true := by
  rw [allAtoms_all]
  show words1.all (fun c => c.before args0 about1) = true
  refine all_split ?_ w_codes
  rw [← List.take_append_drop 24 words1, List.all_append, w_t1, ← List.take_append_drop 24 (words1.drop 24), List.all_append, w_t2, w_t3]
  rfl
set_option maxRecDepth 65536 in
theorem w_rest : rest_1_c.before args0 about1 = true := by decide +kernel
set_option maxRecDepth 65536 in
theorem w_case : (Jvm.Cond.and given_1 narrow_1).before args0 about1 = true := by decide +kernel
theorem w_applies : (headSpec (Jvm.Cond.code x code maxLocals ret :: tables_1) room_1).applies x e0.platform about1 = true :=
  (Spec.applies_iff w_frames).mpr ⟨w_running, w_runnable, w_alone, w_named, w_hears, w_ripe, w_room, w_tables⟩
theorem atStart : AtStart classFile x code maxLocals ret World_1 tables_1 room_1 Calls_1 rest_1 Pre_1 launch0 p0 e0 about1 theMethod args0 below0 :=
  ⟨lists_1, trivial, launch0.admits_env _ _ _, launch0.least_env, fairChoices_fair.cas, fairChoices_fair.clock, w_frames, w_args, w_heap, w_applies, trivial, w_rest, w_case⟩
end start1
theorem witness_1 : WitnessClaimed_1 := ⟨start1.p0, start1.e0, start1.about1, start1.theMethod, start1.args0, start1.below0, start1.atStart⟩
end Jvm.Pilot.@@N@@
