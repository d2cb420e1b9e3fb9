import JvmDerived
import JvmDerived.Pilot.@@N@@Statement
import JvmDerived.Pilot.@@N@@Code
set_option linter.unusedVariables false
set_option linter.unusedSimpArgs false
namespace Jvm.RoadKit
open Sem ClassFile Op Lib Jvm.Stand Jvm.Free Jvm.LawKit
section New
variable {p : Program} {l : Launch} {e : Env} {R : Room} {s : State} {m : MethodId} {args : Array Value} {below : List Frame} {meth : Method} {c : Code} {T : State} {locs : List Loc} {cells slots : Nat}
theorem retI (X : Stand p l e R s m args below meth c T locs cells slots) (hx : p.tables.exec = Jvm.exec) {pc : Nat} {Ls : Array Slot} {z : Int32} {rest : List Value} (hret : meth.sig.returnType = some .int) (hd : decode c.code pc = .ok (.ireturn, 1)) {fs : List Frame}
    (hl : ∀ (f : JFrame) (acts : List Action), f.method = m → f.locked = none → f.entered = [] → (doReturn e (T.setTop f) acts (some (.int z))).1 = T.setFrames fs) : Steps p.tables e below (T.setTop (mkF m pc Ls (.int z :: rest))) (T.setFrames fs) := by
  have hm' : T.vm.method? m = some meth := X.method'
  have hn : narrow .int (.int z) = .int z := rfl
  show Steps p.tables e below (T.setTop { method := m, pc := pc, locals := Ls, stack := _ :: rest, locked := none }) _
  jvm_step X.here [X.here.top, hx, hd, hm', hret, hn]
  first | (intro acts; rw [hl _ acts rfl rfl rfl]) | rw [hl _ _ rfl rfl rfl]
  exact Steps.refl _
end New
end Jvm.RoadKit
namespace Jvm.Pilot.@@N@@
open Jvm Jvm.ClassFile Sem Op Lib Jvm.Free Jvm.Stand Jvm.LawKit Jvm.RoadKit Bundle Jvm.Pilot.@@N@@.Jvm.D
theorem own_lmod (x y : Int64) (hx : 0 ≤ x.toInt) : (x % y).toInt = x.toInt % y.toInt := by
  rw [Int64.toInt_mod]; exact Int.tmod_eq_emod_of_nonneg hx
theorem own_imod (x y : Int32) (hx : 0 ≤ x.toInt) : (x % y).toInt = x.toInt % y.toInt := by
  rw [Int32.toInt_mod]; exact Int.tmod_eq_emod_of_nonneg hx
theorem own_lmod_rng (x y : Int64) (hx : 0 ≤ x.toInt) (hy : 0 < y.toInt) : 0 ≤ (x % y).toInt ∧ (x % y).toInt < y.toInt := by
  rw [own_lmod x y hx]; exact ⟨Int.emod_nonneg _ (by omega), Int.emod_lt_of_pos _ hy⟩
theorem own_imod_rng (x y : Int32) (hx : 0 ≤ x.toInt) (hy : 0 < y.toInt) : 0 ≤ (x % y).toInt ∧ (x % y).toInt < y.toInt := by
  rw [own_imod x y hx]; exact ⟨Int.emod_nonneg _ (by omega), Int.emod_lt_of_pos _ hy⟩
theorem own_mI (x : Int32) : 0 ≤ (x &&& (2147483647 : Int32)).toInt ∧ (x &&& (2147483647 : Int32)).toInt ≤ 2147483647 := by
  have h := c_and x 2147483647 (by decide)
  have e : (2147483647 : Int32).toInt = 2147483647 := by decide
  omega
theorem own_mL (x : Int64) : 0 ≤ (x &&& (9223372036854775807 : Int64)).toInt ∧ (x &&& (9223372036854775807 : Int64)).toInt ≤ 9223372036854775807 := by
  have h := (c_andSL x 9223372036854775807).2.2 (by decide)
  have := rng64 (x &&& (9223372036854775807 : Int64))
  omega
theorem own_nz32 {x : Int32} (h : 0 < x.toInt) : ¬ (x = (0 : Int32)) := fun e => by subst e; revert h; decide
theorem own_nz64 {x : Int64} (h : 0 < x.toInt) : ¬ (x = (0 : Int64)) := fun e => by subst e; revert h; decide
theorem own_lt32 {x y : Int32} : x < y ↔ x.toInt < y.toInt := Int32.lt_iff_toInt_lt
theorem own_lt64 {x y : Int64} : x < y ↔ x.toInt < y.toInt := Int64.lt_iff_toInt_lt
theorem own_eq32 {x y : Int32} (h : x.toInt = y.toInt) : x = y := Int32.toInt_inj.mp h
theorem own_eq64 {x y : Int64} (h : x.toInt = y.toInt) : x = y := Int64.toInt_inj.mp h
theorem own_sel {Z s : State} {a0 args : Array Value} {y : MethodName} {n : Nat} (hZ : Z.Warmed39 s.vm) (hp : (Jvm.Cond.privateMethod y).before a0 Z = true) (hi : (Jvm.Cond.instanceMethod y).before a0 Z = true) (hn : (Jvm.Cond.instantiable y.cls n).before a0 Z = true)
    (hy : y.cls ≠ "java/lang/invoke/MethodHandle" ∧ y.cls ≠ "java/lang/invoke/VarHandle") : (Jvm.Cond.selects y.cls y y).before args s = true := by
  obtain ⟨c, k, hc, hk, -, hniab, -, -⟩ := Cond.instantiable_spec (mvT hZ hn (args := args))
  exact selects_self_of_private hc hk (Bool.or_eq_false_iff.mp hniab).1 (Cond.privateMethod_at (mvP hZ hp (args := #[]))) (mvT hZ hi) hy
def own_at (vs : List Value) (i : Nat) (d : Value) : Int32 := match vs.getD i d with | .int x => x | _ => 0
theorem own_at_eq {vs : List Value} {i : Nat} {d : Value} {ty : FieldType} (h : fits ty (vs.getD i d) = true) (ht : ty = .int ∨ ty = .boolean ∨ ty = .byte ∨ ty = .char ∨ ty = .short) : vs.getD i d = .int (own_at vs i d) := by
  obtain ⟨x, hx⟩ := fit_I h ht
  simp only [own_at, hx]
def own_cp (vd vs : List Value) (dv : Value) (dp sp nn : Nat) : List Value := vd.take dp ++ ((List.range nn).map fun i => vs.getD (sp + i) dv) ++ vd.drop (dp + nn)
theorem own_conv {Z : State} {h : Heap} {a : Addr} {k : ClassId} {ty : FieldType} {n : Int32} {vs vs' : List Value} {d : Value} (F : Arv Z h a k ty n vs d) (q : ∀ i, i < n.toNatClampNeg → vs'.getD i d = vs.getD i d) : Arv Z h a k ty n vs' d := by
  obtain ⟨c, A, q1, S, q3, H, G⟩ := F
  exact ⟨c, A, q1, S, q3, fun i hi => by rw [q i (S ▸ hi)]; exact H i hi, fun i hi => by rw [q i (S ▸ hi)]; exact G i hi⟩
theorem own_mono {l : Launch} {y : MethodName} {S : Spec} {P : Array Value → State → Prop} {K : Program → Env → List Frame → State → Array Value → Prop} {Q Q' : Array Value → State → Outcome → State → Prop} (h : MetFree l y S P K Q) (hi : ∀ a U o U', Q a U o U' → Q' a U o U') : MetFree l y S P K Q' :=
  fun p e ha hc hk s m args below hf happ hP hK => by
    obtain ⟨n, o, h1, h2, h3, hq⟩ := h p e ha hc hk s m args below hf happ hP hK
    exact ⟨n, o, h1, h2, h3, hi _ _ _ _ hq⟩
theorem own_sta_keep {Z : State} {h h' : Heap} {C n d : String} {v : Value} {ws : List Addr} (F : Sta Z h C n d v) (K : Keep h h' ws) (q : ∀ x ∈ ws, ∃ c : Cell, h[x]? = some c ∧ c.vm.isStatics = false) : Sta Z h' C n d v := by
  obtain ⟨cf, i, k, f, st, cell, h1, h2, h3, h4, h5, h6, h7⟩ := F
  refine ⟨cf, i, k, f, st, cell, h1, h2, h3, h4, K.2.1 st cell h5 (fun hm => ?_), h6, h7⟩
  obtain ⟨c, e1, e2⟩ := q st hm
  cases e1.symm.trans h5
  rw [h6] at e2; cases e2
theorem own_plain_cell {Z : State} {h : Heap} {a : Addr} {C : String} (E : Exa Z h a C) : ∃ c : Cell, h[a]? = some c ∧ c.vm.isStatics = false := by
  obtain ⟨cell, k, h1, -, -, h4, -⟩ := E
  exact ⟨cell, h1, h4⟩
section OwnWide
variable {p : Program} {l : Launch} {e : Env} {R : Room} {s : State} {m : MethodId} {args : Array Value} {below : List Frame} {meth : Method} {c : Code} {T : State} {locs : List Loc} {cells slots : Nat} {Z : State} {a0 : Array Value} {EL : List (String × Nat)} {h : Heap} {vm0 : Vm} {y : MethodName} {bytes : ByteArray} {maxL : Nat} {hs : List (Nat × Nat × Nat × Nat)}
/-- the state behind a returned call, out of the callee's frame: only the heap, its count and the tables differ -/
theorem own_behind {U s₂ : State} {g : JFrame} {mk : MethodId} {a : Array Value} {L : List Loc} {k n len : Nat} {v : Option Value} {cc : Code} {ig : Instr} (hat : At U g.method cc below) (hdg : decode cc.code g.pc = .ok (ig, len))
    (hend : Ended s₂ (U.setTop g).frames (.returned v)) (hfe : ReturnedEndW (U.calling g mk a) (.returned v) s₂ L k n) :
    U.Warmed39 s₂.vm ∧ U.sameButNew ({ U with heap := s₂.heap, slotsUsed := s₂.slotsUsed } : State) L k n ∧
      s₂ = (({ U with heap := s₂.heap, slotsUsed := s₂.slotsUsed } : State).setVm s₂.vm).setTop { g with pc := g.pc + len, stack := v.toList ++ g.stack } := by
  obtain ⟨-, hW, -, hs1, r1, r2, r3, r4, r5⟩ := hfe
  have hW' : U.Warmed39 s₂.vm := hW
  obtain ⟨f0, hf0⟩ := Option.isSome_iff_exists.mp hat.top
  obtain ⟨fr, hfr⟩ := State.topJava?_eq_some.mp hf0
  obtain ⟨t0, ht0, -⟩ := State.frames_cons hfr
  rw [State.frames_setTop' g hat.top] at hend
  obtain ⟨c2, i2, len2, hc2, hd2, hf2⟩ := hend
  have hcc : c2 = cc := by
    have q : s₂.code? g.method = U.code? g.method := by rw [State.code?_eq, State.code?_eq, hW'.alike.method?]
    exact Option.some.inj ((hc2.symm.trans q).trans hat.code)
  subst hcc
  obtain ⟨rfl, rfl⟩ : ig = i2 ∧ len = len2 := by
    have q := hdg.symm.trans hd2
    simpa using q
  refine ⟨hW', ⟨by show _ = ({ U.setFrames U.frames with heap := s₂.heap, slotsUsed := s₂.slotsUsed } : State); rw [State.setFrames_self ht0], r1, r2, r3, r4, r5⟩, ?_⟩
  have q0 : s₂ = ({ s₂ with vm := (U.calling g mk a).vm } : State).setVm s₂.vm := rfl
  rw [hs1] at q0
  have q1 : s₂ = ({ (U.calling g mk a).setFrames s₂.frames with heap := s₂.heap, slotsUsed := s₂.slotsUsed } : State).setVm s₂.vm := q0
  refine q1.trans ?_
  have hfr' : (({ U with heap := s₂.heap, slotsUsed := s₂.slotsUsed } : State).setVm s₂.vm).frames = .java f0 :: fr := hfr
  rw [State.setTop_of_frames _ hfr', hf2, State.calling_eq hat.top, State.setFrames_setFrames, hfr]
  rfl
/-- a constructor with an exception table, whose law may load literals: called from a walk that may have loaded some -/
theorem own_initW {own : String} {index : Nat} {rm : Room} {W : Nat} {Q : Option Value → Heap → List Loc → Prop} {b : Addr} {argsL rest : List Value}
    (X : Stand p l e R (s.setVm vm0) m args below meth c T locs cells slots) (hx : p.tables.exec = Jvm.exec)
    (hM : MetFree l y (head1 [Cond.codeWith y bytes maxL none hs] rm) (fun a U => a = (.ref b :: argsL).toArray ∧ Z.Warmed39 U.vm ∧ U.heap = h ∧ CHv Z EL U.vm h) (fun _ _ _ _ _ => True) (fun _ U o U' => ∃ v L, o = .returned v ∧ Q v U'.heap L ∧ CHr Z EL U.vm U.heap U'.vm U'.heap ∧ ReturnedEndW U o U' L rm.cells rm.slots))
    (hZ : Z.Warmed39 vm0) (hown : vm0.findClass own = some m.cls) (hy1 : y.name = "<init>") (hy : y.cls ≠ "java/lang/invoke/MethodHandle" ∧ y.cls ≠ "java/lang/invoke/VarHandle")
    (wl : (Cond.methodLink own index y).before a0 Z = true) (wi : (Cond.instanceMethod y).before a0 Z = true) (wc : (Cond.codeWith y bytes maxL none hs).before a0 Z = true) (wz : (Cond.initialized y.cls).before a0 Z = true)
    (hf : rm.frames + 1 ≤ R.frames) (hl : W + (maxL + 11) + rm.locals ≤ R.locals) (hcl : cells + rm.cells ≤ R.cells) (hsl : slots + rm.slots ≤ R.slots) (hEL : EW Z a0 EL) (H : CHv Z EL vm0 h) (eT : T.heap = h)
    {g : JFrame} (hg : g.method = m) (hsize : g.locals.size = c.maxLocals) (hlen : ∀ sig, parseMethodDescriptor y.desc = some sig → argsL.length = sig.parameters.length) (hstack : g.stack = argsL.reverse ++ .ref b :: rest) (hW : 2 * g.monitorRoom + (rest.map fun v => v.category).sum ≤ W)
    (hd : decode c.code g.pc = .ok (.invokespecial index, 3)) {k0 : Nat} (hS : s.Since vm0 k0) (hk : k0 ≤ h.size) :
    ∃ (v : Option Value) (U : State) (L : List Loc), Stand p l e R (s.setVm U.vm) m args below meth c U (locs ++ L) (cells + rm.cells) (slots + rm.slots) ∧ s.Since U.vm U.heap.size ∧ h.size ≤ U.heap.size ∧ Z.Warmed39 (s.setVm U.vm).vm ∧ (s.setVm U.vm).vm.findClass own = some m.cls ∧ Q v U.heap L ∧ CHr Z EL vm0 h U.vm U.heap ∧
      Steps p.tables e below (T.setTop g) (U.setTop { g with pc := g.pc + 3, stack := v.toList ++ rest }) := by
  have hpl : e.platform.magicAccessors = ({} : Platform).magicAccessors := by rw [X.admits.platform]
  obtain ⟨mk, methM, cM, kM, vm1, hn, hmM, hcM, -, hlM, -, hkM, -, hW1, go⟩ := Steps.initColdArgsH (e := e) (args := args) X.here hx X.warmed hpl hown hy1 hy (mvT hZ wl) (mvT hZ wi) (mvT hZ wc) (f := g) hg hlen hstack hd
  have Y := X.noted hW1
  have hU : Z.Warmed39 vm1 := State.Warmed39.trans (t := s.setVm vm0) hZ hW1.wide
  have hn1 := Y.named hn
  have hm1 : (T.setVm vm1).vm.method? mk = some methM := by rw [show (T.setVm vm1).vm = vm1 from rfl, hW1.alike.method?]; exact hmM
  obtain ⟨k1, hk1, -⟩ := className_of_methodNamed hn1
  have hat : At (T.setVm vm1) { g with stack := rest }.method c below := by
    show At (T.setVm vm1) g.method c below
    rw [hg]; exact Y.here
  have hin : k1.init = .initialized := Cond.initialized_spec (args := args) (findClass_of_methodNamed hn1) hk1 (mvT (s := T.setVm vm1) hU wz)
  have hW' : 2 * ({ g with stack := rest } : JFrame).monitorRoom + (({ g with stack := rest } : JFrame).stack.map fun v => v.category).sum ≤ W := hW
  have happ := Spec.appliesLoose_calling (S := head1 [Cond.codeWith y bytes maxL none hs] rm) (g := { g with stack := rest }) (args := (.ref b :: argsL).toArray) hat hd hn1 hk1 hin
    (Y.room_calling (g := { g with stack := rest }) (R' := rm) hsize hm1 hcM hf (by rw [hlM]; exact Nat.le_trans (Nat.add_le_add_right (Nat.add_le_add_right hW' _) _) hl) hcl hsl)
    (by show (Cond.and _ .tt).before _ (T.setVm vm1) = true; rw [Cond.before_and, mvT (s := T.setVm vm1) hU wc]; rfl)
  obtain ⟨mid, hmid⟩ := hat.above
  have hfr : ((T.setVm vm1).setTop { g with stack := rest }).frames = (.java { g with stack := rest } :: mid) ++ below := by rw [State.frames_setTop' _ hat.top, hmid]; rfl
  obtain ⟨o, s₂, st, -, hend, v, L, rfl, hQ, hC, hfe⟩ := Steps.callFree hM p Y.admits Y.cas Y.clock (acts := []) hfr happ ⟨rfl, hU, eT, (CHv.at Y hZ hEL H).1⟩ trivial
  obtain ⟨hW2, hsame, e2⟩ := own_behind hat hd hend hfe
  have hB := hfe.2.2.1
  subst hg
  obtain ⟨X2, hS2⟩ := Y.movedW (T₂ := (({ T.setVm vm1 with heap := s₂.heap, slotsUsed := s₂.slotsUsed } : State).setVm s₂.vm)) ((Y.here.setHeapUsed s₂.heap s₂.slotsUsed).setVm hW2.alike) Y.tail rfl rfl hW2 hB hsame
  have hgr : T.heap.size ≤ s₂.heap.size := hsame.2.1
  rw [eT] at hgr
  obtain ⟨X3, hS3, hZ3, ho3⟩ := rebS hS hk X2 hS2 hgr hZ hown
  refine ⟨v, _, L, X3, hS3, hgr, hZ3, ho3, hQ, (CHv.at Y hZ hEL H).trans ?_, (go _ fun acts => by rw [doInvoke_state]; exact st).trans ?_⟩
  · rw [show h = (T.setVm vm1).heap from eT.symm]; exact hC
  · rw [← e2]; exact Steps.refl _
/-- a String that is being made is no constant's: its value is null -/
theorem own_safeS {x : Addr} {vm : Vm} (hal : Z.vm.Alike vm) (E : Exa Z h x "java/lang/String") (F : Fld Z h x "java/lang/String" "value" "[B" .null) : Safe Z EL vm h x := fun B => by
  obtain ⟨q0, -, u, a, -, q, -, ⟨cS, ⟨⟨s1, s2, s3, ⟨cv, kv, iv, s4, s4'⟩, s5, s6, s7, s8, s9, s10, ⟨hst, k9, hk9, comp, hkind9⟩, s12, s13, s14, s15, s16⟩, hfS, hcS⟩, ⟨kS, k1, k2, k3⟩, hB, hbyt⟩, hy⟩ := B
  obtain ⟨cell, cf, kf, i, f, g1, g2, g3, g4, g5, g6, g7⟩ := F
  rcases hy with rfl | rfl
  · have s1 : h[q.sa]? = some q.sC := s1
    cases s1.symm.trans g1
    obtain ⟨kv', z4⟩ := ff_back (Z := Z) (U := Wst Z vm h) hal s4
    have q1 := z4.symm.trans g2
    simp only [Option.some.injEq, Prod.mk.injEq] at q1
    obtain ⟨-, -, -, rfl⟩ := q1
    cases s6.symm.trans g3
    cases s8.symm.trans g7
  · have s10 : h[q.sd]? = some q.SA := s10
    obtain ⟨cl, k, q1, q2, q3, q4, q5⟩ := E
    cases s10.symm.trans q1
    have hB' : Z.vm.findClass "[B" = some q.SA.cls := by rw [← hal.findClass]; exact hB
    obtain ⟨k3, r1, r2⟩ := Vm.findClass_spec hB'
    obtain ⟨k4, r3, r4⟩ := Vm.findClass_spec q2
    cases r1.symm.trans r3
    have := r2.symm.trans r4
    revert this; decide
end OwnWide
theorem own_EW {Z : State} {a0 : Array Value} (hw : ∀ d ∈ tables_1, d.before a0 Z = true) : EW Z a0 consts_1 := EW.cons (hw _ (List.mem_of_getElem? (i := 11) rfl)) (by decide) (EW.cons (hw _ (List.mem_of_getElem? (i := 66) rfl)) (by decide) EW.nil)
theorem own_wS {Z : State} {a0 : Array Value} (hw : ∀ d ∈ tables_1, d.before a0 Z = true) : ∀ a ∈ Bundle.stringAtoms, a.before a0 Z = true := fun d hd => by
  simp only [Bundle.stringAtoms, List.mem_cons, List.not_mem_nil, or_false] at hd
  rcases hd with rfl | rfl | rfl | rfl | rfl | rfl | rfl
  · exact hw _ (List.mem_of_getElem? (i := 12) rfl)
  · exact hw _ (List.mem_of_getElem? (i := 13) rfl)
  · exact hw _ (List.mem_of_getElem? (i := 1) rfl)
  · exact hw _ (List.mem_of_getElem? (i := 14) rfl)
  · exact hw _ (List.mem_of_getElem? (i := 15) rfl)
  · exact hw _ (List.mem_of_getElem? (i := 16) rfl)
  · exact hw _ (List.mem_of_getElem? (i := 17) rfl)
theorem own_since (s : State) (n : Nat) : s.Since s.vm n := State.WarmedH.since (State.WarmedH.refl s) n
theorem d3_0 : decode jdk_31_method_11_code 0 = .ok (.aload_n 0, 1) := by decide +kernel
theorem d3_1 : decode jdk_31_method_11_code 1 = .ok (.ifnonnull 12, 3) := by decide +kernel
theorem d3_13 : decode jdk_31_method_11_code 13 = .ok (.aload_n 0, 1) := by decide +kernel
theorem d3_14 : decode jdk_31_method_11_code 14 = .ok (.areturn, 1) := by decide +kernel
theorem pn_java_util_Objects : plainName "java/util/Objects" = true := by first | (simp [plainName, overriddenIn]; done) | decide +kernel
theorem ef_3_RR (m : MethodId) (x0 : Addr) (x1 : Addr) : entryFrame m #[(.ref x0), (.ref x1)] 2 = mkF m 0 #[.val (.ref x0), .val (.ref x1)] [] := by first | (simp [entryFrame, mkF, argsToLocals, Value.category]; done) | rfl
def Q_rn2 (Z : State) (a1 : Addr) (a2 : Addr) (h0 : Heap) (n0 : Nat) (v : Option Value) (h : Heap) (L : List Loc) : Prop := v = some (.ref a1) ∧ Fr n0 L ∧ h = h0
set_option maxRecDepth 65536 in
set_option maxHeartbeats 40000000 in
theorem rm_rn2 (l : Launch) (Z : State) (a0 : Array Value) (hw : ∀ d ∈ tables_1, d.before a0 Z = true) (ws : List Jvm.Cond) (a1 : Addr) (a2 : Addr) (h0 : Heap) (n0 : Nat) (Z0 : n0 ≤ h0.size) :
    MetFree l (⟨"java/util/Objects", "requireNonNull", "(Ljava/lang/Object;Ljava/lang/String;)Ljava/lang/Object;"⟩ : MethodName) (head1 (Jvm.Cond.code (⟨"java/util/Objects", "requireNonNull", "(Ljava/lang/Object;Ljava/lang/String;)Ljava/lang/Object;"⟩ : MethodName) jdk_31_method_11_code 2 (some (.object "java/lang/Object")) :: ws) ({ frames := 0, cells := 0, slots := 0, locals := 0 } : Room)) (fun a U => a = #[(.ref a1), (.ref a2)] ∧ Z.Warmed39 U.vm ∧ U.heap = h0) (fun _ _ _ _ _ => True) (fun _ U o U' => ∃ v L, o = .returned v ∧ Q_rn2 Z a1 a2 h0 n0 v U'.heap L ∧ FrameEnd U o U' L ({ frames := 0, cells := 0, slots := 0, locals := 0 } : Room).cells ({ frames := 0, cells := 0, slots := 0, locals := 0 } : Room).slots) := by
  refine MetFree.of_bodySF (plainFor_of_name pn_java_util_Objects) hisR ?_
  intro p e s m args below meth c s₁ Bd hml0 hP hK
  obtain ⟨rfl, hZ, hh⟩ := hP
  have hx := Bd.exec
  have hby := Bd.bytes
  have hml : c.maxLocals = 2 := hml0
  have hown : s.vm.findClass "java/util/Objects" = some m.cls := findClass_of_methodNamed Bd.named
  have hnm := (name_of_methodNamed Bd.named Bd.method).1
  have X0 : Stand p l e ({ frames := 0, cells := 0, slots := 0, locals := 0 } : Room) s m #[(.ref a1), (.ref a2)] below meth c s₁ [] 0 0 := Stand.of_body Bd
  have e0 : s₁.heap = h0 := by rw [← hh, Bd.state]; rfl
  have N0 := Fr.nil n0
  have pre0 : ∀ t, Steps p.tables e below (s₁.setTop (mkF m 0 #[.val (.ref a1), .val (.ref a2)] [])) t → Steps p.tables e below (s₁.setTop (entryFrame m #[(.ref a1), (.ref a2)] 2)) t := fun t k => castTop (ef_3_RR m a1 a2) k
  obtain ⟨fs, hr, hrun, hended, hW, hsame⟩ := X0.leave (v := some (.ref a1)) (fun h => by rw [Bd.returns] at h; cases h) Bd.notSynchronized
  refine ⟨_, _, pre0 _ ?_, hrun, hended, _, _, rfl, ?_, ⟨_, rfl⟩, hW, hsame.mono (by decide) (by decide)⟩
  · show Steps p.tables e below (s₁.setTop (mkF m 0 #[.val (.ref a1), .val (.ref a2)] [])) _
    refine XS.aloadN X0.here hx rfl (hb hby d3_0) rfl rfl ?_
    show Steps p.tables e below (s₁.setTop (mkF m 1 #[.val (.ref a1), .val (.ref a2)] [(.ref a1)])) _
    refine XS.ifnonnullYes X0.here hx rfl (pc0 := 1) (pc' := 13) rfl (hb hby d3_1) rfl (by decide) (by decide) ?_
    show Steps p.tables e below (s₁.setTop (mkF m 13 #[.val (.ref a1), .val (.ref a2)] [])) _
    refine XS.aloadN X0.here hx rfl (hb hby d3_13) rfl rfl ?_
    show Steps p.tables e below (s₁.setTop (mkF m 14 #[.val (.ref a1), .val (.ref a2)] [(.ref a1)])) _
    exact retOut X0 hx (t := (.object "java/lang/Object")) (i := .areturn) Bd.returns rfl (Or.inr (Or.inr (Or.inr (Or.inr ⟨rfl, rfl, rfl⟩)))) (hb hby d3_14) hr
  · show Q_rn2 Z a1 a2 h0 n0 _ s₁.heap _
    rw [e0]
    exact ⟨rfl, N0, rfl⟩
theorem d8_0 : decode jdk_31_method_10_code 0 = .ok (.aload_n 0, 1) := by decide +kernel
theorem d8_1 : decode jdk_31_method_10_code 1 = .ok (.ifnonnull 11, 3) := by decide +kernel
theorem d8_12 : decode jdk_31_method_10_code 12 = .ok (.aload_n 0, 1) := by decide +kernel
theorem d8_13 : decode jdk_31_method_10_code 13 = .ok (.areturn, 1) := by decide +kernel
theorem ef_8_R (m : MethodId) (x0 : Addr) : entryFrame m #[(.ref x0)] 1 = mkF m 0 #[.val (.ref x0)] [] := by first | (simp [entryFrame, mkF, argsToLocals, Value.category]; done) | rfl
def Q_rn1 (Z : State) (a1 : Addr) (h0 : Heap) (n0 : Nat) (v : Option Value) (h : Heap) (L : List Loc) : Prop := v = some (.ref a1) ∧ Fr n0 L ∧ h = h0
set_option maxRecDepth 65536 in
set_option maxHeartbeats 40000000 in
theorem rm_rn1 (l : Launch) (Z : State) (a0 : Array Value) (hw : ∀ d ∈ tables_1, d.before a0 Z = true) (ws : List Jvm.Cond) (a1 : Addr) (h0 : Heap) (n0 : Nat) (Z0 : n0 ≤ h0.size) :
    MetFree l (⟨"java/util/Objects", "requireNonNull", "(Ljava/lang/Object;)Ljava/lang/Object;"⟩ : MethodName) (head1 (Jvm.Cond.code (⟨"java/util/Objects", "requireNonNull", "(Ljava/lang/Object;)Ljava/lang/Object;"⟩ : MethodName) jdk_31_method_10_code 1 (some (.object "java/lang/Object")) :: ws) ({ frames := 0, cells := 0, slots := 0, locals := 0 } : Room)) (fun a U => a = #[(.ref a1)] ∧ Z.Warmed39 U.vm ∧ U.heap = h0) (fun _ _ _ _ _ => True) (fun _ U o U' => ∃ v L, o = .returned v ∧ Q_rn1 Z a1 h0 n0 v U'.heap L ∧ FrameEnd U o U' L ({ frames := 0, cells := 0, slots := 0, locals := 0 } : Room).cells ({ frames := 0, cells := 0, slots := 0, locals := 0 } : Room).slots) := by
  refine MetFree.of_bodySF (plainFor_of_name pn_java_util_Objects) hisR ?_
  intro p e s m args below meth c s₁ Bd hml0 hP hK
  obtain ⟨rfl, hZ, hh⟩ := hP
  have hx := Bd.exec
  have hby := Bd.bytes
  have hml : c.maxLocals = 1 := hml0
  have hown : s.vm.findClass "java/util/Objects" = some m.cls := findClass_of_methodNamed Bd.named
  have hnm := (name_of_methodNamed Bd.named Bd.method).1
  have X0 : Stand p l e ({ frames := 0, cells := 0, slots := 0, locals := 0 } : Room) s m #[(.ref a1)] below meth c s₁ [] 0 0 := Stand.of_body Bd
  have e0 : s₁.heap = h0 := by rw [← hh, Bd.state]; rfl
  have N0 := Fr.nil n0
  have pre0 : ∀ t, Steps p.tables e below (s₁.setTop (mkF m 0 #[.val (.ref a1)] [])) t → Steps p.tables e below (s₁.setTop (entryFrame m #[(.ref a1)] 1)) t := fun t k => castTop (ef_8_R m a1) k
  obtain ⟨fs, hr, hrun, hended, hW, hsame⟩ := X0.leave (v := some (.ref a1)) (fun h => by rw [Bd.returns] at h; cases h) Bd.notSynchronized
  refine ⟨_, _, pre0 _ ?_, hrun, hended, _, _, rfl, ?_, ⟨_, rfl⟩, hW, hsame.mono (by decide) (by decide)⟩
  · show Steps p.tables e below (s₁.setTop (mkF m 0 #[.val (.ref a1)] [])) _
    refine XS.aloadN X0.here hx rfl (hb hby d8_0) rfl rfl ?_
    show Steps p.tables e below (s₁.setTop (mkF m 1 #[.val (.ref a1)] [(.ref a1)])) _
    refine XS.ifnonnullYes X0.here hx rfl (pc0 := 1) (pc' := 12) rfl (hb hby d8_1) rfl (by decide) (by decide) ?_
    show Steps p.tables e below (s₁.setTop (mkF m 12 #[.val (.ref a1)] [])) _
    refine XS.aloadN X0.here hx rfl (hb hby d8_12) rfl rfl ?_
    show Steps p.tables e below (s₁.setTop (mkF m 13 #[.val (.ref a1)] [(.ref a1)])) _
    exact retOut X0 hx (t := (.object "java/lang/Object")) (i := .areturn) Bd.returns rfl (Or.inr (Or.inr (Or.inr (Or.inr ⟨rfl, rfl, rfl⟩)))) (hb hby d8_13) hr
  · show Q_rn1 Z a1 h0 n0 _ s₁.heap _
    rw [e0]
    exact ⟨rfl, N0, rfl⟩
theorem pd_0 : parseMethodDescriptor "(Ljava/lang/Object;Ljava/lang/String;)Ljava/lang/Object;" = some ⟨[(.object "java/lang/Object"), (.object "java/lang/String")], some (.object "java/lang/Object")⟩ := by decide +kernel
theorem d1_0 : decode prog_48_method_1_code 0 = .ok (.aload_n 0, 1) := by decide +kernel
theorem d1_1 : decode prog_48_method_1_code 1 = .ok (.invokespecial 1, 3) := by decide +kernel
theorem d1_4 : decode prog_48_method_1_code 4 = .ok (.aload_n 0, 1) := by decide +kernel
theorem d1_5 : decode prog_48_method_1_code 5 = .ok (.aload_n 1, 1) := by decide +kernel
theorem d1_6 : decode prog_48_method_1_code 6 = .ok (.ldc 7, 2) := by decide +kernel
theorem d1_8 : decode prog_48_method_1_code 8 = .ok (.invokestatic 9, 3) := by decide +kernel
theorem d1_11 : decode prog_48_method_1_code 11 = .ok (.checkcast 15, 3) := by decide +kernel
theorem d1_14 : decode prog_48_method_1_code 14 = .ok (.putfield 17, 3) := by decide +kernel
theorem d1_17 : decode prog_48_method_1_code 17 = .ok (.return_, 1) := by decide +kernel
theorem pn_com_example_fieldstone_fieldstone_core_KeyReader : plainName "com/example/fieldstone/fieldstone/core/KeyReader" = true := by first | (simp [plainName, overriddenIn]; done) | decide +kernel
theorem ef_1_RR (m : MethodId) (x0 : Addr) (x1 : Addr) : entryFrame m #[(.ref x0), (.ref x1)] 2 = mkF m 0 #[.val (.ref x0), .val (.ref x1)] [] := by first | (simp [entryFrame, mkF, argsToLocals, Value.category]; done) | rfl
def Q_init (Z : State) (a1 : Addr) (a2 : Addr) (h0 : Heap) (n0 : Nat) (v : Option Value) (h : Heap) (L : List Loc) : Prop := v = none ∧ Fr n0 L ∧ Keep h0 h [a1] ∧ Exa Z h a1 "com/example/fieldstone/fieldstone/core/KeyReader" ∧ Fld Z h a1 "com/example/fieldstone/fieldstone/core/KeyReader" "key" "[B" (.ref a2) ∧ Fld Z h a1 "com/example/fieldstone/fieldstone/core/KeyReader" "position" "I" (.int (0 : Int32))
set_option maxRecDepth 65536 in
set_option maxHeartbeats 40000000 in
theorem rm_init (l : Launch) (Z : State) (a0 : Array Value) (hw : ∀ d ∈ tables_1, d.before a0 Z = true) (ws : List Jvm.Cond) (a1 : Addr) (a2 : Addr) (h0 : Heap) (n0 : Nat) (Z0 : n0 ≤ h0.size) (E_a2 : Exa Z h0 a2 "[B") (E_a1 : Exa Z h0 a1 "com/example/fieldstone/fieldstone/core/KeyReader") (F_key_a1 : Fld Z h0 a1 "com/example/fieldstone/fieldstone/core/KeyReader" "key" "[B" .null) (g_a1 : n0 ≤ a1) (F_position_a1 : Fld Z h0 a1 "com/example/fieldstone/fieldstone/core/KeyReader" "position" "I" (.int (0 : Int32))) :
    MetFree l (⟨"com/example/fieldstone/fieldstone/core/KeyReader", "<init>", "([B)V"⟩ : MethodName) (head1 (Jvm.Cond.code (⟨"com/example/fieldstone/fieldstone/core/KeyReader", "<init>", "([B)V"⟩ : MethodName) prog_48_method_1_code 2 none :: ws) ({ frames := 1, cells := 2, slots := 16, locals := 14 } : Room)) (fun a U => a = #[(.ref a1), (.ref a2)] ∧ Z.Warmed39 U.vm ∧ U.heap = h0 ∧ CHv Z consts_1 U.vm h0) (fun _ _ _ _ _ => True) (fun _ U o U' => ∃ v L, o = .returned v ∧ Q_init Z a1 a2 h0 n0 v U'.heap L ∧ CHr Z consts_1 U.vm U.heap U'.vm U'.heap ∧ ReturnedEndW U o U' L ({ frames := 1, cells := 2, slots := 16, locals := 14 } : Room).cells ({ frames := 1, cells := 2, slots := 16, locals := 14 } : Room).slots) := by
  refine MetFree.of_bodySF (plainFor_of_name pn_com_example_fieldstone_fieldstone_core_KeyReader) hisR ?_
  intro p e s m args below meth c s₁ Bd hml0 hP hK
  obtain ⟨rfl, hZ, hh, CH0⟩ := hP
  have hx := Bd.exec
  have hby := Bd.bytes
  have hml : c.maxLocals = 2 := hml0
  have hown : s.vm.findClass "com/example/fieldstone/fieldstone/core/KeyReader" = some m.cls := findClass_of_methodNamed Bd.named
  have hnm := (name_of_methodNamed Bd.named Bd.method).1
  have X0 : Stand p l e ({ frames := 1, cells := 2, slots := 16, locals := 14 } : Room) s m #[(.ref a1), (.ref a2)] below meth c s₁ [] 0 0 := Stand.of_body Bd
  have e0 : s₁.heap = h0 := by rw [← hh, Bd.state]; rfl
  have N0 := Fr.nil n0
  have hZ : Z.Warmed39 (s.setVm s.vm).vm := hZ
  have hown : (s.setVm s.vm).vm.findClass "com/example/fieldstone/fieldstone/core/KeyReader" = some m.cls := hown
  have hZ0 := hZ
  have hown0 := hown
  have X0 : Stand p l e ({ frames := 1, cells := 2, slots := 16, locals := 14 } : Room) (s.setVm s.vm) m #[(.ref a1), (.ref a2)] below meth c s₁ [] 0 0 := X0
  have hS : s.Since s.vm h0.size := own_since s _
  have hk : h0.size ≤ h0.size := Nat.le_refl _
  have hEW := own_EW hw
  have CR : CHr Z consts_1 s.vm h0 s.vm h0 := CHr.refl CH0
  have S0_a1 : Safe Z consts_1 s.vm h0 a1 := Safe.exa hZ.alike E_a1 (by decide) (by decide)
  have pre0 : ∀ t, Steps p.tables e below (s₁.setTop (mkF m 0 #[.val (.ref a1), .val (.ref a2)] [])) t → Steps p.tables e below (s₁.setTop (entryFrame m #[(.ref a1), (.ref a2)] 2)) t := fun t k => castTop (ef_1_RR m a1 a2) k
  obtain ⟨T1, X1, e1, st1⟩ := initO X0 hx hZ hown (hw _ (List.mem_of_getElem? (i := 8) rfl)) (hw _ (List.mem_of_getElem? (i := 9) rfl)) (hw _ (List.mem_of_getElem? (i := 10) rfl)) e0 (g := (mkF m 1 #[.val (.ref a1), .val (.ref a2)] [(.ref a1)])) rfl (by rw [hml]; rfl) rfl (hb hby d1_1) (by decide) (W := 0) (by show 2 * 0 + _ ≤ _; exact Nat.le_of_eq rfl) (by decide)
  obtain ⟨b2, T2, h2, k2, X2, e2, E2, hS, hk, hZ, hown, CR2, -, st2⟩ := ldcOH X1 hx hZ hown (hw _ (List.mem_of_getElem? (i := 11) rfl)) (own_wS hw) e1 hS hk hEW CR.1 (g := (mkF m 6 #[.val (.ref a1), .val (.ref a2)] [(.ref a2), (.ref a1)])) rfl (hb hby d1_6) (n := 12) (by decide) (by decide) (by decide) (by decide)
  have hZ2 := hZ
  have hown2 := hown
  have CR := CR.trans CR2
  have ne_a2_a1 : a2 ≠ a1 := ne_exa E_a2 E_a1 (by decide)
  have f3 : Exa Z h2 a2 "[B" := E_a2.ext E2
  have f4 : Exa Z h2 a1 "com/example/fieldstone/fieldstone/core/KeyReader" := E_a1.ext E2
  have f5 : Fld Z h2 a1 "com/example/fieldstone/fieldstone/core/KeyReader" "key" "[B" .null := F_key_a1.ext E2
  have f6 : Fld Z h2 a1 "com/example/fieldstone/fieldstone/core/KeyReader" "position" "I" (.int (0 : Int32)) := F_position_a1.ext E2
  have K7 : Keep h0 h2 [a1] := (Keep.refl h0 [a1]).ext E2
  have Zs8 : n0 ≤ h2.size := Nat.le_trans Z0 E2.1
  obtain ⟨_, _, ⟨T9, L9, k9, n9⟩, -, X9, ⟨Lc9, hQ9, l9, y9, z9⟩, st9⟩ := Jvm.LawKit.callS X2 hx (y := (⟨"java/util/Objects", "requireNonNull", "(Ljava/lang/Object;Ljava/lang/String;)Ljava/lang/Object;"⟩ : MethodName)) hown (mvT hZ (hw _ (List.mem_of_getElem? (i := 18) rfl))) (mvT hZ (hw _ (List.mem_of_getElem? (i := 19) rfl))) (mvT hZ (hw _ (List.mem_of_getElem? (i := 20) rfl))) (mvT hZ (hw _ (List.mem_of_getElem? (i := 21) rfl))) (by decide) (backOf (W := 1) (rm_rn2 l Z a0 hw [] a2 b2 h2 n0 Zs8 ) hZ (hw _ (List.mem_of_getElem? (i := 21) rfl)) (hw _ (List.mem_of_getElem? (i := 20) rfl)) (by decide) (by decide)) (g := (mkF m 8 #[.val (.ref a1), .val (.ref a2)] [(.ref b2), (.ref a2), (.ref a1)])) rfl (by rw [hml]; rfl) (argsL := [(.ref a2), (.ref b2)]) (rest := [(.ref a1)]) (lenOf pd_0 rfl) rfl (by show 2 * 0 + _ ≤ _; exact Nat.le_of_eq rfl) (hb hby d1_8) (fun _ _ => ⟨rfl, e2, (by decide : 2 + 0 ≤ _), (by decide : 16 + 0 ≤ _)⟩)
  dsimp only [Pt.U, Pt.locs, Pt.cells, Pt.slots] at X9 l9 y9 z9 st9 hQ9
  subst l9 y9 z9
  obtain ⟨rfl, Nq9, e9⟩ := hQ9
  have N10 := Fr.app N0 Nq9
  obtain ⟨T11, X11, e11, st11⟩ := castY X9 hx hZ hown (hw _ (List.mem_of_getElem? (i := 22) rfl)) e9 (Ins.self f3) (g := (mkF m 11 #[.val (.ref a1), .val (.ref a2)] [(.ref a2), (.ref a1)])) rfl rfl (hb hby d1_11)
  obtain ⟨T12, h12, X12, e12, W12, st12⟩ := putF X11 hx hZ hown (host := "") (Or.inl (hw _ (List.mem_of_getElem? (i := 24) rfl))) Via.refl e11 f5 f4 (Or.inr ⟨(hw _ (List.mem_of_getElem? (i := 25) rfl)), rfl, hnm⟩) (hw _ (List.mem_of_getElem? (i := 3) rfl)) (ty := (.array .byte)) (by decide) rfl rfl (g := (mkF m 14 #[.val (.ref a1), .val (.ref a2)] [(.ref a2), (.ref a1)])) rfl rfl (hb hby d1_14)
  have f13 : Exa Z h12 a2 "[B" := f3.wr W12
  have f14 : Exa Z h12 a1 "com/example/fieldstone/fieldstone/core/KeyReader" := f4.wr W12
  have f15 : Fld Z h12 a1 "com/example/fieldstone/fieldstone/core/KeyReader" "key" "[B" (.ref a2) := f5.same W12
  have f16 : Fld Z h12 a1 "com/example/fieldstone/fieldstone/core/KeyReader" "position" "I" (.int (0 : Int32)) := f6.other W12 (Or.inr (slot_ne (Or.inl (hw _ (List.mem_of_getElem? (i := 32) rfl))) (Or.inr (hw _ (List.mem_of_getElem? (i := 25) rfl))) (by decide) (t := .int) (t' := (.array .byte)) (by decide) (by decide)))
  have K17 : Keep h0 h12 [a1] := K7.wr W12 (Or.inl (List.mem_of_getElem? (i := 0) rfl))
  have N18 := Fr.snoc X12 N10 g_a1
  have CR := CR.trans (CHr.wr W12 (CR.safe E_a1.lt S0_a1) CR.1)
  have hk : _ ≤ h12.size := Nat.le_trans hk (Keep.of_wr W12).1
  have Zs19 : n0 ≤ h12.size := Nat.le_trans Zs8 (Keep.of_wr W12).1
  obtain ⟨fs, hr, hrun, hended, hRE⟩ := X12.leaveW hS (by rw [e12]; exact hk) (v := none) (fun _ => rfl) Bd.notSynchronized
  refine ⟨_, _, pre0 _ ?_, hrun, hended, _, _, rfl, ?_, ?_, hRE.1, hRE.2.1, hRE.2.2.1, hRE.2.2.2.mono (by decide) (by decide)⟩
  · show Steps p.tables e below (s₁.setTop (mkF m 0 #[.val (.ref a1), .val (.ref a2)] [])) _
    refine XS.aloadN X0.here hx rfl (hb hby d1_0) rfl rfl ?_
    show Steps p.tables e below (s₁.setTop (mkF m 1 #[.val (.ref a1), .val (.ref a2)] [(.ref a1)])) _
    refine st1 _ ?_
    show Steps p.tables e below (T1.setTop (mkF m 4 #[.val (.ref a1), .val (.ref a2)] [])) _
    refine XS.aloadN X1.here hx rfl (hb hby d1_4) rfl rfl ?_
    refine XS.aloadN X1.here hx rfl (hb hby d1_5) rfl rfl ?_
    show Steps p.tables e below (T1.setTop (mkF m 6 #[.val (.ref a1), .val (.ref a2)] [(.ref a2), (.ref a1)])) _
    refine st2 _ ?_
    show Steps p.tables e below (T2.setTop (mkF m 8 #[.val (.ref a1), .val (.ref a2)] [(.ref b2), (.ref a2), (.ref a1)])) _
    refine st9 _ ?_
    show Steps p.tables e below (T9.setTop (mkF m 11 #[.val (.ref a1), .val (.ref a2)] [(.ref a2), (.ref a1)])) _
    refine st11 _ ?_
    show Steps p.tables e below (T11.setTop (mkF m 14 #[.val (.ref a1), .val (.ref a2)] [(.ref a2), (.ref a1)])) _
    refine st12 _ ?_
    show Steps p.tables e below (T12.setTop (mkF m 17 #[.val (.ref a1), .val (.ref a2)] [])) _
    exact X12.returnOut hx Bd.returns (hb hby d1_17) hr
  · show Q_init Z a1 a2 h0 n0 _ T12.heap _
    rw [e12]
    exact ⟨rfl, N18, K17, f14, f15, f16⟩
  · show CHr Z consts_1 s.vm s.heap T12.vm T12.heap
    rw [hh, e12]
    exact CR.trans (CHv.at X12 hZ hEW CR.1)
theorem d4_0 : decode prog_48_method_9_code 0 = .ok (.aload_n 0, 1) := by decide +kernel
theorem d4_1 : decode prog_48_method_9_code 1 = .ok (.getfield 21, 3) := by decide +kernel
theorem d4_4 : decode prog_48_method_9_code 4 = .ok (.aload_n 0, 1) := by decide +kernel
theorem d4_5 : decode prog_48_method_9_code 5 = .ok (.getfield 17, 3) := by decide +kernel
theorem d4_8 : decode prog_48_method_9_code 8 = .ok (.arraylength, 1) := by decide +kernel
theorem d4_9 : decode prog_48_method_9_code 9 = .ok (.if_icmp .ge 7, 3) := by decide +kernel
theorem d4_12 : decode prog_48_method_9_code 12 = .ok (.iconst 1, 1) := by decide +kernel
theorem d4_13 : decode prog_48_method_9_code 13 = .ok (.goto 4, 3) := by decide +kernel
theorem d4_17 : decode prog_48_method_9_code 17 = .ok (.ireturn, 1) := by decide +kernel
theorem d4_16 : decode prog_48_method_9_code 16 = .ok (.iconst 0, 1) := by decide +kernel
theorem ef_4_R (m : MethodId) (x0 : Addr) : entryFrame m #[(.ref x0)] 1 = mkF m 0 #[.val (.ref x0)] [] := by first | (simp [entryFrame, mkF, argsToLocals, Value.category]; done) | rfl
def f_has (w_position_a1 : Int32) (n_w_key_a1 : Int32) : Int32 := (if w_position_a1 < n_w_key_a1 then (1 : Int32) else (0 : Int32))
def Q_has (Z : State) (a1 : Addr) (w_position_a1 : Int32) (w_key_a1 : Addr) (k_w_key_a1 : ClassId) (n_w_key_a1 : Int32) (vs_w_key_a1 : List Value) (h0 : Heap) (n0 : Nat) (v : Option Value) (h : Heap) (L : List Loc) : Prop := v = some (.int (f_has w_position_a1 n_w_key_a1)) ∧ Fr n0 L ∧ h = h0
set_option maxRecDepth 65536 in
set_option maxHeartbeats 40000000 in
theorem rm_has_f (l : Launch) (Z : State) (a0 : Array Value) (hw : ∀ d ∈ tables_1, d.before a0 Z = true) (ws : List Jvm.Cond) (a1 : Addr) (w_position_a1 : Int32) (w_key_a1 : Addr) (k_w_key_a1 : ClassId) (n_w_key_a1 : Int32) (vs_w_key_a1 : List Value) (h0 : Heap) (n0 : Nat) (Z0 : n0 ≤ h0.size) (F_position_a1 : Fld Z h0 a1 "com/example/fieldstone/fieldstone/core/KeyReader" "position" "I" (.int w_position_a1)) (F_key_a1 : Fld Z h0 a1 "com/example/fieldstone/fieldstone/core/KeyReader" "key" "[B" (.ref w_key_a1)) (V_w_key_a1 : Arv Z h0 w_key_a1 k_w_key_a1 .byte n_w_key_a1 vs_w_key_a1 (.int (0 : Int32))) (hc0 : w_position_a1 < n_w_key_a1) (hret : (f_has w_position_a1 n_w_key_a1) = (1 : Int32)) :
    MetFree l (⟨"com/example/fieldstone/fieldstone/core/KeyReader", "hasRemaining", "()Z"⟩ : MethodName) (head1 (Jvm.Cond.code (⟨"com/example/fieldstone/fieldstone/core/KeyReader", "hasRemaining", "()Z"⟩ : MethodName) prog_48_method_9_code 1 (some .boolean) :: ws) ({ frames := 0, cells := 0, slots := 0, locals := 0 } : Room)) (fun a U => a = #[(.ref a1)] ∧ Z.Warmed39 U.vm ∧ U.heap = h0) (fun _ _ _ _ _ => True) (fun _ U o U' => ∃ v L, o = .returned v ∧ Q_has Z a1 w_position_a1 w_key_a1 k_w_key_a1 n_w_key_a1 vs_w_key_a1 h0 n0 v U'.heap L ∧ FrameEnd U o U' L ({ frames := 0, cells := 0, slots := 0, locals := 0 } : Room).cells ({ frames := 0, cells := 0, slots := 0, locals := 0 } : Room).slots) := by
  refine MetFree.of_bodySF (plainFor_of_name pn_com_example_fieldstone_fieldstone_core_KeyReader) hisR ?_
  intro p e s m args below meth c s₁ Bd hml0 hP hK
  obtain ⟨rfl, hZ, hh⟩ := hP
  have hx := Bd.exec
  have hby := Bd.bytes
  have hml : c.maxLocals = 1 := hml0
  have hown : s.vm.findClass "com/example/fieldstone/fieldstone/core/KeyReader" = some m.cls := findClass_of_methodNamed Bd.named
  have hnm := (name_of_methodNamed Bd.named Bd.method).1
  have X0 : Stand p l e ({ frames := 0, cells := 0, slots := 0, locals := 0 } : Room) s m #[(.ref a1)] below meth c s₁ [] 0 0 := Stand.of_body Bd
  have e0 : s₁.heap = h0 := by rw [← hh, Bd.state]; rfl
  have N0 := Fr.nil n0
  have pre0 : ∀ t, Steps p.tables e below (s₁.setTop (mkF m 0 #[.val (.ref a1)] [])) t → Steps p.tables e below (s₁.setTop (entryFrame m #[(.ref a1)] 1)) t := fun t k => castTop (ef_4_R m a1) k
  obtain ⟨T1, X1, e1, st1⟩ := getF X0 hx hZ hown (host := "") (Or.inl (hw _ (List.mem_of_getElem? (i := 31) rfl))) Via.refl e0 F_position_a1 (g := (mkF m 1 #[.val (.ref a1)] [(.ref a1)])) rfl rfl (hb hby d4_1)
  obtain ⟨T2, X2, e2, st2⟩ := getF X1 hx hZ hown (host := "") (Or.inl (hw _ (List.mem_of_getElem? (i := 24) rfl))) Via.refl e1 F_key_a1 (g := (mkF m 5 #[.val (.ref a1)] [(.ref a1), (.int w_position_a1)])) rfl rfl (hb hby d4_5)
  obtain ⟨clo3, Aro3, -, So3, No3, -, -⟩ := id V_w_key_a1
  obtain ⟨fs, hr, hrun, hended, hW, hsame⟩ := X2.leave (v := some (.int (1 : Int32))) (fun h => by rw [Bd.returns] at h; cases h) Bd.notSynchronized
  refine ⟨_, _, pre0 _ ?_, hrun, hended, _, _, rfl, ?_, ⟨_, rfl⟩, hW, hsame.mono (by decide) (by decide)⟩
  · show Steps p.tables e below (s₁.setTop (mkF m 0 #[.val (.ref a1)] [])) _
    refine XS.aloadN X0.here hx rfl (hb hby d4_0) rfl rfl ?_
    show Steps p.tables e below (s₁.setTop (mkF m 1 #[.val (.ref a1)] [(.ref a1)])) _
    refine st1 _ ?_
    show Steps p.tables e below (T1.setTop (mkF m 4 #[.val (.ref a1)] [(.int w_position_a1)])) _
    refine XS.aloadN X1.here hx rfl (hb hby d4_4) rfl rfl ?_
    show Steps p.tables e below (T1.setTop (mkF m 5 #[.val (.ref a1)] [(.ref a1), (.int w_position_a1)])) _
    refine st2 _ ?_
    show Steps p.tables e below (T2.setTop (mkF m 8 #[.val (.ref a1)] [(.ref w_key_a1), (.int w_position_a1)])) _
    refine X2.arraylength hx (by rw [e2]; exact Aro3.1) (State.isArrayOf_alike hZ.alike Aro3.2.1) (g := (mkF m 8 #[.val (.ref a1)] [(.ref w_key_a1), (.int w_position_a1)])) rfl rfl (hb hby d4_8) _ ?_
    rw [len_of So3 No3]
    show Steps p.tables e below (T2.setTop (mkF m 9 #[.val (.ref a1)] [(.int n_w_key_a1), (.int w_position_a1)])) _
    refine XS.icmpNo X2.here hx rfl (hb hby d4_9) rfl (tlt hc0).2.1 ?_
    show Steps p.tables e below (T2.setTop (mkF m 12 #[.val (.ref a1)] [])) _
    refine XS.iconst X2.here hx rfl (hb hby d4_12) ?_
    show Steps p.tables e below (T2.setTop (mkF m 13 #[.val (.ref a1)] [(.int (1 : Int32))])) _
    refine XS.goto X2.here hx rfl (pc0 := 13) (pc' := 17) rfl (hb hby d4_13) (by decide) (by decide) ?_
    show Steps p.tables e below (T2.setTop (mkF m 17 #[.val (.ref a1)] [(.int (1 : Int32))])) _
    exact retN X2 hx (t := .boolean) Bd.returns (by simp) (hb hby d4_17) hr
  · show Q_has Z a1 w_position_a1 w_key_a1 k_w_key_a1 n_w_key_a1 vs_w_key_a1 h0 n0 _ T2.heap _
    rw [e2]
    exact ⟨by rw [hret], N0, rfl⟩
set_option maxRecDepth 65536 in
set_option maxHeartbeats 40000000 in
theorem rm_has_t (l : Launch) (Z : State) (a0 : Array Value) (hw : ∀ d ∈ tables_1, d.before a0 Z = true) (ws : List Jvm.Cond) (a1 : Addr) (w_position_a1 : Int32) (w_key_a1 : Addr) (k_w_key_a1 : ClassId) (n_w_key_a1 : Int32) (vs_w_key_a1 : List Value) (h0 : Heap) (n0 : Nat) (Z0 : n0 ≤ h0.size) (F_position_a1 : Fld Z h0 a1 "com/example/fieldstone/fieldstone/core/KeyReader" "position" "I" (.int w_position_a1)) (F_key_a1 : Fld Z h0 a1 "com/example/fieldstone/fieldstone/core/KeyReader" "key" "[B" (.ref w_key_a1)) (V_w_key_a1 : Arv Z h0 w_key_a1 k_w_key_a1 .byte n_w_key_a1 vs_w_key_a1 (.int (0 : Int32))) (hc0 : ¬ (w_position_a1 < n_w_key_a1)) (hret : (f_has w_position_a1 n_w_key_a1) = (0 : Int32)) :
    MetFree l (⟨"com/example/fieldstone/fieldstone/core/KeyReader", "hasRemaining", "()Z"⟩ : MethodName) (head1 (Jvm.Cond.code (⟨"com/example/fieldstone/fieldstone/core/KeyReader", "hasRemaining", "()Z"⟩ : MethodName) prog_48_method_9_code 1 (some .boolean) :: ws) ({ frames := 0, cells := 0, slots := 0, locals := 0 } : Room)) (fun a U => a = #[(.ref a1)] ∧ Z.Warmed39 U.vm ∧ U.heap = h0) (fun _ _ _ _ _ => True) (fun _ U o U' => ∃ v L, o = .returned v ∧ Q_has Z a1 w_position_a1 w_key_a1 k_w_key_a1 n_w_key_a1 vs_w_key_a1 h0 n0 v U'.heap L ∧ FrameEnd U o U' L ({ frames := 0, cells := 0, slots := 0, locals := 0 } : Room).cells ({ frames := 0, cells := 0, slots := 0, locals := 0 } : Room).slots) := by
  refine MetFree.of_bodySF (plainFor_of_name pn_com_example_fieldstone_fieldstone_core_KeyReader) hisR ?_
  intro p e s m args below meth c s₁ Bd hml0 hP hK
  obtain ⟨rfl, hZ, hh⟩ := hP
  have hx := Bd.exec
  have hby := Bd.bytes
  have hml : c.maxLocals = 1 := hml0
  have hown : s.vm.findClass "com/example/fieldstone/fieldstone/core/KeyReader" = some m.cls := findClass_of_methodNamed Bd.named
  have hnm := (name_of_methodNamed Bd.named Bd.method).1
  have X0 : Stand p l e ({ frames := 0, cells := 0, slots := 0, locals := 0 } : Room) s m #[(.ref a1)] below meth c s₁ [] 0 0 := Stand.of_body Bd
  have e0 : s₁.heap = h0 := by rw [← hh, Bd.state]; rfl
  have N0 := Fr.nil n0
  have pre0 : ∀ t, Steps p.tables e below (s₁.setTop (mkF m 0 #[.val (.ref a1)] [])) t → Steps p.tables e below (s₁.setTop (entryFrame m #[(.ref a1)] 1)) t := fun t k => castTop (ef_4_R m a1) k
  obtain ⟨T1, X1, e1, st1⟩ := getF X0 hx hZ hown (host := "") (Or.inl (hw _ (List.mem_of_getElem? (i := 31) rfl))) Via.refl e0 F_position_a1 (g := (mkF m 1 #[.val (.ref a1)] [(.ref a1)])) rfl rfl (hb hby d4_1)
  obtain ⟨T2, X2, e2, st2⟩ := getF X1 hx hZ hown (host := "") (Or.inl (hw _ (List.mem_of_getElem? (i := 24) rfl))) Via.refl e1 F_key_a1 (g := (mkF m 5 #[.val (.ref a1)] [(.ref a1), (.int w_position_a1)])) rfl rfl (hb hby d4_5)
  obtain ⟨clo3, Aro3, -, So3, No3, -, -⟩ := id V_w_key_a1
  obtain ⟨fs, hr, hrun, hended, hW, hsame⟩ := X2.leave (v := some (.int (0 : Int32))) (fun h => by rw [Bd.returns] at h; cases h) Bd.notSynchronized
  refine ⟨_, _, pre0 _ ?_, hrun, hended, _, _, rfl, ?_, ⟨_, rfl⟩, hW, hsame.mono (by decide) (by decide)⟩
  · show Steps p.tables e below (s₁.setTop (mkF m 0 #[.val (.ref a1)] [])) _
    refine XS.aloadN X0.here hx rfl (hb hby d4_0) rfl rfl ?_
    show Steps p.tables e below (s₁.setTop (mkF m 1 #[.val (.ref a1)] [(.ref a1)])) _
    refine st1 _ ?_
    show Steps p.tables e below (T1.setTop (mkF m 4 #[.val (.ref a1)] [(.int w_position_a1)])) _
    refine XS.aloadN X1.here hx rfl (hb hby d4_4) rfl rfl ?_
    show Steps p.tables e below (T1.setTop (mkF m 5 #[.val (.ref a1)] [(.ref a1), (.int w_position_a1)])) _
    refine st2 _ ?_
    show Steps p.tables e below (T2.setTop (mkF m 8 #[.val (.ref a1)] [(.ref w_key_a1), (.int w_position_a1)])) _
    refine X2.arraylength hx (by rw [e2]; exact Aro3.1) (State.isArrayOf_alike hZ.alike Aro3.2.1) (g := (mkF m 8 #[.val (.ref a1)] [(.ref w_key_a1), (.int w_position_a1)])) rfl rfl (hb hby d4_8) _ ?_
    rw [len_of So3 No3]
    show Steps p.tables e below (T2.setTop (mkF m 9 #[.val (.ref a1)] [(.int n_w_key_a1), (.int w_position_a1)])) _
    refine XS.icmpYes X2.here hx rfl (pc0 := 9) (pc' := 16) rfl (hb hby d4_9) rfl (flt hc0).2.1 (by decide) (by decide) ?_
    show Steps p.tables e below (T2.setTop (mkF m 16 #[.val (.ref a1)] [])) _
    refine XS.iconst X2.here hx rfl (hb hby d4_16) ?_
    show Steps p.tables e below (T2.setTop (mkF m 17 #[.val (.ref a1)] [(.int (0 : Int32))])) _
    exact retN X2 hx (t := .boolean) Bd.returns (by simp) (hb hby d4_17) hr
  · show Q_has Z a1 w_position_a1 w_key_a1 k_w_key_a1 n_w_key_a1 vs_w_key_a1 h0 n0 _ T2.heap _
    rw [e2]
    exact ⟨by rw [hret], N0, rfl⟩
set_option maxRecDepth 65536 in
set_option maxHeartbeats 40000000 in
theorem rm_has (l : Launch) (Z : State) (a0 : Array Value) (hw : ∀ d ∈ tables_1, d.before a0 Z = true) (ws : List Jvm.Cond) (a1 : Addr) (w_position_a1 : Int32) (w_key_a1 : Addr) (k_w_key_a1 : ClassId) (n_w_key_a1 : Int32) (vs_w_key_a1 : List Value) (h0 : Heap) (n0 : Nat) (Z0 : n0 ≤ h0.size) (F_position_a1 : Fld Z h0 a1 "com/example/fieldstone/fieldstone/core/KeyReader" "position" "I" (.int w_position_a1)) (F_key_a1 : Fld Z h0 a1 "com/example/fieldstone/fieldstone/core/KeyReader" "key" "[B" (.ref w_key_a1)) (V_w_key_a1 : Arv Z h0 w_key_a1 k_w_key_a1 .byte n_w_key_a1 vs_w_key_a1 (.int (0 : Int32))) :
    MetFree l (⟨"com/example/fieldstone/fieldstone/core/KeyReader", "hasRemaining", "()Z"⟩ : MethodName) (head1 (Jvm.Cond.code (⟨"com/example/fieldstone/fieldstone/core/KeyReader", "hasRemaining", "()Z"⟩ : MethodName) prog_48_method_9_code 1 (some .boolean) :: ws) ({ frames := 0, cells := 0, slots := 0, locals := 0 } : Room)) (fun a U => a = #[(.ref a1)] ∧ Z.Warmed39 U.vm ∧ U.heap = h0) (fun _ _ _ _ _ => True) (fun _ U o U' => ∃ v L, o = .returned v ∧ Q_has Z a1 w_position_a1 w_key_a1 k_w_key_a1 n_w_key_a1 vs_w_key_a1 h0 n0 v U'.heap L ∧ FrameEnd U o U' L ({ frames := 0, cells := 0, slots := 0, locals := 0 } : Room).cells ({ frames := 0, cells := 0, slots := 0, locals := 0 } : Room).slots) := by
  by_cases c0 : w_position_a1 < n_w_key_a1
  · skip
    exact rm_has_f l Z a0 hw ws a1 w_position_a1 w_key_a1 k_w_key_a1 n_w_key_a1 vs_w_key_a1 h0 n0 Z0 F_position_a1 F_key_a1 V_w_key_a1 c0 (by unfold f_has; rw [if_pos c0])
  · skip
    exact rm_has_t l Z a0 hw ws a1 w_position_a1 w_key_a1 k_w_key_a1 n_w_key_a1 vs_w_key_a1 h0 n0 Z0 F_position_a1 F_key_a1 V_w_key_a1 c0 (by unfold f_has; rw [if_neg c0])
theorem d12_0 : decode prog_48_method_7_code 0 = .ok (.aload_n 0, 1) := by decide +kernel
theorem d12_1 : decode prog_48_method_7_code 1 = .ok (.getfield 21, 3) := by decide +kernel
theorem d12_4 : decode prog_48_method_7_code 4 = .ok (.aload_n 0, 1) := by decide +kernel
theorem d12_5 : decode prog_48_method_7_code 5 = .ok (.getfield 17, 3) := by decide +kernel
theorem d12_8 : decode prog_48_method_7_code 8 = .ok (.arraylength, 1) := by decide +kernel
theorem d12_9 : decode prog_48_method_7_code 9 = .ok (.if_icmp .ge 28, 3) := by decide +kernel
theorem d12_12 : decode prog_48_method_7_code 12 = .ok (.aload_n 0, 1) := by decide +kernel
theorem d12_13 : decode prog_48_method_7_code 13 = .ok (.getfield 17, 3) := by decide +kernel
theorem d12_16 : decode prog_48_method_7_code 16 = .ok (.aload_n 0, 1) := by decide +kernel
theorem d12_17 : decode prog_48_method_7_code 17 = .ok (.getfield 21, 3) := by decide +kernel
theorem d12_20 : decode prog_48_method_7_code 20 = .ok (.baload, 1) := by decide +kernel
theorem d12_21 : decode prog_48_method_7_code 21 = .ok (.ifCond .eq 26, 3) := by decide +kernel
theorem d12_47 : decode prog_48_method_7_code 47 = .ok (.aload_n 0, 1) := by decide +kernel
theorem d12_48 : decode prog_48_method_7_code 48 = .ok (.getfield 17, 3) := by decide +kernel
theorem d12_51 : decode prog_48_method_7_code 51 = .ok (.aload_n 0, 1) := by decide +kernel
theorem d12_52 : decode prog_48_method_7_code 52 = .ok (.dup, 1) := by decide +kernel
theorem d12_53 : decode prog_48_method_7_code 53 = .ok (.getfield 21, 3) := by decide +kernel
theorem d12_56 : decode prog_48_method_7_code 56 = .ok (.dup_x1, 1) := by decide +kernel
theorem d12_57 : decode prog_48_method_7_code 57 = .ok (.iconst 1, 1) := by decide +kernel
theorem d12_58 : decode prog_48_method_7_code 58 = .ok (.iadd, 1) := by decide +kernel
theorem d12_59 : decode prog_48_method_7_code 59 = .ok (.putfield 21, 3) := by decide +kernel
theorem d12_62 : decode prog_48_method_7_code 62 = .ok (.baload, 1) := by decide +kernel
theorem d12_63 : decode prog_48_method_7_code 63 = .ok (.iconst 1, 1) := by decide +kernel
theorem d12_64 : decode prog_48_method_7_code 64 = .ok (.if_icmp .ne 7, 3) := by decide +kernel
theorem d12_71 : decode prog_48_method_7_code 71 = .ok (.iconst 0, 1) := by decide +kernel
theorem d12_72 : decode prog_48_method_7_code 72 = .ok (.ireturn, 1) := by decide +kernel
theorem ef_12_R (m : MethodId) (x0 : Addr) : entryFrame m #[(.ref x0)] 1 = mkF m 0 #[.val (.ref x0)] [] := by first | (simp [entryFrame, mkF, argsToLocals, Value.category]; done) | rfl
def Q_rbool (Z : State) (a1 : Addr) (w_position_a1 : Int32) (w_key_a1 : Addr) (k_w_key_a1 : ClassId) (n_w_key_a1 : Int32) (vs_w_key_a1 : List Value) (h0 : Heap) (n0 : Nat) (v : Option Value) (h : Heap) (L : List Loc) : Prop := v = some (.int (0 : Int32)) ∧ Fr n0 L ∧ Keep h0 h [a1] ∧ Fld Z h a1 "com/example/fieldstone/fieldstone/core/KeyReader" "position" "I" (.int (w_position_a1 + (1 : Int32))) ∧ Fld Z h a1 "com/example/fieldstone/fieldstone/core/KeyReader" "key" "[B" (.ref w_key_a1) ∧ Exa Z h a1 "com/example/fieldstone/fieldstone/core/KeyReader"
set_option maxRecDepth 65536 in
set_option maxHeartbeats 40000000 in
theorem rm_rbool (l : Launch) (Z : State) (a0 : Array Value) (hw : ∀ d ∈ tables_1, d.before a0 Z = true) (ws : List Jvm.Cond) (a1 : Addr) (w_position_a1 : Int32) (w_key_a1 : Addr) (k_w_key_a1 : ClassId) (n_w_key_a1 : Int32) (vs_w_key_a1 : List Value) (h0 : Heap) (n0 : Nat) (Z0 : n0 ≤ h0.size) (F_position_a1 : Fld Z h0 a1 "com/example/fieldstone/fieldstone/core/KeyReader" "position" "I" (.int w_position_a1)) (F_key_a1 : Fld Z h0 a1 "com/example/fieldstone/fieldstone/core/KeyReader" "key" "[B" (.ref w_key_a1)) (V_w_key_a1 : Arv Z h0 w_key_a1 k_w_key_a1 .byte n_w_key_a1 vs_w_key_a1 (.int (0 : Int32))) (E_a1 : Exa Z h0 a1 "com/example/fieldstone/fieldstone/core/KeyReader") (g_a1 : n0 ≤ a1) (ne_w_key_a1_a1 : w_key_a1 ≠ a1) (hp0 : w_position_a1 < n_w_key_a1) (hp1 : ¬ (w_position_a1 < (0 : Int32))) (hp2 : (own_at vs_w_key_a1 (w_position_a1).toNatClampNeg (.int (0 : Int32))) = (0 : Int32)) (hp3 : ¬ ((own_at vs_w_key_a1 (w_position_a1).toNatClampNeg (.int (0 : Int32))) = (1 : Int32))) :
    MetFree l (⟨"com/example/fieldstone/fieldstone/core/KeyReader", "readBoolean", "()Z"⟩ : MethodName) (head1 (Jvm.Cond.code (⟨"com/example/fieldstone/fieldstone/core/KeyReader", "readBoolean", "()Z"⟩ : MethodName) prog_48_method_7_code 1 (some .boolean) :: ws) ({ frames := 0, cells := 0, slots := 0, locals := 0 } : Room)) (fun a U => a = #[(.ref a1)] ∧ Z.Warmed39 U.vm ∧ U.heap = h0) (fun _ _ _ _ _ => True) (fun _ U o U' => ∃ v L, o = .returned v ∧ Q_rbool Z a1 w_position_a1 w_key_a1 k_w_key_a1 n_w_key_a1 vs_w_key_a1 h0 n0 v U'.heap L ∧ FrameEnd U o U' L ({ frames := 0, cells := 0, slots := 0, locals := 0 } : Room).cells ({ frames := 0, cells := 0, slots := 0, locals := 0 } : Room).slots) := by
  refine MetFree.of_bodySF (plainFor_of_name pn_com_example_fieldstone_fieldstone_core_KeyReader) hisR ?_
  intro p e s m args below meth c s₁ Bd hml0 hP hK
  obtain ⟨rfl, hZ, hh⟩ := hP
  have hx := Bd.exec
  have hby := Bd.bytes
  have hml : c.maxLocals = 1 := hml0
  have hown : s.vm.findClass "com/example/fieldstone/fieldstone/core/KeyReader" = some m.cls := findClass_of_methodNamed Bd.named
  have hnm := (name_of_methodNamed Bd.named Bd.method).1
  have X0 : Stand p l e ({ frames := 0, cells := 0, slots := 0, locals := 0 } : Room) s m #[(.ref a1)] below meth c s₁ [] 0 0 := Stand.of_body Bd
  have e0 : s₁.heap = h0 := by rw [← hh, Bd.state]; rfl
  have N0 := Fr.nil n0
  have pre0 : ∀ t, Steps p.tables e below (s₁.setTop (mkF m 0 #[.val (.ref a1)] [])) t → Steps p.tables e below (s₁.setTop (entryFrame m #[(.ref a1)] 1)) t := fun t k => castTop (ef_12_R m a1) k
  obtain ⟨T1, X1, e1, st1⟩ := getF X0 hx hZ hown (host := "") (Or.inl (hw _ (List.mem_of_getElem? (i := 31) rfl))) Via.refl e0 F_position_a1 (g := (mkF m 1 #[.val (.ref a1)] [(.ref a1)])) rfl rfl (hb hby d12_1)
  obtain ⟨T2, X2, e2, st2⟩ := getF X1 hx hZ hown (host := "") (Or.inl (hw _ (List.mem_of_getElem? (i := 24) rfl))) Via.refl e1 F_key_a1 (g := (mkF m 5 #[.val (.ref a1)] [(.ref a1), (.int w_position_a1)])) rfl rfl (hb hby d12_5)
  obtain ⟨clo3, Aro3, -, So3, No3, -, -⟩ := id V_w_key_a1
  obtain ⟨T4, X4, e4, st4⟩ := getF X2 hx hZ hown (host := "") (Or.inl (hw _ (List.mem_of_getElem? (i := 24) rfl))) Via.refl e2 F_key_a1 (g := (mkF m 13 #[.val (.ref a1)] [(.ref a1)])) rfl rfl (hb hby d12_13)
  obtain ⟨T5, X5, e5, st5⟩ := getF X4 hx hZ hown (host := "") (Or.inl (hw _ (List.mem_of_getElem? (i := 31) rfl))) Via.refl e4 F_position_a1 (g := (mkF m 17 #[.val (.ref a1)] [(.ref a1), (.ref w_key_a1)])) rfl rfl (hb hby d12_17)
  obtain ⟨clo6, Aro6, qo6, So6, No6, Ho6, Go6⟩ := id V_w_key_a1
  have hino6 : ¬ (w_position_a1 < 0 ∨ clo6.slots.size ≤ (w_position_a1).toNatClampNeg) := inb_of So6 ⟨hp1, hp0⟩
  obtain ⟨T7, X7, e7, st7⟩ := getF X5 hx hZ hown (host := "") (Or.inl (hw _ (List.mem_of_getElem? (i := 24) rfl))) Via.refl e5 F_key_a1 (g := (mkF m 48 #[.val (.ref a1)] [(.ref a1)])) rfl rfl (hb hby d12_48)
  obtain ⟨T8, X8, e8, st8⟩ := getF X7 hx hZ hown (host := "") (Or.inl (hw _ (List.mem_of_getElem? (i := 31) rfl))) Via.refl e7 F_position_a1 (g := (mkF m 53 #[.val (.ref a1)] [(.ref a1), (.ref a1), (.ref w_key_a1)])) rfl rfl (hb hby d12_53)
  obtain ⟨T9, h9, X9, e9, W9, st9⟩ := putF X8 hx hZ hown (host := "") (Or.inl (hw _ (List.mem_of_getElem? (i := 31) rfl))) Via.refl e8 F_position_a1 E_a1 (Or.inl (hw _ (List.mem_of_getElem? (i := 32) rfl))) (hw _ (List.mem_of_getElem? (i := 3) rfl)) (ty := .int) (by decide) rfl rfl (g := (mkF m 59 #[.val (.ref a1)] [(.int (w_position_a1 + (1 : Int32))), (.ref a1), (.int w_position_a1), (.ref w_key_a1)])) rfl rfl (hb hby d12_59)
  have f10 : Fld Z h9 a1 "com/example/fieldstone/fieldstone/core/KeyReader" "position" "I" (.int (w_position_a1 + (1 : Int32))) := F_position_a1.same W9
  have f11 : Fld Z h9 a1 "com/example/fieldstone/fieldstone/core/KeyReader" "key" "[B" (.ref w_key_a1) := F_key_a1.other W9 (Or.inr (slot_ne (Or.inr (hw _ (List.mem_of_getElem? (i := 25) rfl))) (Or.inl (hw _ (List.mem_of_getElem? (i := 32) rfl))) (by decide) (t := (.array .byte)) (t' := .int) (by decide) (by decide)))
  have f12 : Arv Z h9 w_key_a1 k_w_key_a1 .byte n_w_key_a1 vs_w_key_a1 (.int (0 : Int32)) := V_w_key_a1.other W9 ne_w_key_a1_a1
  have f13 : Exa Z h9 a1 "com/example/fieldstone/fieldstone/core/KeyReader" := E_a1.wr W9
  have K14 : Keep h0 h9 [a1] := (Keep.refl h0 [a1]).wr W9 (Or.inl (List.mem_of_getElem? (i := 0) rfl))
  have N15 := Fr.snoc X9 N0 g_a1
  have Zs16 : n0 ≤ h9.size := Nat.le_trans Z0 (Keep.of_wr W9).1
  obtain ⟨clo17, Aro17, qo17, So17, No17, Ho17, Go17⟩ := id f12
  have hino17 : ¬ (w_position_a1 < 0 ∨ clo17.slots.size ≤ (w_position_a1).toNatClampNeg) := inb_of So17 ⟨hp1, hp0⟩
  obtain ⟨fs, hr, hrun, hended, hW, hsame⟩ := X9.leave (v := some (.int (0 : Int32))) (fun h => by rw [Bd.returns] at h; cases h) Bd.notSynchronized
  refine ⟨_, _, pre0 _ ?_, hrun, hended, _, _, rfl, ?_, ⟨_, rfl⟩, hW, hsame.mono (by decide) (by decide)⟩
  · show Steps p.tables e below (s₁.setTop (mkF m 0 #[.val (.ref a1)] [])) _
    refine XS.aloadN X0.here hx rfl (hb hby d12_0) rfl rfl ?_
    show Steps p.tables e below (s₁.setTop (mkF m 1 #[.val (.ref a1)] [(.ref a1)])) _
    refine st1 _ ?_
    show Steps p.tables e below (T1.setTop (mkF m 4 #[.val (.ref a1)] [(.int w_position_a1)])) _
    refine XS.aloadN X1.here hx rfl (hb hby d12_4) rfl rfl ?_
    show Steps p.tables e below (T1.setTop (mkF m 5 #[.val (.ref a1)] [(.ref a1), (.int w_position_a1)])) _
    refine st2 _ ?_
    show Steps p.tables e below (T2.setTop (mkF m 8 #[.val (.ref a1)] [(.ref w_key_a1), (.int w_position_a1)])) _
    refine X2.arraylength hx (by rw [e2]; exact Aro3.1) (State.isArrayOf_alike hZ.alike Aro3.2.1) (g := (mkF m 8 #[.val (.ref a1)] [(.ref w_key_a1), (.int w_position_a1)])) rfl rfl (hb hby d12_8) _ ?_
    rw [len_of So3 No3]
    show Steps p.tables e below (T2.setTop (mkF m 9 #[.val (.ref a1)] [(.int n_w_key_a1), (.int w_position_a1)])) _
    refine XS.icmpNo X2.here hx rfl (hb hby d12_9) rfl (tlt hp0).2.1 ?_
    show Steps p.tables e below (T2.setTop (mkF m 12 #[.val (.ref a1)] [])) _
    refine XS.aloadN X2.here hx rfl (hb hby d12_12) rfl rfl ?_
    show Steps p.tables e below (T2.setTop (mkF m 13 #[.val (.ref a1)] [(.ref a1)])) _
    refine st4 _ ?_
    show Steps p.tables e below (T4.setTop (mkF m 16 #[.val (.ref a1)] [(.ref w_key_a1)])) _
    refine XS.aloadN X4.here hx rfl (hb hby d12_16) rfl rfl ?_
    show Steps p.tables e below (T4.setTop (mkF m 17 #[.val (.ref a1)] [(.ref a1), (.ref w_key_a1)])) _
    refine st5 _ ?_
    show Steps p.tables e below (T5.setTop (mkF m 20 #[.val (.ref a1)] [(.int w_position_a1), (.ref w_key_a1)])) _
    refine X5.baloadBytes hx (j := w_position_a1) (v := (.int (own_at vs_w_key_a1 (w_position_a1).toNatClampNeg (.int (0 : Int32))))) (by rw [e5]; exact Aro6.1) (State.isArrayOf_alike hZ.alike Aro6.2.1) Aro6.2.2 hino6 (Ho6.at hino6 (own_at_eq (Go6 _ (Nat.lt_of_not_le fun y => hino6 (Or.inr y))) (by simp))) (g := (mkF m 20 #[.val (.ref a1)] [(.int w_position_a1), (.ref w_key_a1)])) rfl rfl (hb hby d12_20) _ ?_
    show Steps p.tables e below (T5.setTop (mkF m 21 #[.val (.ref a1)] [(.int (own_at vs_w_key_a1 (w_position_a1).toNatClampNeg (.int (0 : Int32))))])) _
    refine XS.ifYes X5.here hx rfl (pc0 := 21) (pc' := 47) rfl (hb hby d12_21) rfl ((if0 _ _).trans (teq hp2).1) (by decide) (by decide) ?_
    show Steps p.tables e below (T5.setTop (mkF m 47 #[.val (.ref a1)] [])) _
    refine XS.aloadN X5.here hx rfl (hb hby d12_47) rfl rfl ?_
    show Steps p.tables e below (T5.setTop (mkF m 48 #[.val (.ref a1)] [(.ref a1)])) _
    refine st7 _ ?_
    show Steps p.tables e below (T7.setTop (mkF m 51 #[.val (.ref a1)] [(.ref w_key_a1)])) _
    refine XS.aloadN X7.here hx rfl (hb hby d12_51) rfl rfl ?_
    show Steps p.tables e below (T7.setTop (mkF m 52 #[.val (.ref a1)] [(.ref a1), (.ref w_key_a1)])) _
    refine XS.dup X7.here hx rfl (hb hby d12_52) rfl rfl ?_
    show Steps p.tables e below (T7.setTop (mkF m 53 #[.val (.ref a1)] [(.ref a1), (.ref a1), (.ref w_key_a1)])) _
    refine st8 _ ?_
    show Steps p.tables e below (T8.setTop (mkF m 56 #[.val (.ref a1)] [(.int w_position_a1), (.ref a1), (.ref w_key_a1)])) _
    refine XS.dupX1 X8.here hx rfl (hb hby d12_56) rfl rfl rfl ?_
    show Steps p.tables e below (T8.setTop (mkF m 57 #[.val (.ref a1)] [(.int w_position_a1), (.ref a1), (.int w_position_a1), (.ref w_key_a1)])) _
    refine XS.iconst X8.here hx rfl (hb hby d12_57) ?_
    show Steps p.tables e below (T8.setTop (mkF m 58 #[.val (.ref a1)] [(.int (1 : Int32)), (.int w_position_a1), (.ref a1), (.int w_position_a1), (.ref w_key_a1)])) _
    refine XS.iadd X8.here hx rfl (hb hby d12_58) rfl ?_
    show Steps p.tables e below (T8.setTop (mkF m 59 #[.val (.ref a1)] [(.int (w_position_a1 + (1 : Int32))), (.ref a1), (.int w_position_a1), (.ref w_key_a1)])) _
    refine st9 _ ?_
    show Steps p.tables e below (T9.setTop (mkF m 62 #[.val (.ref a1)] [(.int w_position_a1), (.ref w_key_a1)])) _
    refine X9.baloadBytes hx (j := w_position_a1) (v := (.int (own_at vs_w_key_a1 (w_position_a1).toNatClampNeg (.int (0 : Int32))))) (by rw [e9]; exact Aro17.1) (State.isArrayOf_alike hZ.alike Aro17.2.1) Aro17.2.2 hino17 (Ho17.at hino17 (own_at_eq (Go17 _ (Nat.lt_of_not_le fun y => hino17 (Or.inr y))) (by simp))) (g := (mkF m 62 #[.val (.ref a1)] [(.int w_position_a1), (.ref w_key_a1)])) rfl rfl (hb hby d12_62) _ ?_
    show Steps p.tables e below (T9.setTop (mkF m 63 #[.val (.ref a1)] [(.int (own_at vs_w_key_a1 (w_position_a1).toNatClampNeg (.int (0 : Int32))))])) _
    refine XS.iconst X9.here hx rfl (hb hby d12_63) ?_
    show Steps p.tables e below (T9.setTop (mkF m 64 #[.val (.ref a1)] [(.int (1 : Int32)), (.int (own_at vs_w_key_a1 (w_position_a1).toNatClampNeg (.int (0 : Int32))))])) _
    refine XS.icmpYes X9.here hx rfl (pc0 := 64) (pc' := 71) rfl (hb hby d12_64) rfl (feq hp3).2 (by decide) (by decide) ?_
    show Steps p.tables e below (T9.setTop (mkF m 71 #[.val (.ref a1)] [])) _
    refine XS.iconst X9.here hx rfl (hb hby d12_71) ?_
    show Steps p.tables e below (T9.setTop (mkF m 72 #[.val (.ref a1)] [(.int (0 : Int32))])) _
    exact retN X9 hx (t := .boolean) Bd.returns (by simp) (hb hby d12_72) hr
  · show Q_rbool Z a1 w_position_a1 w_key_a1 k_w_key_a1 n_w_key_a1 vs_w_key_a1 h0 n0 _ T9.heap _
    rw [e9]
    exact ⟨rfl, N15, K14, f10, f11, f13⟩
def own_c1 (vs_w_key_a1 : List Value) (w_position_a1 : Int32) : Int64 := (((0 : Int64) <<< ((8 : Int32) &&& 0x3f).toInt64) ||| (((own_at vs_w_key_a1 ((w_position_a1 + (0 : Int32))).toNatClampNeg (.int (0 : Int32))) &&& (255 : Int32)).toInt64))
def own_c2 (vs_w_key_a1 : List Value) (w_position_a1 : Int32) : Int64 := (((own_c1 vs_w_key_a1 w_position_a1) <<< ((8 : Int32) &&& 0x3f).toInt64) ||| (((own_at vs_w_key_a1 ((w_position_a1 + (1 : Int32))).toNatClampNeg (.int (0 : Int32))) &&& (255 : Int32)).toInt64))
def own_c3 (vs_w_key_a1 : List Value) (w_position_a1 : Int32) : Int64 := (((own_c2 vs_w_key_a1 w_position_a1) <<< ((8 : Int32) &&& 0x3f).toInt64) ||| (((own_at vs_w_key_a1 ((w_position_a1 + (2 : Int32))).toNatClampNeg (.int (0 : Int32))) &&& (255 : Int32)).toInt64))
def own_c4 (vs_w_key_a1 : List Value) (w_position_a1 : Int32) : Int64 := (((own_c3 vs_w_key_a1 w_position_a1) <<< ((8 : Int32) &&& 0x3f).toInt64) ||| (((own_at vs_w_key_a1 ((w_position_a1 + (3 : Int32))).toNatClampNeg (.int (0 : Int32))) &&& (255 : Int32)).toInt64))
theorem d14_0 : decode prog_48_method_10_code 0 = .ok (.aload_n 0, 1) := by decide +kernel
theorem d14_1 : decode prog_48_method_10_code 1 = .ok (.getfield 17, 3) := by decide +kernel
theorem d14_4 : decode prog_48_method_10_code 4 = .ok (.arraylength, 1) := by decide +kernel
theorem d14_5 : decode prog_48_method_10_code 5 = .ok (.aload_n 0, 1) := by decide +kernel
theorem d14_6 : decode prog_48_method_10_code 6 = .ok (.getfield 21, 3) := by decide +kernel
theorem d14_9 : decode prog_48_method_10_code 9 = .ok (.isub, 1) := by decide +kernel
theorem d14_10 : decode prog_48_method_10_code 10 = .ok (.iload_n 1, 1) := by decide +kernel
theorem d14_11 : decode prog_48_method_10_code 11 = .ok (.if_icmp .ge 13, 3) := by decide +kernel
theorem d14_24 : decode prog_48_method_10_code 24 = .ok (.lconst 0, 1) := by decide +kernel
theorem d14_25 : decode prog_48_method_10_code 25 = .ok (.lstore_n 2, 1) := by decide +kernel
theorem d14_26 : decode prog_48_method_10_code 26 = .ok (.iconst 0, 1) := by decide +kernel
theorem d14_27 : decode prog_48_method_10_code 27 = .ok (.istore 4, 2) := by decide +kernel
theorem d14_29 : decode prog_48_method_10_code 29 = .ok (.iload 4, 2) := by decide +kernel
theorem d14_31 : decode prog_48_method_10_code 31 = .ok (.iload_n 1, 1) := by decide +kernel
theorem d14_32 : decode prog_48_method_10_code 32 = .ok (.if_icmp .ge 32, 3) := by decide +kernel
theorem d14_35 : decode prog_48_method_10_code 35 = .ok (.lload_n 2, 1) := by decide +kernel
theorem d14_36 : decode prog_48_method_10_code 36 = .ok (.bipush 8, 2) := by decide +kernel
theorem d14_38 : decode prog_48_method_10_code 38 = .ok (.lshl, 1) := by decide +kernel
theorem d14_39 : decode prog_48_method_10_code 39 = .ok (.aload_n 0, 1) := by decide +kernel
theorem d14_40 : decode prog_48_method_10_code 40 = .ok (.getfield 17, 3) := by decide +kernel
theorem d14_43 : decode prog_48_method_10_code 43 = .ok (.aload_n 0, 1) := by decide +kernel
theorem d14_44 : decode prog_48_method_10_code 44 = .ok (.getfield 21, 3) := by decide +kernel
theorem d14_47 : decode prog_48_method_10_code 47 = .ok (.iload 4, 2) := by decide +kernel
theorem d14_49 : decode prog_48_method_10_code 49 = .ok (.iadd, 1) := by decide +kernel
theorem d14_50 : decode prog_48_method_10_code 50 = .ok (.baload, 1) := by decide +kernel
theorem d14_51 : decode prog_48_method_10_code 51 = .ok (.sipush 255, 3) := by decide +kernel
theorem d14_54 : decode prog_48_method_10_code 54 = .ok (.iand, 1) := by decide +kernel
theorem d14_55 : decode prog_48_method_10_code 55 = .ok (.i2l, 1) := by decide +kernel
theorem d14_56 : decode prog_48_method_10_code 56 = .ok (.lor, 1) := by decide +kernel
theorem d14_57 : decode prog_48_method_10_code 57 = .ok (.lstore_n 2, 1) := by decide +kernel
theorem d14_58 : decode prog_48_method_10_code 58 = .ok (.iinc 4 1, 3) := by decide +kernel
theorem d14_61 : decode prog_48_method_10_code 61 = .ok (.goto (-32), 3) := by decide +kernel
theorem d14_64 : decode prog_48_method_10_code 64 = .ok (.aload_n 0, 1) := by decide +kernel
theorem d14_65 : decode prog_48_method_10_code 65 = .ok (.dup, 1) := by decide +kernel
theorem d14_66 : decode prog_48_method_10_code 66 = .ok (.getfield 21, 3) := by decide +kernel
theorem d14_69 : decode prog_48_method_10_code 69 = .ok (.iload_n 1, 1) := by decide +kernel
theorem d14_70 : decode prog_48_method_10_code 70 = .ok (.iadd, 1) := by decide +kernel
theorem d14_71 : decode prog_48_method_10_code 71 = .ok (.putfield 21, 3) := by decide +kernel
theorem d14_74 : decode prog_48_method_10_code 74 = .ok (.lload_n 2, 1) := by decide +kernel
theorem d14_75 : decode prog_48_method_10_code 75 = .ok (.lreturn, 1) := by decide +kernel
theorem ef_14_RI (m : MethodId) (x0 : Addr) (x1 : Int32) : entryFrame m #[(.ref x0), (.int x1)] 5 = mkF m 0 #[.val (.ref x0), .val (.int x1), .unset, .unset, .unset] [] := by first | (simp [entryFrame, mkF, argsToLocals, Value.category]; done) | rfl
def Q_rsf4 (Z : State) (a1 : Addr) (w_key_a1 : Addr) (k_w_key_a1 : ClassId) (n_w_key_a1 : Int32) (vs_w_key_a1 : List Value) (w_position_a1 : Int32) (h0 : Heap) (n0 : Nat) (v : Option Value) (h : Heap) (L : List Loc) : Prop := v = some (.long (own_c4 vs_w_key_a1 w_position_a1)) ∧ Fr n0 L ∧ Keep h0 h [a1] ∧ Fld Z h a1 "com/example/fieldstone/fieldstone/core/KeyReader" "key" "[B" (.ref w_key_a1) ∧ Fld Z h a1 "com/example/fieldstone/fieldstone/core/KeyReader" "position" "I" (.int (w_position_a1 + (4 : Int32))) ∧ Exa Z h a1 "com/example/fieldstone/fieldstone/core/KeyReader"
set_option maxRecDepth 65536 in
set_option maxHeartbeats 40000000 in
theorem rm_rsf4 (l : Launch) (Z : State) (a0 : Array Value) (hw : ∀ d ∈ tables_1, d.before a0 Z = true) (ws : List Jvm.Cond) (a1 : Addr) (w_key_a1 : Addr) (k_w_key_a1 : ClassId) (n_w_key_a1 : Int32) (vs_w_key_a1 : List Value) (w_position_a1 : Int32) (h0 : Heap) (n0 : Nat) (Z0 : n0 ≤ h0.size) (F_key_a1 : Fld Z h0 a1 "com/example/fieldstone/fieldstone/core/KeyReader" "key" "[B" (.ref w_key_a1)) (V_w_key_a1 : Arv Z h0 w_key_a1 k_w_key_a1 .byte n_w_key_a1 vs_w_key_a1 (.int (0 : Int32))) (F_position_a1 : Fld Z h0 a1 "com/example/fieldstone/fieldstone/core/KeyReader" "position" "I" (.int w_position_a1)) (E_a1 : Exa Z h0 a1 "com/example/fieldstone/fieldstone/core/KeyReader") (g_a1 : n0 ≤ a1) (ne_w_key_a1_a1 : w_key_a1 ≠ a1) (hp0 : ¬ ((n_w_key_a1 - w_position_a1) < (4 : Int32))) (hp1 : ¬ ((w_position_a1 + (0 : Int32)) < (0 : Int32))) (hp2 : (w_position_a1 + (0 : Int32)) < n_w_key_a1) (hp3 : ¬ ((w_position_a1 + (1 : Int32)) < (0 : Int32))) (hp4 : (w_position_a1 + (1 : Int32)) < n_w_key_a1) (hp5 : ¬ ((w_position_a1 + (2 : Int32)) < (0 : Int32))) (hp6 : (w_position_a1 + (2 : Int32)) < n_w_key_a1) (hp7 : ¬ ((w_position_a1 + (3 : Int32)) < (0 : Int32))) (hp8 : (w_position_a1 + (3 : Int32)) < n_w_key_a1) :
    MetFree l (⟨"com/example/fieldstone/fieldstone/core/KeyReader", "readSignFlipped", "(I)J"⟩ : MethodName) (head1 (Jvm.Cond.code (⟨"com/example/fieldstone/fieldstone/core/KeyReader", "readSignFlipped", "(I)J"⟩ : MethodName) prog_48_method_10_code 5 (some .long) :: ws) ({ frames := 0, cells := 0, slots := 0, locals := 0 } : Room)) (fun a U => a = #[(.ref a1), (.int (4 : Int32))] ∧ Z.Warmed39 U.vm ∧ U.heap = h0) (fun _ _ _ _ _ => True) (fun _ U o U' => ∃ v L, o = .returned v ∧ Q_rsf4 Z a1 w_key_a1 k_w_key_a1 n_w_key_a1 vs_w_key_a1 w_position_a1 h0 n0 v U'.heap L ∧ FrameEnd U o U' L ({ frames := 0, cells := 0, slots := 0, locals := 0 } : Room).cells ({ frames := 0, cells := 0, slots := 0, locals := 0 } : Room).slots) := by
  refine MetFree.of_bodySF (plainFor_of_name pn_com_example_fieldstone_fieldstone_core_KeyReader) hisR ?_
  intro p e s m args below meth c s₁ Bd hml0 hP hK
  obtain ⟨rfl, hZ, hh⟩ := hP
  have hx := Bd.exec
  have hby := Bd.bytes
  have hml : c.maxLocals = 5 := hml0
  have hown : s.vm.findClass "com/example/fieldstone/fieldstone/core/KeyReader" = some m.cls := findClass_of_methodNamed Bd.named
  have hnm := (name_of_methodNamed Bd.named Bd.method).1
  have X0 : Stand p l e ({ frames := 0, cells := 0, slots := 0, locals := 0 } : Room) s m #[(.ref a1), (.int (4 : Int32))] below meth c s₁ [] 0 0 := Stand.of_body Bd
  have e0 : s₁.heap = h0 := by rw [← hh, Bd.state]; rfl
  have N0 := Fr.nil n0
  have pre0 : ∀ t, Steps p.tables e below (s₁.setTop (mkF m 0 #[.val (.ref a1), .val (.int (4 : Int32)), .unset, .unset, .unset] [])) t → Steps p.tables e below (s₁.setTop (entryFrame m #[(.ref a1), (.int (4 : Int32))] 5)) t := fun t k => castTop (ef_14_RI m a1 (4 : Int32)) k
  obtain ⟨T1, X1, e1, st1⟩ := getF X0 hx hZ hown (host := "") (Or.inl (hw _ (List.mem_of_getElem? (i := 24) rfl))) Via.refl e0 F_key_a1 (g := (mkF m 1 #[.val (.ref a1), .val (.int (4 : Int32)), .unset, .unset, .unset] [(.ref a1)])) rfl rfl (hb hby d14_1)
  obtain ⟨clo2, Aro2, -, So2, No2, -, -⟩ := id V_w_key_a1
  obtain ⟨T3, X3, e3, st3⟩ := getF X1 hx hZ hown (host := "") (Or.inl (hw _ (List.mem_of_getElem? (i := 31) rfl))) Via.refl e1 F_position_a1 (g := (mkF m 6 #[.val (.ref a1), .val (.int (4 : Int32)), .unset, .unset, .unset] [(.ref a1), (.int n_w_key_a1)])) rfl rfl (hb hby d14_6)
  obtain ⟨T4, X4, e4, st4⟩ := getF X3 hx hZ hown (host := "") (Or.inl (hw _ (List.mem_of_getElem? (i := 24) rfl))) Via.refl e3 F_key_a1 (g := (mkF m 40 #[.val (.ref a1), .val (.int (4 : Int32)), .val (.long (0 : Int64)), .second, .val (.int (0 : Int32))] [(.ref a1), (.long ((0 : Int64) <<< ((8 : Int32) &&& 0x3f).toInt64))])) rfl rfl (hb hby d14_40)
  obtain ⟨T5, X5, e5, st5⟩ := getF X4 hx hZ hown (host := "") (Or.inl (hw _ (List.mem_of_getElem? (i := 31) rfl))) Via.refl e4 F_position_a1 (g := (mkF m 44 #[.val (.ref a1), .val (.int (4 : Int32)), .val (.long (0 : Int64)), .second, .val (.int (0 : Int32))] [(.ref a1), (.ref w_key_a1), (.long ((0 : Int64) <<< ((8 : Int32) &&& 0x3f).toInt64))])) rfl rfl (hb hby d14_44)
  obtain ⟨clo6, Aro6, qo6, So6, No6, Ho6, Go6⟩ := id V_w_key_a1
  have hino6 : ¬ ((w_position_a1 + (0 : Int32)) < 0 ∨ clo6.slots.size ≤ ((w_position_a1 + (0 : Int32))).toNatClampNeg) := inb_of So6 ⟨hp1, hp2⟩
  obtain ⟨T7, X7, e7, st7⟩ := getF X5 hx hZ hown (host := "") (Or.inl (hw _ (List.mem_of_getElem? (i := 24) rfl))) Via.refl e5 F_key_a1 (g := (mkF m 40 #[.val (.ref a1), .val (.int (4 : Int32)), .val (.long (own_c1 vs_w_key_a1 w_position_a1)), .second, .val (.int (1 : Int32))] [(.ref a1), (.long ((own_c1 vs_w_key_a1 w_position_a1) <<< ((8 : Int32) &&& 0x3f).toInt64))])) rfl rfl (hb hby d14_40)
  obtain ⟨T8, X8, e8, st8⟩ := getF X7 hx hZ hown (host := "") (Or.inl (hw _ (List.mem_of_getElem? (i := 31) rfl))) Via.refl e7 F_position_a1 (g := (mkF m 44 #[.val (.ref a1), .val (.int (4 : Int32)), .val (.long (own_c1 vs_w_key_a1 w_position_a1)), .second, .val (.int (1 : Int32))] [(.ref a1), (.ref w_key_a1), (.long ((own_c1 vs_w_key_a1 w_position_a1) <<< ((8 : Int32) &&& 0x3f).toInt64))])) rfl rfl (hb hby d14_44)
  obtain ⟨clo9, Aro9, qo9, So9, No9, Ho9, Go9⟩ := id V_w_key_a1
  have hino9 : ¬ ((w_position_a1 + (1 : Int32)) < 0 ∨ clo9.slots.size ≤ ((w_position_a1 + (1 : Int32))).toNatClampNeg) := inb_of So9 ⟨hp3, hp4⟩
  obtain ⟨T10, X10, e10, st10⟩ := getF X8 hx hZ hown (host := "") (Or.inl (hw _ (List.mem_of_getElem? (i := 24) rfl))) Via.refl e8 F_key_a1 (g := (mkF m 40 #[.val (.ref a1), .val (.int (4 : Int32)), .val (.long (own_c2 vs_w_key_a1 w_position_a1)), .second, .val (.int (2 : Int32))] [(.ref a1), (.long ((own_c2 vs_w_key_a1 w_position_a1) <<< ((8 : Int32) &&& 0x3f).toInt64))])) rfl rfl (hb hby d14_40)
  obtain ⟨T11, X11, e11, st11⟩ := getF X10 hx hZ hown (host := "") (Or.inl (hw _ (List.mem_of_getElem? (i := 31) rfl))) Via.refl e10 F_position_a1 (g := (mkF m 44 #[.val (.ref a1), .val (.int (4 : Int32)), .val (.long (own_c2 vs_w_key_a1 w_position_a1)), .second, .val (.int (2 : Int32))] [(.ref a1), (.ref w_key_a1), (.long ((own_c2 vs_w_key_a1 w_position_a1) <<< ((8 : Int32) &&& 0x3f).toInt64))])) rfl rfl (hb hby d14_44)
  obtain ⟨clo12, Aro12, qo12, So12, No12, Ho12, Go12⟩ := id V_w_key_a1
  have hino12 : ¬ ((w_position_a1 + (2 : Int32)) < 0 ∨ clo12.slots.size ≤ ((w_position_a1 + (2 : Int32))).toNatClampNeg) := inb_of So12 ⟨hp5, hp6⟩
  obtain ⟨T13, X13, e13, st13⟩ := getF X11 hx hZ hown (host := "") (Or.inl (hw _ (List.mem_of_getElem? (i := 24) rfl))) Via.refl e11 F_key_a1 (g := (mkF m 40 #[.val (.ref a1), .val (.int (4 : Int32)), .val (.long (own_c3 vs_w_key_a1 w_position_a1)), .second, .val (.int (3 : Int32))] [(.ref a1), (.long ((own_c3 vs_w_key_a1 w_position_a1) <<< ((8 : Int32) &&& 0x3f).toInt64))])) rfl rfl (hb hby d14_40)
  obtain ⟨T14, X14, e14, st14⟩ := getF X13 hx hZ hown (host := "") (Or.inl (hw _ (List.mem_of_getElem? (i := 31) rfl))) Via.refl e13 F_position_a1 (g := (mkF m 44 #[.val (.ref a1), .val (.int (4 : Int32)), .val (.long (own_c3 vs_w_key_a1 w_position_a1)), .second, .val (.int (3 : Int32))] [(.ref a1), (.ref w_key_a1), (.long ((own_c3 vs_w_key_a1 w_position_a1) <<< ((8 : Int32) &&& 0x3f).toInt64))])) rfl rfl (hb hby d14_44)
  obtain ⟨clo15, Aro15, qo15, So15, No15, Ho15, Go15⟩ := id V_w_key_a1
  have hino15 : ¬ ((w_position_a1 + (3 : Int32)) < 0 ∨ clo15.slots.size ≤ ((w_position_a1 + (3 : Int32))).toNatClampNeg) := inb_of So15 ⟨hp7, hp8⟩
  obtain ⟨T16, X16, e16, st16⟩ := getF X14 hx hZ hown (host := "") (Or.inl (hw _ (List.mem_of_getElem? (i := 31) rfl))) Via.refl e14 F_position_a1 (g := (mkF m 66 #[.val (.ref a1), .val (.int (4 : Int32)), .val (.long (own_c4 vs_w_key_a1 w_position_a1)), .second, .val (.int (4 : Int32))] [(.ref a1), (.ref a1)])) rfl rfl (hb hby d14_66)
  obtain ⟨T17, h17, X17, e17, W17, st17⟩ := putF X16 hx hZ hown (host := "") (Or.inl (hw _ (List.mem_of_getElem? (i := 31) rfl))) Via.refl e16 F_position_a1 E_a1 (Or.inl (hw _ (List.mem_of_getElem? (i := 32) rfl))) (hw _ (List.mem_of_getElem? (i := 3) rfl)) (ty := .int) (by decide) rfl rfl (g := (mkF m 71 #[.val (.ref a1), .val (.int (4 : Int32)), .val (.long (own_c4 vs_w_key_a1 w_position_a1)), .second, .val (.int (4 : Int32))] [(.int (w_position_a1 + (4 : Int32))), (.ref a1)])) rfl rfl (hb hby d14_71)
  have f18 : Fld Z h17 a1 "com/example/fieldstone/fieldstone/core/KeyReader" "key" "[B" (.ref w_key_a1) := F_key_a1.other W17 (Or.inr (slot_ne (Or.inr (hw _ (List.mem_of_getElem? (i := 25) rfl))) (Or.inl (hw _ (List.mem_of_getElem? (i := 32) rfl))) (by decide) (t := (.array .byte)) (t' := .int) (by decide) (by decide)))
  have f19 : Arv Z h17 w_key_a1 k_w_key_a1 .byte n_w_key_a1 vs_w_key_a1 (.int (0 : Int32)) := V_w_key_a1.other W17 ne_w_key_a1_a1
  have f20 : Fld Z h17 a1 "com/example/fieldstone/fieldstone/core/KeyReader" "position" "I" (.int (w_position_a1 + (4 : Int32))) := F_position_a1.same W17
  have f21 : Exa Z h17 a1 "com/example/fieldstone/fieldstone/core/KeyReader" := E_a1.wr W17
  have K22 : Keep h0 h17 [a1] := (Keep.refl h0 [a1]).wr W17 (Or.inl (List.mem_of_getElem? (i := 0) rfl))
  have N23 := Fr.snoc X17 N0 g_a1
  have Zs24 : n0 ≤ h17.size := Nat.le_trans Z0 (Keep.of_wr W17).1
  obtain ⟨fs, hr, hrun, hended, hW, hsame⟩ := X17.leave (v := some (.long (own_c4 vs_w_key_a1 w_position_a1))) (fun h => by rw [Bd.returns] at h; cases h) Bd.notSynchronized
  refine ⟨_, _, pre0 _ ?_, hrun, hended, _, _, rfl, ?_, ⟨_, rfl⟩, hW, hsame.mono (by decide) (by decide)⟩
  · show Steps p.tables e below (s₁.setTop (mkF m 0 #[.val (.ref a1), .val (.int (4 : Int32)), .unset, .unset, .unset] [])) _
    refine XS.aloadN X0.here hx rfl (hb hby d14_0) rfl rfl ?_
    show Steps p.tables e below (s₁.setTop (mkF m 1 #[.val (.ref a1), .val (.int (4 : Int32)), .unset, .unset, .unset] [(.ref a1)])) _
    refine st1 _ ?_
    show Steps p.tables e below (T1.setTop (mkF m 4 #[.val (.ref a1), .val (.int (4 : Int32)), .unset, .unset, .unset] [(.ref w_key_a1)])) _
    refine X1.arraylength hx (by rw [e1]; exact Aro2.1) (State.isArrayOf_alike hZ.alike Aro2.2.1) (g := (mkF m 4 #[.val (.ref a1), .val (.int (4 : Int32)), .unset, .unset, .unset] [(.ref w_key_a1)])) rfl rfl (hb hby d14_4) _ ?_
    rw [len_of So2 No2]
    show Steps p.tables e below (T1.setTop (mkF m 5 #[.val (.ref a1), .val (.int (4 : Int32)), .unset, .unset, .unset] [(.int n_w_key_a1)])) _
    refine XS.aloadN X1.here hx rfl (hb hby d14_5) rfl rfl ?_
    show Steps p.tables e below (T1.setTop (mkF m 6 #[.val (.ref a1), .val (.int (4 : Int32)), .unset, .unset, .unset] [(.ref a1), (.int n_w_key_a1)])) _
    refine st3 _ ?_
    show Steps p.tables e below (T3.setTop (mkF m 9 #[.val (.ref a1), .val (.int (4 : Int32)), .unset, .unset, .unset] [(.int w_position_a1), (.int n_w_key_a1)])) _
    refine XS.isub X3.here hx rfl (hb hby d14_9) rfl ?_
    show Steps p.tables e below (T3.setTop (mkF m 10 #[.val (.ref a1), .val (.int (4 : Int32)), .unset, .unset, .unset] [(.int (n_w_key_a1 - w_position_a1))])) _
    refine XS.iloadN X3.here hx rfl (hb hby d14_10) rfl ?_
    show Steps p.tables e below (T3.setTop (mkF m 11 #[.val (.ref a1), .val (.int (4 : Int32)), .unset, .unset, .unset] [(.int (4 : Int32)), (.int (n_w_key_a1 - w_position_a1))])) _
    refine XS.icmpYes X3.here hx rfl (pc0 := 11) (pc' := 24) rfl (hb hby d14_11) rfl (flt hp0).2.1 (by decide) (by decide) ?_
    show Steps p.tables e below (T3.setTop (mkF m 24 #[.val (.ref a1), .val (.int (4 : Int32)), .unset, .unset, .unset] [])) _
    refine XS.lconst X3.here hx rfl (hb hby d14_24) ?_
    show Steps p.tables e below (T3.setTop (mkF m 25 #[.val (.ref a1), .val (.int (4 : Int32)), .unset, .unset, .unset] [(.long (0 : Int64))])) _
    refine XS.lstoreN X3.here hx rfl (hb hby d14_25) rfl (l' := #[.val (.ref a1), .val (.int (4 : Int32)), .val (.long (0 : Int64)), .second, .unset]) rfl ?_
    show Steps p.tables e below (T3.setTop (mkF m 26 #[.val (.ref a1), .val (.int (4 : Int32)), .val (.long (0 : Int64)), .second, .unset] [])) _
    refine XS.iconst X3.here hx rfl (hb hby d14_26) ?_
    show Steps p.tables e below (T3.setTop (mkF m 27 #[.val (.ref a1), .val (.int (4 : Int32)), .val (.long (0 : Int64)), .second, .unset] [(.int (0 : Int32))])) _
    refine XS.istore X3.here hx rfl (hb hby d14_27) rfl (l' := #[.val (.ref a1), .val (.int (4 : Int32)), .val (.long (0 : Int64)), .second, .val (.int (0 : Int32))]) rfl ?_
    show Steps p.tables e below (T3.setTop (mkF m 29 #[.val (.ref a1), .val (.int (4 : Int32)), .val (.long (0 : Int64)), .second, .val (.int (0 : Int32))] [])) _
    refine XS.iload X3.here hx rfl (hb hby d14_29) rfl ?_
    refine XS.iloadN X3.here hx rfl (hb hby d14_31) rfl ?_
    show Steps p.tables e below (T3.setTop (mkF m 32 #[.val (.ref a1), .val (.int (4 : Int32)), .val (.long (0 : Int64)), .second, .val (.int (0 : Int32))] [(.int (4 : Int32)), (.int (0 : Int32))])) _
    refine XS.icmpNo X3.here hx rfl (hb hby d14_32) rfl (tlt (by decide : (0 : Int32) < (4 : Int32))).2.1 ?_
    show Steps p.tables e below (T3.setTop (mkF m 35 #[.val (.ref a1), .val (.int (4 : Int32)), .val (.long (0 : Int64)), .second, .val (.int (0 : Int32))] [])) _
    refine XS.lloadN X3.here hx rfl (hb hby d14_35) rfl ?_
    refine XS.bipush X3.here hx rfl (hb hby d14_36) ?_
    show Steps p.tables e below (T3.setTop (mkF m 38 #[.val (.ref a1), .val (.int (4 : Int32)), .val (.long (0 : Int64)), .second, .val (.int (0 : Int32))] [(.int (8 : Int32)), (.long (0 : Int64))])) _
    refine XS.lshl X3.here hx rfl (hb hby d14_38) rfl ?_
    show Steps p.tables e below (T3.setTop (mkF m 39 #[.val (.ref a1), .val (.int (4 : Int32)), .val (.long (0 : Int64)), .second, .val (.int (0 : Int32))] [(.long ((0 : Int64) <<< ((8 : Int32) &&& 0x3f).toInt64))])) _
    refine XS.aloadN X3.here hx rfl (hb hby d14_39) rfl rfl ?_
    show Steps p.tables e below (T3.setTop (mkF m 40 #[.val (.ref a1), .val (.int (4 : Int32)), .val (.long (0 : Int64)), .second, .val (.int (0 : Int32))] [(.ref a1), (.long ((0 : Int64) <<< ((8 : Int32) &&& 0x3f).toInt64))])) _
    refine st4 _ ?_
    show Steps p.tables e below (T4.setTop (mkF m 43 #[.val (.ref a1), .val (.int (4 : Int32)), .val (.long (0 : Int64)), .second, .val (.int (0 : Int32))] [(.ref w_key_a1), (.long ((0 : Int64) <<< ((8 : Int32) &&& 0x3f).toInt64))])) _
    refine XS.aloadN X4.here hx rfl (hb hby d14_43) rfl rfl ?_
    show Steps p.tables e below (T4.setTop (mkF m 44 #[.val (.ref a1), .val (.int (4 : Int32)), .val (.long (0 : Int64)), .second, .val (.int (0 : Int32))] [(.ref a1), (.ref w_key_a1), (.long ((0 : Int64) <<< ((8 : Int32) &&& 0x3f).toInt64))])) _
    refine st5 _ ?_
    show Steps p.tables e below (T5.setTop (mkF m 47 #[.val (.ref a1), .val (.int (4 : Int32)), .val (.long (0 : Int64)), .second, .val (.int (0 : Int32))] [(.int w_position_a1), (.ref w_key_a1), (.long ((0 : Int64) <<< ((8 : Int32) &&& 0x3f).toInt64))])) _
    refine XS.iload X5.here hx rfl (hb hby d14_47) rfl ?_
    show Steps p.tables e below (T5.setTop (mkF m 49 #[.val (.ref a1), .val (.int (4 : Int32)), .val (.long (0 : Int64)), .second, .val (.int (0 : Int32))] [(.int (0 : Int32)), (.int w_position_a1), (.ref w_key_a1), (.long ((0 : Int64) <<< ((8 : Int32) &&& 0x3f).toInt64))])) _
    refine XS.iadd X5.here hx rfl (hb hby d14_49) rfl ?_
    show Steps p.tables e below (T5.setTop (mkF m 50 #[.val (.ref a1), .val (.int (4 : Int32)), .val (.long (0 : Int64)), .second, .val (.int (0 : Int32))] [(.int (w_position_a1 + (0 : Int32))), (.ref w_key_a1), (.long ((0 : Int64) <<< ((8 : Int32) &&& 0x3f).toInt64))])) _
    refine X5.baloadBytes hx (j := (w_position_a1 + (0 : Int32))) (v := (.int (own_at vs_w_key_a1 ((w_position_a1 + (0 : Int32))).toNatClampNeg (.int (0 : Int32))))) (by rw [e5]; exact Aro6.1) (State.isArrayOf_alike hZ.alike Aro6.2.1) Aro6.2.2 hino6 (Ho6.at hino6 (own_at_eq (Go6 _ (Nat.lt_of_not_le fun y => hino6 (Or.inr y))) (by simp))) (g := (mkF m 50 #[.val (.ref a1), .val (.int (4 : Int32)), .val (.long (0 : Int64)), .second, .val (.int (0 : Int32))] [(.int (w_position_a1 + (0 : Int32))), (.ref w_key_a1), (.long ((0 : Int64) <<< ((8 : Int32) &&& 0x3f).toInt64))])) rfl rfl (hb hby d14_50) _ ?_
    show Steps p.tables e below (T5.setTop (mkF m 51 #[.val (.ref a1), .val (.int (4 : Int32)), .val (.long (0 : Int64)), .second, .val (.int (0 : Int32))] [(.int (own_at vs_w_key_a1 ((w_position_a1 + (0 : Int32))).toNatClampNeg (.int (0 : Int32)))), (.long ((0 : Int64) <<< ((8 : Int32) &&& 0x3f).toInt64))])) _
    refine XS.sipush X5.here hx rfl (hb hby d14_51) ?_
    show Steps p.tables e below (T5.setTop (mkF m 54 #[.val (.ref a1), .val (.int (4 : Int32)), .val (.long (0 : Int64)), .second, .val (.int (0 : Int32))] [(.int (255 : Int32)), (.int (own_at vs_w_key_a1 ((w_position_a1 + (0 : Int32))).toNatClampNeg (.int (0 : Int32)))), (.long ((0 : Int64) <<< ((8 : Int32) &&& 0x3f).toInt64))])) _
    refine XS.iand X5.here hx rfl (hb hby d14_54) rfl ?_
    show Steps p.tables e below (T5.setTop (mkF m 55 #[.val (.ref a1), .val (.int (4 : Int32)), .val (.long (0 : Int64)), .second, .val (.int (0 : Int32))] [(.int ((own_at vs_w_key_a1 ((w_position_a1 + (0 : Int32))).toNatClampNeg (.int (0 : Int32))) &&& (255 : Int32))), (.long ((0 : Int64) <<< ((8 : Int32) &&& 0x3f).toInt64))])) _
    refine XS.i2l X5.here hx rfl (hb hby d14_55) rfl ?_
    show Steps p.tables e below (T5.setTop (mkF m 56 #[.val (.ref a1), .val (.int (4 : Int32)), .val (.long (0 : Int64)), .second, .val (.int (0 : Int32))] [(.long (((own_at vs_w_key_a1 ((w_position_a1 + (0 : Int32))).toNatClampNeg (.int (0 : Int32))) &&& (255 : Int32)).toInt64)), (.long ((0 : Int64) <<< ((8 : Int32) &&& 0x3f).toInt64))])) _
    refine XS.lor X5.here hx rfl (hb hby d14_56) rfl ?_
    show Steps p.tables e below (T5.setTop (mkF m 57 #[.val (.ref a1), .val (.int (4 : Int32)), .val (.long (0 : Int64)), .second, .val (.int (0 : Int32))] [(.long (((0 : Int64) <<< ((8 : Int32) &&& 0x3f).toInt64) ||| (((own_at vs_w_key_a1 ((w_position_a1 + (0 : Int32))).toNatClampNeg (.int (0 : Int32))) &&& (255 : Int32)).toInt64)))])) _
    refine XS.lstoreN X5.here hx rfl (hb hby d14_57) rfl (l' := #[.val (.ref a1), .val (.int (4 : Int32)), .val (.long (own_c1 vs_w_key_a1 w_position_a1)), .second, .val (.int (0 : Int32))]) rfl ?_
    show Steps p.tables e below (T5.setTop (mkF m 58 #[.val (.ref a1), .val (.int (4 : Int32)), .val (.long (own_c1 vs_w_key_a1 w_position_a1)), .second, .val (.int (0 : Int32))] [])) _
    refine XS.iinc X5.here hx rfl (hb hby d14_58) rfl (l' := #[.val (.ref a1), .val (.int (4 : Int32)), .val (.long (own_c1 vs_w_key_a1 w_position_a1)), .second, .val (.int (1 : Int32))]) rfl ?_
    show Steps p.tables e below (T5.setTop (mkF m 61 #[.val (.ref a1), .val (.int (4 : Int32)), .val (.long (own_c1 vs_w_key_a1 w_position_a1)), .second, .val (.int (1 : Int32))] [])) _
    refine XS.goto X5.here hx rfl (pc0 := 61) (pc' := 29) rfl (hb hby d14_61) (by decide) (by decide) ?_
    show Steps p.tables e below (T5.setTop (mkF m 29 #[.val (.ref a1), .val (.int (4 : Int32)), .val (.long (own_c1 vs_w_key_a1 w_position_a1)), .second, .val (.int (1 : Int32))] [])) _
    refine XS.iload X5.here hx rfl (hb hby d14_29) rfl ?_
    refine XS.iloadN X5.here hx rfl (hb hby d14_31) rfl ?_
    show Steps p.tables e below (T5.setTop (mkF m 32 #[.val (.ref a1), .val (.int (4 : Int32)), .val (.long (own_c1 vs_w_key_a1 w_position_a1)), .second, .val (.int (1 : Int32))] [(.int (4 : Int32)), (.int (1 : Int32))])) _
    refine XS.icmpNo X5.here hx rfl (hb hby d14_32) rfl (tlt (by decide : (1 : Int32) < (4 : Int32))).2.1 ?_
    show Steps p.tables e below (T5.setTop (mkF m 35 #[.val (.ref a1), .val (.int (4 : Int32)), .val (.long (own_c1 vs_w_key_a1 w_position_a1)), .second, .val (.int (1 : Int32))] [])) _
    refine XS.lloadN X5.here hx rfl (hb hby d14_35) rfl ?_
    refine XS.bipush X5.here hx rfl (hb hby d14_36) ?_
    show Steps p.tables e below (T5.setTop (mkF m 38 #[.val (.ref a1), .val (.int (4 : Int32)), .val (.long (own_c1 vs_w_key_a1 w_position_a1)), .second, .val (.int (1 : Int32))] [(.int (8 : Int32)), (.long (own_c1 vs_w_key_a1 w_position_a1))])) _
    refine XS.lshl X5.here hx rfl (hb hby d14_38) rfl ?_
    show Steps p.tables e below (T5.setTop (mkF m 39 #[.val (.ref a1), .val (.int (4 : Int32)), .val (.long (own_c1 vs_w_key_a1 w_position_a1)), .second, .val (.int (1 : Int32))] [(.long ((own_c1 vs_w_key_a1 w_position_a1) <<< ((8 : Int32) &&& 0x3f).toInt64))])) _
    refine XS.aloadN X5.here hx rfl (hb hby d14_39) rfl rfl ?_
    show Steps p.tables e below (T5.setTop (mkF m 40 #[.val (.ref a1), .val (.int (4 : Int32)), .val (.long (own_c1 vs_w_key_a1 w_position_a1)), .second, .val (.int (1 : Int32))] [(.ref a1), (.long ((own_c1 vs_w_key_a1 w_position_a1) <<< ((8 : Int32) &&& 0x3f).toInt64))])) _
    refine st7 _ ?_
    show Steps p.tables e below (T7.setTop (mkF m 43 #[.val (.ref a1), .val (.int (4 : Int32)), .val (.long (own_c1 vs_w_key_a1 w_position_a1)), .second, .val (.int (1 : Int32))] [(.ref w_key_a1), (.long ((own_c1 vs_w_key_a1 w_position_a1) <<< ((8 : Int32) &&& 0x3f).toInt64))])) _
    refine XS.aloadN X7.here hx rfl (hb hby d14_43) rfl rfl ?_
    show Steps p.tables e below (T7.setTop (mkF m 44 #[.val (.ref a1), .val (.int (4 : Int32)), .val (.long (own_c1 vs_w_key_a1 w_position_a1)), .second, .val (.int (1 : Int32))] [(.ref a1), (.ref w_key_a1), (.long ((own_c1 vs_w_key_a1 w_position_a1) <<< ((8 : Int32) &&& 0x3f).toInt64))])) _
    refine st8 _ ?_
    show Steps p.tables e below (T8.setTop (mkF m 47 #[.val (.ref a1), .val (.int (4 : Int32)), .val (.long (own_c1 vs_w_key_a1 w_position_a1)), .second, .val (.int (1 : Int32))] [(.int w_position_a1), (.ref w_key_a1), (.long ((own_c1 vs_w_key_a1 w_position_a1) <<< ((8 : Int32) &&& 0x3f).toInt64))])) _
    refine XS.iload X8.here hx rfl (hb hby d14_47) rfl ?_
    show Steps p.tables e below (T8.setTop (mkF m 49 #[.val (.ref a1), .val (.int (4 : Int32)), .val (.long (own_c1 vs_w_key_a1 w_position_a1)), .second, .val (.int (1 : Int32))] [(.int (1 : Int32)), (.int w_position_a1), (.ref w_key_a1), (.long ((own_c1 vs_w_key_a1 w_position_a1) <<< ((8 : Int32) &&& 0x3f).toInt64))])) _
    refine XS.iadd X8.here hx rfl (hb hby d14_49) rfl ?_
    show Steps p.tables e below (T8.setTop (mkF m 50 #[.val (.ref a1), .val (.int (4 : Int32)), .val (.long (own_c1 vs_w_key_a1 w_position_a1)), .second, .val (.int (1 : Int32))] [(.int (w_position_a1 + (1 : Int32))), (.ref w_key_a1), (.long ((own_c1 vs_w_key_a1 w_position_a1) <<< ((8 : Int32) &&& 0x3f).toInt64))])) _
    refine X8.baloadBytes hx (j := (w_position_a1 + (1 : Int32))) (v := (.int (own_at vs_w_key_a1 ((w_position_a1 + (1 : Int32))).toNatClampNeg (.int (0 : Int32))))) (by rw [e8]; exact Aro9.1) (State.isArrayOf_alike hZ.alike Aro9.2.1) Aro9.2.2 hino9 (Ho9.at hino9 (own_at_eq (Go9 _ (Nat.lt_of_not_le fun y => hino9 (Or.inr y))) (by simp))) (g := (mkF m 50 #[.val (.ref a1), .val (.int (4 : Int32)), .val (.long (own_c1 vs_w_key_a1 w_position_a1)), .second, .val (.int (1 : Int32))] [(.int (w_position_a1 + (1 : Int32))), (.ref w_key_a1), (.long ((own_c1 vs_w_key_a1 w_position_a1) <<< ((8 : Int32) &&& 0x3f).toInt64))])) rfl rfl (hb hby d14_50) _ ?_
    show Steps p.tables e below (T8.setTop (mkF m 51 #[.val (.ref a1), .val (.int (4 : Int32)), .val (.long (own_c1 vs_w_key_a1 w_position_a1)), .second, .val (.int (1 : Int32))] [(.int (own_at vs_w_key_a1 ((w_position_a1 + (1 : Int32))).toNatClampNeg (.int (0 : Int32)))), (.long ((own_c1 vs_w_key_a1 w_position_a1) <<< ((8 : Int32) &&& 0x3f).toInt64))])) _
    refine XS.sipush X8.here hx rfl (hb hby d14_51) ?_
    show Steps p.tables e below (T8.setTop (mkF m 54 #[.val (.ref a1), .val (.int (4 : Int32)), .val (.long (own_c1 vs_w_key_a1 w_position_a1)), .second, .val (.int (1 : Int32))] [(.int (255 : Int32)), (.int (own_at vs_w_key_a1 ((w_position_a1 + (1 : Int32))).toNatClampNeg (.int (0 : Int32)))), (.long ((own_c1 vs_w_key_a1 w_position_a1) <<< ((8 : Int32) &&& 0x3f).toInt64))])) _
    refine XS.iand X8.here hx rfl (hb hby d14_54) rfl ?_
    show Steps p.tables e below (T8.setTop (mkF m 55 #[.val (.ref a1), .val (.int (4 : Int32)), .val (.long (own_c1 vs_w_key_a1 w_position_a1)), .second, .val (.int (1 : Int32))] [(.int ((own_at vs_w_key_a1 ((w_position_a1 + (1 : Int32))).toNatClampNeg (.int (0 : Int32))) &&& (255 : Int32))), (.long ((own_c1 vs_w_key_a1 w_position_a1) <<< ((8 : Int32) &&& 0x3f).toInt64))])) _
    refine XS.i2l X8.here hx rfl (hb hby d14_55) rfl ?_
    show Steps p.tables e below (T8.setTop (mkF m 56 #[.val (.ref a1), .val (.int (4 : Int32)), .val (.long (own_c1 vs_w_key_a1 w_position_a1)), .second, .val (.int (1 : Int32))] [(.long (((own_at vs_w_key_a1 ((w_position_a1 + (1 : Int32))).toNatClampNeg (.int (0 : Int32))) &&& (255 : Int32)).toInt64)), (.long ((own_c1 vs_w_key_a1 w_position_a1) <<< ((8 : Int32) &&& 0x3f).toInt64))])) _
    refine XS.lor X8.here hx rfl (hb hby d14_56) rfl ?_
    show Steps p.tables e below (T8.setTop (mkF m 57 #[.val (.ref a1), .val (.int (4 : Int32)), .val (.long (own_c1 vs_w_key_a1 w_position_a1)), .second, .val (.int (1 : Int32))] [(.long (((own_c1 vs_w_key_a1 w_position_a1) <<< ((8 : Int32) &&& 0x3f).toInt64) ||| (((own_at vs_w_key_a1 ((w_position_a1 + (1 : Int32))).toNatClampNeg (.int (0 : Int32))) &&& (255 : Int32)).toInt64)))])) _
    refine XS.lstoreN X8.here hx rfl (hb hby d14_57) rfl (l' := #[.val (.ref a1), .val (.int (4 : Int32)), .val (.long (own_c2 vs_w_key_a1 w_position_a1)), .second, .val (.int (1 : Int32))]) rfl ?_
    show Steps p.tables e below (T8.setTop (mkF m 58 #[.val (.ref a1), .val (.int (4 : Int32)), .val (.long (own_c2 vs_w_key_a1 w_position_a1)), .second, .val (.int (1 : Int32))] [])) _
    refine XS.iinc X8.here hx rfl (hb hby d14_58) rfl (l' := #[.val (.ref a1), .val (.int (4 : Int32)), .val (.long (own_c2 vs_w_key_a1 w_position_a1)), .second, .val (.int (2 : Int32))]) rfl ?_
    show Steps p.tables e below (T8.setTop (mkF m 61 #[.val (.ref a1), .val (.int (4 : Int32)), .val (.long (own_c2 vs_w_key_a1 w_position_a1)), .second, .val (.int (2 : Int32))] [])) _
    refine XS.goto X8.here hx rfl (pc0 := 61) (pc' := 29) rfl (hb hby d14_61) (by decide) (by decide) ?_
    show Steps p.tables e below (T8.setTop (mkF m 29 #[.val (.ref a1), .val (.int (4 : Int32)), .val (.long (own_c2 vs_w_key_a1 w_position_a1)), .second, .val (.int (2 : Int32))] [])) _
    refine XS.iload X8.here hx rfl (hb hby d14_29) rfl ?_
    refine XS.iloadN X8.here hx rfl (hb hby d14_31) rfl ?_
    show Steps p.tables e below (T8.setTop (mkF m 32 #[.val (.ref a1), .val (.int (4 : Int32)), .val (.long (own_c2 vs_w_key_a1 w_position_a1)), .second, .val (.int (2 : Int32))] [(.int (4 : Int32)), (.int (2 : Int32))])) _
    refine XS.icmpNo X8.here hx rfl (hb hby d14_32) rfl (tlt (by decide : (2 : Int32) < (4 : Int32))).2.1 ?_
    show Steps p.tables e below (T8.setTop (mkF m 35 #[.val (.ref a1), .val (.int (4 : Int32)), .val (.long (own_c2 vs_w_key_a1 w_position_a1)), .second, .val (.int (2 : Int32))] [])) _
    refine XS.lloadN X8.here hx rfl (hb hby d14_35) rfl ?_
    refine XS.bipush X8.here hx rfl (hb hby d14_36) ?_
    show Steps p.tables e below (T8.setTop (mkF m 38 #[.val (.ref a1), .val (.int (4 : Int32)), .val (.long (own_c2 vs_w_key_a1 w_position_a1)), .second, .val (.int (2 : Int32))] [(.int (8 : Int32)), (.long (own_c2 vs_w_key_a1 w_position_a1))])) _
    refine XS.lshl X8.here hx rfl (hb hby d14_38) rfl ?_
    show Steps p.tables e below (T8.setTop (mkF m 39 #[.val (.ref a1), .val (.int (4 : Int32)), .val (.long (own_c2 vs_w_key_a1 w_position_a1)), .second, .val (.int (2 : Int32))] [(.long ((own_c2 vs_w_key_a1 w_position_a1) <<< ((8 : Int32) &&& 0x3f).toInt64))])) _
    refine XS.aloadN X8.here hx rfl (hb hby d14_39) rfl rfl ?_
    show Steps p.tables e below (T8.setTop (mkF m 40 #[.val (.ref a1), .val (.int (4 : Int32)), .val (.long (own_c2 vs_w_key_a1 w_position_a1)), .second, .val (.int (2 : Int32))] [(.ref a1), (.long ((own_c2 vs_w_key_a1 w_position_a1) <<< ((8 : Int32) &&& 0x3f).toInt64))])) _
    refine st10 _ ?_
    show Steps p.tables e below (T10.setTop (mkF m 43 #[.val (.ref a1), .val (.int (4 : Int32)), .val (.long (own_c2 vs_w_key_a1 w_position_a1)), .second, .val (.int (2 : Int32))] [(.ref w_key_a1), (.long ((own_c2 vs_w_key_a1 w_position_a1) <<< ((8 : Int32) &&& 0x3f).toInt64))])) _
    refine XS.aloadN X10.here hx rfl (hb hby d14_43) rfl rfl ?_
    show Steps p.tables e below (T10.setTop (mkF m 44 #[.val (.ref a1), .val (.int (4 : Int32)), .val (.long (own_c2 vs_w_key_a1 w_position_a1)), .second, .val (.int (2 : Int32))] [(.ref a1), (.ref w_key_a1), (.long ((own_c2 vs_w_key_a1 w_position_a1) <<< ((8 : Int32) &&& 0x3f).toInt64))])) _
    refine st11 _ ?_
    show Steps p.tables e below (T11.setTop (mkF m 47 #[.val (.ref a1), .val (.int (4 : Int32)), .val (.long (own_c2 vs_w_key_a1 w_position_a1)), .second, .val (.int (2 : Int32))] [(.int w_position_a1), (.ref w_key_a1), (.long ((own_c2 vs_w_key_a1 w_position_a1) <<< ((8 : Int32) &&& 0x3f).toInt64))])) _
    refine XS.iload X11.here hx rfl (hb hby d14_47) rfl ?_
    show Steps p.tables e below (T11.setTop (mkF m 49 #[.val (.ref a1), .val (.int (4 : Int32)), .val (.long (own_c2 vs_w_key_a1 w_position_a1)), .second, .val (.int (2 : Int32))] [(.int (2 : Int32)), (.int w_position_a1), (.ref w_key_a1), (.long ((own_c2 vs_w_key_a1 w_position_a1) <<< ((8 : Int32) &&& 0x3f).toInt64))])) _
    refine XS.iadd X11.here hx rfl (hb hby d14_49) rfl ?_
    show Steps p.tables e below (T11.setTop (mkF m 50 #[.val (.ref a1), .val (.int (4 : Int32)), .val (.long (own_c2 vs_w_key_a1 w_position_a1)), .second, .val (.int (2 : Int32))] [(.int (w_position_a1 + (2 : Int32))), (.ref w_key_a1), (.long ((own_c2 vs_w_key_a1 w_position_a1) <<< ((8 : Int32) &&& 0x3f).toInt64))])) _
    refine X11.baloadBytes hx (j := (w_position_a1 + (2 : Int32))) (v := (.int (own_at vs_w_key_a1 ((w_position_a1 + (2 : Int32))).toNatClampNeg (.int (0 : Int32))))) (by rw [e11]; exact Aro12.1) (State.isArrayOf_alike hZ.alike Aro12.2.1) Aro12.2.2 hino12 (Ho12.at hino12 (own_at_eq (Go12 _ (Nat.lt_of_not_le fun y => hino12 (Or.inr y))) (by simp))) (g := (mkF m 50 #[.val (.ref a1), .val (.int (4 : Int32)), .val (.long (own_c2 vs_w_key_a1 w_position_a1)), .second, .val (.int (2 : Int32))] [(.int (w_position_a1 + (2 : Int32))), (.ref w_key_a1), (.long ((own_c2 vs_w_key_a1 w_position_a1) <<< ((8 : Int32) &&& 0x3f).toInt64))])) rfl rfl (hb hby d14_50) _ ?_
    show Steps p.tables e below (T11.setTop (mkF m 51 #[.val (.ref a1), .val (.int (4 : Int32)), .val (.long (own_c2 vs_w_key_a1 w_position_a1)), .second, .val (.int (2 : Int32))] [(.int (own_at vs_w_key_a1 ((w_position_a1 + (2 : Int32))).toNatClampNeg (.int (0 : Int32)))), (.long ((own_c2 vs_w_key_a1 w_position_a1) <<< ((8 : Int32) &&& 0x3f).toInt64))])) _
    refine XS.sipush X11.here hx rfl (hb hby d14_51) ?_
    show Steps p.tables e below (T11.setTop (mkF m 54 #[.val (.ref a1), .val (.int (4 : Int32)), .val (.long (own_c2 vs_w_key_a1 w_position_a1)), .second, .val (.int (2 : Int32))] [(.int (255 : Int32)), (.int (own_at vs_w_key_a1 ((w_position_a1 + (2 : Int32))).toNatClampNeg (.int (0 : Int32)))), (.long ((own_c2 vs_w_key_a1 w_position_a1) <<< ((8 : Int32) &&& 0x3f).toInt64))])) _
    refine XS.iand X11.here hx rfl (hb hby d14_54) rfl ?_
    show Steps p.tables e below (T11.setTop (mkF m 55 #[.val (.ref a1), .val (.int (4 : Int32)), .val (.long (own_c2 vs_w_key_a1 w_position_a1)), .second, .val (.int (2 : Int32))] [(.int ((own_at vs_w_key_a1 ((w_position_a1 + (2 : Int32))).toNatClampNeg (.int (0 : Int32))) &&& (255 : Int32))), (.long ((own_c2 vs_w_key_a1 w_position_a1) <<< ((8 : Int32) &&& 0x3f).toInt64))])) _
    refine XS.i2l X11.here hx rfl (hb hby d14_55) rfl ?_
    show Steps p.tables e below (T11.setTop (mkF m 56 #[.val (.ref a1), .val (.int (4 : Int32)), .val (.long (own_c2 vs_w_key_a1 w_position_a1)), .second, .val (.int (2 : Int32))] [(.long (((own_at vs_w_key_a1 ((w_position_a1 + (2 : Int32))).toNatClampNeg (.int (0 : Int32))) &&& (255 : Int32)).toInt64)), (.long ((own_c2 vs_w_key_a1 w_position_a1) <<< ((8 : Int32) &&& 0x3f).toInt64))])) _
    refine XS.lor X11.here hx rfl (hb hby d14_56) rfl ?_
    show Steps p.tables e below (T11.setTop (mkF m 57 #[.val (.ref a1), .val (.int (4 : Int32)), .val (.long (own_c2 vs_w_key_a1 w_position_a1)), .second, .val (.int (2 : Int32))] [(.long (((own_c2 vs_w_key_a1 w_position_a1) <<< ((8 : Int32) &&& 0x3f).toInt64) ||| (((own_at vs_w_key_a1 ((w_position_a1 + (2 : Int32))).toNatClampNeg (.int (0 : Int32))) &&& (255 : Int32)).toInt64)))])) _
    refine XS.lstoreN X11.here hx rfl (hb hby d14_57) rfl (l' := #[.val (.ref a1), .val (.int (4 : Int32)), .val (.long (own_c3 vs_w_key_a1 w_position_a1)), .second, .val (.int (2 : Int32))]) rfl ?_
    show Steps p.tables e below (T11.setTop (mkF m 58 #[.val (.ref a1), .val (.int (4 : Int32)), .val (.long (own_c3 vs_w_key_a1 w_position_a1)), .second, .val (.int (2 : Int32))] [])) _
    refine XS.iinc X11.here hx rfl (hb hby d14_58) rfl (l' := #[.val (.ref a1), .val (.int (4 : Int32)), .val (.long (own_c3 vs_w_key_a1 w_position_a1)), .second, .val (.int (3 : Int32))]) rfl ?_
    show Steps p.tables e below (T11.setTop (mkF m 61 #[.val (.ref a1), .val (.int (4 : Int32)), .val (.long (own_c3 vs_w_key_a1 w_position_a1)), .second, .val (.int (3 : Int32))] [])) _
    refine XS.goto X11.here hx rfl (pc0 := 61) (pc' := 29) rfl (hb hby d14_61) (by decide) (by decide) ?_
    show Steps p.tables e below (T11.setTop (mkF m 29 #[.val (.ref a1), .val (.int (4 : Int32)), .val (.long (own_c3 vs_w_key_a1 w_position_a1)), .second, .val (.int (3 : Int32))] [])) _
    refine XS.iload X11.here hx rfl (hb hby d14_29) rfl ?_
    refine XS.iloadN X11.here hx rfl (hb hby d14_31) rfl ?_
    show Steps p.tables e below (T11.setTop (mkF m 32 #[.val (.ref a1), .val (.int (4 : Int32)), .val (.long (own_c3 vs_w_key_a1 w_position_a1)), .second, .val (.int (3 : Int32))] [(.int (4 : Int32)), (.int (3 : Int32))])) _
    refine XS.icmpNo X11.here hx rfl (hb hby d14_32) rfl (tlt (by decide : (3 : Int32) < (4 : Int32))).2.1 ?_
    show Steps p.tables e below (T11.setTop (mkF m 35 #[.val (.ref a1), .val (.int (4 : Int32)), .val (.long (own_c3 vs_w_key_a1 w_position_a1)), .second, .val (.int (3 : Int32))] [])) _
    refine XS.lloadN X11.here hx rfl (hb hby d14_35) rfl ?_
    refine XS.bipush X11.here hx rfl (hb hby d14_36) ?_
    show Steps p.tables e below (T11.setTop (mkF m 38 #[.val (.ref a1), .val (.int (4 : Int32)), .val (.long (own_c3 vs_w_key_a1 w_position_a1)), .second, .val (.int (3 : Int32))] [(.int (8 : Int32)), (.long (own_c3 vs_w_key_a1 w_position_a1))])) _
    refine XS.lshl X11.here hx rfl (hb hby d14_38) rfl ?_
    show Steps p.tables e below (T11.setTop (mkF m 39 #[.val (.ref a1), .val (.int (4 : Int32)), .val (.long (own_c3 vs_w_key_a1 w_position_a1)), .second, .val (.int (3 : Int32))] [(.long ((own_c3 vs_w_key_a1 w_position_a1) <<< ((8 : Int32) &&& 0x3f).toInt64))])) _
    refine XS.aloadN X11.here hx rfl (hb hby d14_39) rfl rfl ?_
    show Steps p.tables e below (T11.setTop (mkF m 40 #[.val (.ref a1), .val (.int (4 : Int32)), .val (.long (own_c3 vs_w_key_a1 w_position_a1)), .second, .val (.int (3 : Int32))] [(.ref a1), (.long ((own_c3 vs_w_key_a1 w_position_a1) <<< ((8 : Int32) &&& 0x3f).toInt64))])) _
    refine st13 _ ?_
    show Steps p.tables e below (T13.setTop (mkF m 43 #[.val (.ref a1), .val (.int (4 : Int32)), .val (.long (own_c3 vs_w_key_a1 w_position_a1)), .second, .val (.int (3 : Int32))] [(.ref w_key_a1), (.long ((own_c3 vs_w_key_a1 w_position_a1) <<< ((8 : Int32) &&& 0x3f).toInt64))])) _
    refine XS.aloadN X13.here hx rfl (hb hby d14_43) rfl rfl ?_
    show Steps p.tables e below (T13.setTop (mkF m 44 #[.val (.ref a1), .val (.int (4 : Int32)), .val (.long (own_c3 vs_w_key_a1 w_position_a1)), .second, .val (.int (3 : Int32))] [(.ref a1), (.ref w_key_a1), (.long ((own_c3 vs_w_key_a1 w_position_a1) <<< ((8 : Int32) &&& 0x3f).toInt64))])) _
    refine st14 _ ?_
    show Steps p.tables e below (T14.setTop (mkF m 47 #[.val (.ref a1), .val (.int (4 : Int32)), .val (.long (own_c3 vs_w_key_a1 w_position_a1)), .second, .val (.int (3 : Int32))] [(.int w_position_a1), (.ref w_key_a1), (.long ((own_c3 vs_w_key_a1 w_position_a1) <<< ((8 : Int32) &&& 0x3f).toInt64))])) _
    refine XS.iload X14.here hx rfl (hb hby d14_47) rfl ?_
    show Steps p.tables e below (T14.setTop (mkF m 49 #[.val (.ref a1), .val (.int (4 : Int32)), .val (.long (own_c3 vs_w_key_a1 w_position_a1)), .second, .val (.int (3 : Int32))] [(.int (3 : Int32)), (.int w_position_a1), (.ref w_key_a1), (.long ((own_c3 vs_w_key_a1 w_position_a1) <<< ((8 : Int32) &&& 0x3f).toInt64))])) _
    refine XS.iadd X14.here hx rfl (hb hby d14_49) rfl ?_
    show Steps p.tables e below (T14.setTop (mkF m 50 #[.val (.ref a1), .val (.int (4 : Int32)), .val (.long (own_c3 vs_w_key_a1 w_position_a1)), .second, .val (.int (3 : Int32))] [(.int (w_position_a1 + (3 : Int32))), (.ref w_key_a1), (.long ((own_c3 vs_w_key_a1 w_position_a1) <<< ((8 : Int32) &&& 0x3f).toInt64))])) _
    refine X14.baloadBytes hx (j := (w_position_a1 + (3 : Int32))) (v := (.int (own_at vs_w_key_a1 ((w_position_a1 + (3 : Int32))).toNatClampNeg (.int (0 : Int32))))) (by rw [e14]; exact Aro15.1) (State.isArrayOf_alike hZ.alike Aro15.2.1) Aro15.2.2 hino15 (Ho15.at hino15 (own_at_eq (Go15 _ (Nat.lt_of_not_le fun y => hino15 (Or.inr y))) (by simp))) (g := (mkF m 50 #[.val (.ref a1), .val (.int (4 : Int32)), .val (.long (own_c3 vs_w_key_a1 w_position_a1)), .second, .val (.int (3 : Int32))] [(.int (w_position_a1 + (3 : Int32))), (.ref w_key_a1), (.long ((own_c3 vs_w_key_a1 w_position_a1) <<< ((8 : Int32) &&& 0x3f).toInt64))])) rfl rfl (hb hby d14_50) _ ?_
    show Steps p.tables e below (T14.setTop (mkF m 51 #[.val (.ref a1), .val (.int (4 : Int32)), .val (.long (own_c3 vs_w_key_a1 w_position_a1)), .second, .val (.int (3 : Int32))] [(.int (own_at vs_w_key_a1 ((w_position_a1 + (3 : Int32))).toNatClampNeg (.int (0 : Int32)))), (.long ((own_c3 vs_w_key_a1 w_position_a1) <<< ((8 : Int32) &&& 0x3f).toInt64))])) _
    refine XS.sipush X14.here hx rfl (hb hby d14_51) ?_
    show Steps p.tables e below (T14.setTop (mkF m 54 #[.val (.ref a1), .val (.int (4 : Int32)), .val (.long (own_c3 vs_w_key_a1 w_position_a1)), .second, .val (.int (3 : Int32))] [(.int (255 : Int32)), (.int (own_at vs_w_key_a1 ((w_position_a1 + (3 : Int32))).toNatClampNeg (.int (0 : Int32)))), (.long ((own_c3 vs_w_key_a1 w_position_a1) <<< ((8 : Int32) &&& 0x3f).toInt64))])) _
    refine XS.iand X14.here hx rfl (hb hby d14_54) rfl ?_
    show Steps p.tables e below (T14.setTop (mkF m 55 #[.val (.ref a1), .val (.int (4 : Int32)), .val (.long (own_c3 vs_w_key_a1 w_position_a1)), .second, .val (.int (3 : Int32))] [(.int ((own_at vs_w_key_a1 ((w_position_a1 + (3 : Int32))).toNatClampNeg (.int (0 : Int32))) &&& (255 : Int32))), (.long ((own_c3 vs_w_key_a1 w_position_a1) <<< ((8 : Int32) &&& 0x3f).toInt64))])) _
    refine XS.i2l X14.here hx rfl (hb hby d14_55) rfl ?_
    show Steps p.tables e below (T14.setTop (mkF m 56 #[.val (.ref a1), .val (.int (4 : Int32)), .val (.long (own_c3 vs_w_key_a1 w_position_a1)), .second, .val (.int (3 : Int32))] [(.long (((own_at vs_w_key_a1 ((w_position_a1 + (3 : Int32))).toNatClampNeg (.int (0 : Int32))) &&& (255 : Int32)).toInt64)), (.long ((own_c3 vs_w_key_a1 w_position_a1) <<< ((8 : Int32) &&& 0x3f).toInt64))])) _
    refine XS.lor X14.here hx rfl (hb hby d14_56) rfl ?_
    show Steps p.tables e below (T14.setTop (mkF m 57 #[.val (.ref a1), .val (.int (4 : Int32)), .val (.long (own_c3 vs_w_key_a1 w_position_a1)), .second, .val (.int (3 : Int32))] [(.long (((own_c3 vs_w_key_a1 w_position_a1) <<< ((8 : Int32) &&& 0x3f).toInt64) ||| (((own_at vs_w_key_a1 ((w_position_a1 + (3 : Int32))).toNatClampNeg (.int (0 : Int32))) &&& (255 : Int32)).toInt64)))])) _
    refine XS.lstoreN X14.here hx rfl (hb hby d14_57) rfl (l' := #[.val (.ref a1), .val (.int (4 : Int32)), .val (.long (own_c4 vs_w_key_a1 w_position_a1)), .second, .val (.int (3 : Int32))]) rfl ?_
    show Steps p.tables e below (T14.setTop (mkF m 58 #[.val (.ref a1), .val (.int (4 : Int32)), .val (.long (own_c4 vs_w_key_a1 w_position_a1)), .second, .val (.int (3 : Int32))] [])) _
    refine XS.iinc X14.here hx rfl (hb hby d14_58) rfl (l' := #[.val (.ref a1), .val (.int (4 : Int32)), .val (.long (own_c4 vs_w_key_a1 w_position_a1)), .second, .val (.int (4 : Int32))]) rfl ?_
    show Steps p.tables e below (T14.setTop (mkF m 61 #[.val (.ref a1), .val (.int (4 : Int32)), .val (.long (own_c4 vs_w_key_a1 w_position_a1)), .second, .val (.int (4 : Int32))] [])) _
    refine XS.goto X14.here hx rfl (pc0 := 61) (pc' := 29) rfl (hb hby d14_61) (by decide) (by decide) ?_
    show Steps p.tables e below (T14.setTop (mkF m 29 #[.val (.ref a1), .val (.int (4 : Int32)), .val (.long (own_c4 vs_w_key_a1 w_position_a1)), .second, .val (.int (4 : Int32))] [])) _
    refine XS.iload X14.here hx rfl (hb hby d14_29) rfl ?_
    refine XS.iloadN X14.here hx rfl (hb hby d14_31) rfl ?_
    show Steps p.tables e below (T14.setTop (mkF m 32 #[.val (.ref a1), .val (.int (4 : Int32)), .val (.long (own_c4 vs_w_key_a1 w_position_a1)), .second, .val (.int (4 : Int32))] [(.int (4 : Int32)), (.int (4 : Int32))])) _
    refine XS.icmpYes X14.here hx rfl (pc0 := 32) (pc' := 64) rfl (hb hby d14_32) rfl (flt (by decide : ¬ ((4 : Int32) < (4 : Int32)))).2.1 (by decide) (by decide) ?_
    show Steps p.tables e below (T14.setTop (mkF m 64 #[.val (.ref a1), .val (.int (4 : Int32)), .val (.long (own_c4 vs_w_key_a1 w_position_a1)), .second, .val (.int (4 : Int32))] [])) _
    refine XS.aloadN X14.here hx rfl (hb hby d14_64) rfl rfl ?_
    show Steps p.tables e below (T14.setTop (mkF m 65 #[.val (.ref a1), .val (.int (4 : Int32)), .val (.long (own_c4 vs_w_key_a1 w_position_a1)), .second, .val (.int (4 : Int32))] [(.ref a1)])) _
    refine XS.dup X14.here hx rfl (hb hby d14_65) rfl rfl ?_
    show Steps p.tables e below (T14.setTop (mkF m 66 #[.val (.ref a1), .val (.int (4 : Int32)), .val (.long (own_c4 vs_w_key_a1 w_position_a1)), .second, .val (.int (4 : Int32))] [(.ref a1), (.ref a1)])) _
    refine st16 _ ?_
    show Steps p.tables e below (T16.setTop (mkF m 69 #[.val (.ref a1), .val (.int (4 : Int32)), .val (.long (own_c4 vs_w_key_a1 w_position_a1)), .second, .val (.int (4 : Int32))] [(.int w_position_a1), (.ref a1)])) _
    refine XS.iloadN X16.here hx rfl (hb hby d14_69) rfl ?_
    show Steps p.tables e below (T16.setTop (mkF m 70 #[.val (.ref a1), .val (.int (4 : Int32)), .val (.long (own_c4 vs_w_key_a1 w_position_a1)), .second, .val (.int (4 : Int32))] [(.int (4 : Int32)), (.int w_position_a1), (.ref a1)])) _
    refine XS.iadd X16.here hx rfl (hb hby d14_70) rfl ?_
    show Steps p.tables e below (T16.setTop (mkF m 71 #[.val (.ref a1), .val (.int (4 : Int32)), .val (.long (own_c4 vs_w_key_a1 w_position_a1)), .second, .val (.int (4 : Int32))] [(.int (w_position_a1 + (4 : Int32))), (.ref a1)])) _
    refine st17 _ ?_
    show Steps p.tables e below (T17.setTop (mkF m 74 #[.val (.ref a1), .val (.int (4 : Int32)), .val (.long (own_c4 vs_w_key_a1 w_position_a1)), .second, .val (.int (4 : Int32))] [])) _
    refine XS.lloadN X17.here hx rfl (hb hby d14_74) rfl ?_
    show Steps p.tables e below (T17.setTop (mkF m 75 #[.val (.ref a1), .val (.int (4 : Int32)), .val (.long (own_c4 vs_w_key_a1 w_position_a1)), .second, .val (.int (4 : Int32))] [(.long (own_c4 vs_w_key_a1 w_position_a1))])) _
    exact retOut X17 hx (t := .long) (i := .lreturn) Bd.returns rfl (Or.inr (Or.inl ⟨rfl, rfl, _, rfl⟩)) (hb hby d14_75) hr
  · show Q_rsf4 Z a1 w_key_a1 k_w_key_a1 n_w_key_a1 vs_w_key_a1 w_position_a1 h0 n0 _ T17.heap _
    rw [e17]
    exact ⟨rfl, N23, K22, f18, f20, f21⟩
def own_c5 (vs_w_key_a1 : List Value) (w_position_a1 : Int32) : Int64 := (((own_c4 vs_w_key_a1 w_position_a1) <<< ((8 : Int32) &&& 0x3f).toInt64) ||| (((own_at vs_w_key_a1 ((w_position_a1 + (4 : Int32))).toNatClampNeg (.int (0 : Int32))) &&& (255 : Int32)).toInt64))
def own_c6 (vs_w_key_a1 : List Value) (w_position_a1 : Int32) : Int64 := (((own_c5 vs_w_key_a1 w_position_a1) <<< ((8 : Int32) &&& 0x3f).toInt64) ||| (((own_at vs_w_key_a1 ((w_position_a1 + (5 : Int32))).toNatClampNeg (.int (0 : Int32))) &&& (255 : Int32)).toInt64))
def own_c7 (vs_w_key_a1 : List Value) (w_position_a1 : Int32) : Int64 := (((own_c6 vs_w_key_a1 w_position_a1) <<< ((8 : Int32) &&& 0x3f).toInt64) ||| (((own_at vs_w_key_a1 ((w_position_a1 + (6 : Int32))).toNatClampNeg (.int (0 : Int32))) &&& (255 : Int32)).toInt64))
def own_c8 (vs_w_key_a1 : List Value) (w_position_a1 : Int32) : Int64 := (((own_c7 vs_w_key_a1 w_position_a1) <<< ((8 : Int32) &&& 0x3f).toInt64) ||| (((own_at vs_w_key_a1 ((w_position_a1 + (7 : Int32))).toNatClampNeg (.int (0 : Int32))) &&& (255 : Int32)).toInt64))
def Q_rsf8 (Z : State) (a1 : Addr) (w_key_a1 : Addr) (k_w_key_a1 : ClassId) (n_w_key_a1 : Int32) (vs_w_key_a1 : List Value) (w_position_a1 : Int32) (h0 : Heap) (n0 : Nat) (v : Option Value) (h : Heap) (L : List Loc) : Prop := v = some (.long (own_c8 vs_w_key_a1 w_position_a1)) ∧ Fr n0 L ∧ Keep h0 h [a1] ∧ Fld Z h a1 "com/example/fieldstone/fieldstone/core/KeyReader" "key" "[B" (.ref w_key_a1) ∧ Fld Z h a1 "com/example/fieldstone/fieldstone/core/KeyReader" "position" "I" (.int (w_position_a1 + (8 : Int32))) ∧ Exa Z h a1 "com/example/fieldstone/fieldstone/core/KeyReader"
set_option maxRecDepth 65536 in
set_option maxHeartbeats 40000000 in
theorem rm_rsf8 (l : Launch) (Z : State) (a0 : Array Value) (hw : ∀ d ∈ tables_1, d.before a0 Z = true) (ws : List Jvm.Cond) (a1 : Addr) (w_key_a1 : Addr) (k_w_key_a1 : ClassId) (n_w_key_a1 : Int32) (vs_w_key_a1 : List Value) (w_position_a1 : Int32) (h0 : Heap) (n0 : Nat) (Z0 : n0 ≤ h0.size) (F_key_a1 : Fld Z h0 a1 "com/example/fieldstone/fieldstone/core/KeyReader" "key" "[B" (.ref w_key_a1)) (V_w_key_a1 : Arv Z h0 w_key_a1 k_w_key_a1 .byte n_w_key_a1 vs_w_key_a1 (.int (0 : Int32))) (F_position_a1 : Fld Z h0 a1 "com/example/fieldstone/fieldstone/core/KeyReader" "position" "I" (.int w_position_a1)) (E_a1 : Exa Z h0 a1 "com/example/fieldstone/fieldstone/core/KeyReader") (g_a1 : n0 ≤ a1) (ne_w_key_a1_a1 : w_key_a1 ≠ a1) (hp0 : ¬ ((n_w_key_a1 - w_position_a1) < (8 : Int32))) (hp1 : ¬ ((w_position_a1 + (0 : Int32)) < (0 : Int32))) (hp2 : (w_position_a1 + (0 : Int32)) < n_w_key_a1) (hp3 : ¬ ((w_position_a1 + (1 : Int32)) < (0 : Int32))) (hp4 : (w_position_a1 + (1 : Int32)) < n_w_key_a1) (hp5 : ¬ ((w_position_a1 + (2 : Int32)) < (0 : Int32))) (hp6 : (w_position_a1 + (2 : Int32)) < n_w_key_a1) (hp7 : ¬ ((w_position_a1 + (3 : Int32)) < (0 : Int32))) (hp8 : (w_position_a1 + (3 : Int32)) < n_w_key_a1) (hp9 : ¬ ((w_position_a1 + (4 : Int32)) < (0 : Int32))) (hp10 : (w_position_a1 + (4 : Int32)) < n_w_key_a1) (hp11 : ¬ ((w_position_a1 + (5 : Int32)) < (0 : Int32))) (hp12 : (w_position_a1 + (5 : Int32)) < n_w_key_a1) (hp13 : ¬ ((w_position_a1 + (6 : Int32)) < (0 : Int32))) (hp14 : (w_position_a1 + (6 : Int32)) < n_w_key_a1) (hp15 : ¬ ((w_position_a1 + (7 : Int32)) < (0 : Int32))) (hp16 : (w_position_a1 + (7 : Int32)) < n_w_key_a1) :
    MetFree l (⟨"com/example/fieldstone/fieldstone/core/KeyReader", "readSignFlipped", "(I)J"⟩ : MethodName) (head1 (Jvm.Cond.code (⟨"com/example/fieldstone/fieldstone/core/KeyReader", "readSignFlipped", "(I)J"⟩ : MethodName) prog_48_method_10_code 5 (some .long) :: ws) ({ frames := 0, cells := 0, slots := 0, locals := 0 } : Room)) (fun a U => a = #[(.ref a1), (.int (8 : Int32))] ∧ Z.Warmed39 U.vm ∧ U.heap = h0) (fun _ _ _ _ _ => True) (fun _ U o U' => ∃ v L, o = .returned v ∧ Q_rsf8 Z a1 w_key_a1 k_w_key_a1 n_w_key_a1 vs_w_key_a1 w_position_a1 h0 n0 v U'.heap L ∧ FrameEnd U o U' L ({ frames := 0, cells := 0, slots := 0, locals := 0 } : Room).cells ({ frames := 0, cells := 0, slots := 0, locals := 0 } : Room).slots) := by
  refine MetFree.of_bodySF (plainFor_of_name pn_com_example_fieldstone_fieldstone_core_KeyReader) hisR ?_
  intro p e s m args below meth c s₁ Bd hml0 hP hK
  obtain ⟨rfl, hZ, hh⟩ := hP
  have hx := Bd.exec
  have hby := Bd.bytes
  have hml : c.maxLocals = 5 := hml0
  have hown : s.vm.findClass "com/example/fieldstone/fieldstone/core/KeyReader" = some m.cls := findClass_of_methodNamed Bd.named
  have hnm := (name_of_methodNamed Bd.named Bd.method).1
  have X0 : Stand p l e ({ frames := 0, cells := 0, slots := 0, locals := 0 } : Room) s m #[(.ref a1), (.int (8 : Int32))] below meth c s₁ [] 0 0 := Stand.of_body Bd
  have e0 : s₁.heap = h0 := by rw [← hh, Bd.state]; rfl
  have N0 := Fr.nil n0
  have pre0 : ∀ t, Steps p.tables e below (s₁.setTop (mkF m 0 #[.val (.ref a1), .val (.int (8 : Int32)), .unset, .unset, .unset] [])) t → Steps p.tables e below (s₁.setTop (entryFrame m #[(.ref a1), (.int (8 : Int32))] 5)) t := fun t k => castTop (ef_14_RI m a1 (8 : Int32)) k
  obtain ⟨T1, X1, e1, st1⟩ := getF X0 hx hZ hown (host := "") (Or.inl (hw _ (List.mem_of_getElem? (i := 24) rfl))) Via.refl e0 F_key_a1 (g := (mkF m 1 #[.val (.ref a1), .val (.int (8 : Int32)), .unset, .unset, .unset] [(.ref a1)])) rfl rfl (hb hby d14_1)
  obtain ⟨clo2, Aro2, -, So2, No2, -, -⟩ := id V_w_key_a1
  obtain ⟨T3, X3, e3, st3⟩ := getF X1 hx hZ hown (host := "") (Or.inl (hw _ (List.mem_of_getElem? (i := 31) rfl))) Via.refl e1 F_position_a1 (g := (mkF m 6 #[.val (.ref a1), .val (.int (8 : Int32)), .unset, .unset, .unset] [(.ref a1), (.int n_w_key_a1)])) rfl rfl (hb hby d14_6)
  obtain ⟨T4, X4, e4, st4⟩ := getF X3 hx hZ hown (host := "") (Or.inl (hw _ (List.mem_of_getElem? (i := 24) rfl))) Via.refl e3 F_key_a1 (g := (mkF m 40 #[.val (.ref a1), .val (.int (8 : Int32)), .val (.long (0 : Int64)), .second, .val (.int (0 : Int32))] [(.ref a1), (.long ((0 : Int64) <<< ((8 : Int32) &&& 0x3f).toInt64))])) rfl rfl (hb hby d14_40)
  obtain ⟨T5, X5, e5, st5⟩ := getF X4 hx hZ hown (host := "") (Or.inl (hw _ (List.mem_of_getElem? (i := 31) rfl))) Via.refl e4 F_position_a1 (g := (mkF m 44 #[.val (.ref a1), .val (.int (8 : Int32)), .val (.long (0 : Int64)), .second, .val (.int (0 : Int32))] [(.ref a1), (.ref w_key_a1), (.long ((0 : Int64) <<< ((8 : Int32) &&& 0x3f).toInt64))])) rfl rfl (hb hby d14_44)
  obtain ⟨clo6, Aro6, qo6, So6, No6, Ho6, Go6⟩ := id V_w_key_a1
  have hino6 : ¬ ((w_position_a1 + (0 : Int32)) < 0 ∨ clo6.slots.size ≤ ((w_position_a1 + (0 : Int32))).toNatClampNeg) := inb_of So6 ⟨hp1, hp2⟩
  obtain ⟨T7, X7, e7, st7⟩ := getF X5 hx hZ hown (host := "") (Or.inl (hw _ (List.mem_of_getElem? (i := 24) rfl))) Via.refl e5 F_key_a1 (g := (mkF m 40 #[.val (.ref a1), .val (.int (8 : Int32)), .val (.long (own_c1 vs_w_key_a1 w_position_a1)), .second, .val (.int (1 : Int32))] [(.ref a1), (.long ((own_c1 vs_w_key_a1 w_position_a1) <<< ((8 : Int32) &&& 0x3f).toInt64))])) rfl rfl (hb hby d14_40)
  obtain ⟨T8, X8, e8, st8⟩ := getF X7 hx hZ hown (host := "") (Or.inl (hw _ (List.mem_of_getElem? (i := 31) rfl))) Via.refl e7 F_position_a1 (g := (mkF m 44 #[.val (.ref a1), .val (.int (8 : Int32)), .val (.long (own_c1 vs_w_key_a1 w_position_a1)), .second, .val (.int (1 : Int32))] [(.ref a1), (.ref w_key_a1), (.long ((own_c1 vs_w_key_a1 w_position_a1) <<< ((8 : Int32) &&& 0x3f).toInt64))])) rfl rfl (hb hby d14_44)
  obtain ⟨clo9, Aro9, qo9, So9, No9, Ho9, Go9⟩ := id V_w_key_a1
  have hino9 : ¬ ((w_position_a1 + (1 : Int32)) < 0 ∨ clo9.slots.size ≤ ((w_position_a1 + (1 : Int32))).toNatClampNeg) := inb_of So9 ⟨hp3, hp4⟩
  obtain ⟨T10, X10, e10, st10⟩ := getF X8 hx hZ hown (host := "") (Or.inl (hw _ (List.mem_of_getElem? (i := 24) rfl))) Via.refl e8 F_key_a1 (g := (mkF m 40 #[.val (.ref a1), .val (.int (8 : Int32)), .val (.long (own_c2 vs_w_key_a1 w_position_a1)), .second, .val (.int (2 : Int32))] [(.ref a1), (.long ((own_c2 vs_w_key_a1 w_position_a1) <<< ((8 : Int32) &&& 0x3f).toInt64))])) rfl rfl (hb hby d14_40)
  obtain ⟨T11, X11, e11, st11⟩ := getF X10 hx hZ hown (host := "") (Or.inl (hw _ (List.mem_of_getElem? (i := 31) rfl))) Via.refl e10 F_position_a1 (g := (mkF m 44 #[.val (.ref a1), .val (.int (8 : Int32)), .val (.long (own_c2 vs_w_key_a1 w_position_a1)), .second, .val (.int (2 : Int32))] [(.ref a1), (.ref w_key_a1), (.long ((own_c2 vs_w_key_a1 w_position_a1) <<< ((8 : Int32) &&& 0x3f).toInt64))])) rfl rfl (hb hby d14_44)
  obtain ⟨clo12, Aro12, qo12, So12, No12, Ho12, Go12⟩ := id V_w_key_a1
  have hino12 : ¬ ((w_position_a1 + (2 : Int32)) < 0 ∨ clo12.slots.size ≤ ((w_position_a1 + (2 : Int32))).toNatClampNeg) := inb_of So12 ⟨hp5, hp6⟩
  obtain ⟨T13, X13, e13, st13⟩ := getF X11 hx hZ hown (host := "") (Or.inl (hw _ (List.mem_of_getElem? (i := 24) rfl))) Via.refl e11 F_key_a1 (g := (mkF m 40 #[.val (.ref a1), .val (.int (8 : Int32)), .val (.long (own_c3 vs_w_key_a1 w_position_a1)), .second, .val (.int (3 : Int32))] [(.ref a1), (.long ((own_c3 vs_w_key_a1 w_position_a1) <<< ((8 : Int32) &&& 0x3f).toInt64))])) rfl rfl (hb hby d14_40)
  obtain ⟨T14, X14, e14, st14⟩ := getF X13 hx hZ hown (host := "") (Or.inl (hw _ (List.mem_of_getElem? (i := 31) rfl))) Via.refl e13 F_position_a1 (g := (mkF m 44 #[.val (.ref a1), .val (.int (8 : Int32)), .val (.long (own_c3 vs_w_key_a1 w_position_a1)), .second, .val (.int (3 : Int32))] [(.ref a1), (.ref w_key_a1), (.long ((own_c3 vs_w_key_a1 w_position_a1) <<< ((8 : Int32) &&& 0x3f).toInt64))])) rfl rfl (hb hby d14_44)
  obtain ⟨clo15, Aro15, qo15, So15, No15, Ho15, Go15⟩ := id V_w_key_a1
  have hino15 : ¬ ((w_position_a1 + (3 : Int32)) < 0 ∨ clo15.slots.size ≤ ((w_position_a1 + (3 : Int32))).toNatClampNeg) := inb_of So15 ⟨hp7, hp8⟩
  obtain ⟨T16, X16, e16, st16⟩ := getF X14 hx hZ hown (host := "") (Or.inl (hw _ (List.mem_of_getElem? (i := 24) rfl))) Via.refl e14 F_key_a1 (g := (mkF m 40 #[.val (.ref a1), .val (.int (8 : Int32)), .val (.long (own_c4 vs_w_key_a1 w_position_a1)), .second, .val (.int (4 : Int32))] [(.ref a1), (.long ((own_c4 vs_w_key_a1 w_position_a1) <<< ((8 : Int32) &&& 0x3f).toInt64))])) rfl rfl (hb hby d14_40)
  obtain ⟨T17, X17, e17, st17⟩ := getF X16 hx hZ hown (host := "") (Or.inl (hw _ (List.mem_of_getElem? (i := 31) rfl))) Via.refl e16 F_position_a1 (g := (mkF m 44 #[.val (.ref a1), .val (.int (8 : Int32)), .val (.long (own_c4 vs_w_key_a1 w_position_a1)), .second, .val (.int (4 : Int32))] [(.ref a1), (.ref w_key_a1), (.long ((own_c4 vs_w_key_a1 w_position_a1) <<< ((8 : Int32) &&& 0x3f).toInt64))])) rfl rfl (hb hby d14_44)
  obtain ⟨clo18, Aro18, qo18, So18, No18, Ho18, Go18⟩ := id V_w_key_a1
  have hino18 : ¬ ((w_position_a1 + (4 : Int32)) < 0 ∨ clo18.slots.size ≤ ((w_position_a1 + (4 : Int32))).toNatClampNeg) := inb_of So18 ⟨hp9, hp10⟩
  obtain ⟨T19, X19, e19, st19⟩ := getF X17 hx hZ hown (host := "") (Or.inl (hw _ (List.mem_of_getElem? (i := 24) rfl))) Via.refl e17 F_key_a1 (g := (mkF m 40 #[.val (.ref a1), .val (.int (8 : Int32)), .val (.long (own_c5 vs_w_key_a1 w_position_a1)), .second, .val (.int (5 : Int32))] [(.ref a1), (.long ((own_c5 vs_w_key_a1 w_position_a1) <<< ((8 : Int32) &&& 0x3f).toInt64))])) rfl rfl (hb hby d14_40)
  obtain ⟨T20, X20, e20, st20⟩ := getF X19 hx hZ hown (host := "") (Or.inl (hw _ (List.mem_of_getElem? (i := 31) rfl))) Via.refl e19 F_position_a1 (g := (mkF m 44 #[.val (.ref a1), .val (.int (8 : Int32)), .val (.long (own_c5 vs_w_key_a1 w_position_a1)), .second, .val (.int (5 : Int32))] [(.ref a1), (.ref w_key_a1), (.long ((own_c5 vs_w_key_a1 w_position_a1) <<< ((8 : Int32) &&& 0x3f).toInt64))])) rfl rfl (hb hby d14_44)
  obtain ⟨clo21, Aro21, qo21, So21, No21, Ho21, Go21⟩ := id V_w_key_a1
  have hino21 : ¬ ((w_position_a1 + (5 : Int32)) < 0 ∨ clo21.slots.size ≤ ((w_position_a1 + (5 : Int32))).toNatClampNeg) := inb_of So21 ⟨hp11, hp12⟩
  obtain ⟨T22, X22, e22, st22⟩ := getF X20 hx hZ hown (host := "") (Or.inl (hw _ (List.mem_of_getElem? (i := 24) rfl))) Via.refl e20 F_key_a1 (g := (mkF m 40 #[.val (.ref a1), .val (.int (8 : Int32)), .val (.long (own_c6 vs_w_key_a1 w_position_a1)), .second, .val (.int (6 : Int32))] [(.ref a1), (.long ((own_c6 vs_w_key_a1 w_position_a1) <<< ((8 : Int32) &&& 0x3f).toInt64))])) rfl rfl (hb hby d14_40)
  obtain ⟨T23, X23, e23, st23⟩ := getF X22 hx hZ hown (host := "") (Or.inl (hw _ (List.mem_of_getElem? (i := 31) rfl))) Via.refl e22 F_position_a1 (g := (mkF m 44 #[.val (.ref a1), .val (.int (8 : Int32)), .val (.long (own_c6 vs_w_key_a1 w_position_a1)), .second, .val (.int (6 : Int32))] [(.ref a1), (.ref w_key_a1), (.long ((own_c6 vs_w_key_a1 w_position_a1) <<< ((8 : Int32) &&& 0x3f).toInt64))])) rfl rfl (hb hby d14_44)
  obtain ⟨clo24, Aro24, qo24, So24, No24, Ho24, Go24⟩ := id V_w_key_a1
  have hino24 : ¬ ((w_position_a1 + (6 : Int32)) < 0 ∨ clo24.slots.size ≤ ((w_position_a1 + (6 : Int32))).toNatClampNeg) := inb_of So24 ⟨hp13, hp14⟩
  obtain ⟨T25, X25, e25, st25⟩ := getF X23 hx hZ hown (host := "") (Or.inl (hw _ (List.mem_of_getElem? (i := 24) rfl))) Via.refl e23 F_key_a1 (g := (mkF m 40 #[.val (.ref a1), .val (.int (8 : Int32)), .val (.long (own_c7 vs_w_key_a1 w_position_a1)), .second, .val (.int (7 : Int32))] [(.ref a1), (.long ((own_c7 vs_w_key_a1 w_position_a1) <<< ((8 : Int32) &&& 0x3f).toInt64))])) rfl rfl (hb hby d14_40)
  obtain ⟨T26, X26, e26, st26⟩ := getF X25 hx hZ hown (host := "") (Or.inl (hw _ (List.mem_of_getElem? (i := 31) rfl))) Via.refl e25 F_position_a1 (g := (mkF m 44 #[.val (.ref a1), .val (.int (8 : Int32)), .val (.long (own_c7 vs_w_key_a1 w_position_a1)), .second, .val (.int (7 : Int32))] [(.ref a1), (.ref w_key_a1), (.long ((own_c7 vs_w_key_a1 w_position_a1) <<< ((8 : Int32) &&& 0x3f).toInt64))])) rfl rfl (hb hby d14_44)
  obtain ⟨clo27, Aro27, qo27, So27, No27, Ho27, Go27⟩ := id V_w_key_a1
  have hino27 : ¬ ((w_position_a1 + (7 : Int32)) < 0 ∨ clo27.slots.size ≤ ((w_position_a1 + (7 : Int32))).toNatClampNeg) := inb_of So27 ⟨hp15, hp16⟩
  obtain ⟨T28, X28, e28, st28⟩ := getF X26 hx hZ hown (host := "") (Or.inl (hw _ (List.mem_of_getElem? (i := 31) rfl))) Via.refl e26 F_position_a1 (g := (mkF m 66 #[.val (.ref a1), .val (.int (8 : Int32)), .val (.long (own_c8 vs_w_key_a1 w_position_a1)), .second, .val (.int (8 : Int32))] [(.ref a1), (.ref a1)])) rfl rfl (hb hby d14_66)
  obtain ⟨T29, h29, X29, e29, W29, st29⟩ := putF X28 hx hZ hown (host := "") (Or.inl (hw _ (List.mem_of_getElem? (i := 31) rfl))) Via.refl e28 F_position_a1 E_a1 (Or.inl (hw _ (List.mem_of_getElem? (i := 32) rfl))) (hw _ (List.mem_of_getElem? (i := 3) rfl)) (ty := .int) (by decide) rfl rfl (g := (mkF m 71 #[.val (.ref a1), .val (.int (8 : Int32)), .val (.long (own_c8 vs_w_key_a1 w_position_a1)), .second, .val (.int (8 : Int32))] [(.int (w_position_a1 + (8 : Int32))), (.ref a1)])) rfl rfl (hb hby d14_71)
  have f30 : Fld Z h29 a1 "com/example/fieldstone/fieldstone/core/KeyReader" "key" "[B" (.ref w_key_a1) := F_key_a1.other W29 (Or.inr (slot_ne (Or.inr (hw _ (List.mem_of_getElem? (i := 25) rfl))) (Or.inl (hw _ (List.mem_of_getElem? (i := 32) rfl))) (by decide) (t := (.array .byte)) (t' := .int) (by decide) (by decide)))
  have f31 : Arv Z h29 w_key_a1 k_w_key_a1 .byte n_w_key_a1 vs_w_key_a1 (.int (0 : Int32)) := V_w_key_a1.other W29 ne_w_key_a1_a1
  have f32 : Fld Z h29 a1 "com/example/fieldstone/fieldstone/core/KeyReader" "position" "I" (.int (w_position_a1 + (8 : Int32))) := F_position_a1.same W29
  have f33 : Exa Z h29 a1 "com/example/fieldstone/fieldstone/core/KeyReader" := E_a1.wr W29
  have K34 : Keep h0 h29 [a1] := (Keep.refl h0 [a1]).wr W29 (Or.inl (List.mem_of_getElem? (i := 0) rfl))
  have N35 := Fr.snoc X29 N0 g_a1
  have Zs36 : n0 ≤ h29.size := Nat.le_trans Z0 (Keep.of_wr W29).1
  obtain ⟨fs, hr, hrun, hended, hW, hsame⟩ := X29.leave (v := some (.long (own_c8 vs_w_key_a1 w_position_a1))) (fun h => by rw [Bd.returns] at h; cases h) Bd.notSynchronized
  refine ⟨_, _, pre0 _ ?_, hrun, hended, _, _, rfl, ?_, ⟨_, rfl⟩, hW, hsame.mono (by decide) (by decide)⟩
  · show Steps p.tables e below (s₁.setTop (mkF m 0 #[.val (.ref a1), .val (.int (8 : Int32)), .unset, .unset, .unset] [])) _
    refine XS.aloadN X0.here hx rfl (hb hby d14_0) rfl rfl ?_
    show Steps p.tables e below (s₁.setTop (mkF m 1 #[.val (.ref a1), .val (.int (8 : Int32)), .unset, .unset, .unset] [(.ref a1)])) _
    refine st1 _ ?_
    show Steps p.tables e below (T1.setTop (mkF m 4 #[.val (.ref a1), .val (.int (8 : Int32)), .unset, .unset, .unset] [(.ref w_key_a1)])) _
    refine X1.arraylength hx (by rw [e1]; exact Aro2.1) (State.isArrayOf_alike hZ.alike Aro2.2.1) (g := (mkF m 4 #[.val (.ref a1), .val (.int (8 : Int32)), .unset, .unset, .unset] [(.ref w_key_a1)])) rfl rfl (hb hby d14_4) _ ?_
    rw [len_of So2 No2]
    show Steps p.tables e below (T1.setTop (mkF m 5 #[.val (.ref a1), .val (.int (8 : Int32)), .unset, .unset, .unset] [(.int n_w_key_a1)])) _
    refine XS.aloadN X1.here hx rfl (hb hby d14_5) rfl rfl ?_
    show Steps p.tables e below (T1.setTop (mkF m 6 #[.val (.ref a1), .val (.int (8 : Int32)), .unset, .unset, .unset] [(.ref a1), (.int n_w_key_a1)])) _
    refine st3 _ ?_
    show Steps p.tables e below (T3.setTop (mkF m 9 #[.val (.ref a1), .val (.int (8 : Int32)), .unset, .unset, .unset] [(.int w_position_a1), (.int n_w_key_a1)])) _
    refine XS.isub X3.here hx rfl (hb hby d14_9) rfl ?_
    show Steps p.tables e below (T3.setTop (mkF m 10 #[.val (.ref a1), .val (.int (8 : Int32)), .unset, .unset, .unset] [(.int (n_w_key_a1 - w_position_a1))])) _
    refine XS.iloadN X3.here hx rfl (hb hby d14_10) rfl ?_
    show Steps p.tables e below (T3.setTop (mkF m 11 #[.val (.ref a1), .val (.int (8 : Int32)), .unset, .unset, .unset] [(.int (8 : Int32)), (.int (n_w_key_a1 - w_position_a1))])) _
    refine XS.icmpYes X3.here hx rfl (pc0 := 11) (pc' := 24) rfl (hb hby d14_11) rfl (flt hp0).2.1 (by decide) (by decide) ?_
    show Steps p.tables e below (T3.setTop (mkF m 24 #[.val (.ref a1), .val (.int (8 : Int32)), .unset, .unset, .unset] [])) _
    refine XS.lconst X3.here hx rfl (hb hby d14_24) ?_
    show Steps p.tables e below (T3.setTop (mkF m 25 #[.val (.ref a1), .val (.int (8 : Int32)), .unset, .unset, .unset] [(.long (0 : Int64))])) _
    refine XS.lstoreN X3.here hx rfl (hb hby d14_25) rfl (l' := #[.val (.ref a1), .val (.int (8 : Int32)), .val (.long (0 : Int64)), .second, .unset]) rfl ?_
    show Steps p.tables e below (T3.setTop (mkF m 26 #[.val (.ref a1), .val (.int (8 : Int32)), .val (.long (0 : Int64)), .second, .unset] [])) _
    refine XS.iconst X3.here hx rfl (hb hby d14_26) ?_
    show Steps p.tables e below (T3.setTop (mkF m 27 #[.val (.ref a1), .val (.int (8 : Int32)), .val (.long (0 : Int64)), .second, .unset] [(.int (0 : Int32))])) _
    refine XS.istore X3.here hx rfl (hb hby d14_27) rfl (l' := #[.val (.ref a1), .val (.int (8 : Int32)), .val (.long (0 : Int64)), .second, .val (.int (0 : Int32))]) rfl ?_
    show Steps p.tables e below (T3.setTop (mkF m 29 #[.val (.ref a1), .val (.int (8 : Int32)), .val (.long (0 : Int64)), .second, .val (.int (0 : Int32))] [])) _
    refine XS.iload X3.here hx rfl (hb hby d14_29) rfl ?_
    refine XS.iloadN X3.here hx rfl (hb hby d14_31) rfl ?_
    show Steps p.tables e below (T3.setTop (mkF m 32 #[.val (.ref a1), .val (.int (8 : Int32)), .val (.long (0 : Int64)), .second, .val (.int (0 : Int32))] [(.int (8 : Int32)), (.int (0 : Int32))])) _
    refine XS.icmpNo X3.here hx rfl (hb hby d14_32) rfl (tlt (by decide : (0 : Int32) < (8 : Int32))).2.1 ?_
    show Steps p.tables e below (T3.setTop (mkF m 35 #[.val (.ref a1), .val (.int (8 : Int32)), .val (.long (0 : Int64)), .second, .val (.int (0 : Int32))] [])) _
    refine XS.lloadN X3.here hx rfl (hb hby d14_35) rfl ?_
    refine XS.bipush X3.here hx rfl (hb hby d14_36) ?_
    show Steps p.tables e below (T3.setTop (mkF m 38 #[.val (.ref a1), .val (.int (8 : Int32)), .val (.long (0 : Int64)), .second, .val (.int (0 : Int32))] [(.int (8 : Int32)), (.long (0 : Int64))])) _
    refine XS.lshl X3.here hx rfl (hb hby d14_38) rfl ?_
    show Steps p.tables e below (T3.setTop (mkF m 39 #[.val (.ref a1), .val (.int (8 : Int32)), .val (.long (0 : Int64)), .second, .val (.int (0 : Int32))] [(.long ((0 : Int64) <<< ((8 : Int32) &&& 0x3f).toInt64))])) _
    refine XS.aloadN X3.here hx rfl (hb hby d14_39) rfl rfl ?_
    show Steps p.tables e below (T3.setTop (mkF m 40 #[.val (.ref a1), .val (.int (8 : Int32)), .val (.long (0 : Int64)), .second, .val (.int (0 : Int32))] [(.ref a1), (.long ((0 : Int64) <<< ((8 : Int32) &&& 0x3f).toInt64))])) _
    refine st4 _ ?_
    show Steps p.tables e below (T4.setTop (mkF m 43 #[.val (.ref a1), .val (.int (8 : Int32)), .val (.long (0 : Int64)), .second, .val (.int (0 : Int32))] [(.ref w_key_a1), (.long ((0 : Int64) <<< ((8 : Int32) &&& 0x3f).toInt64))])) _
    refine XS.aloadN X4.here hx rfl (hb hby d14_43) rfl rfl ?_
    show Steps p.tables e below (T4.setTop (mkF m 44 #[.val (.ref a1), .val (.int (8 : Int32)), .val (.long (0 : Int64)), .second, .val (.int (0 : Int32))] [(.ref a1), (.ref w_key_a1), (.long ((0 : Int64) <<< ((8 : Int32) &&& 0x3f).toInt64))])) _
    refine st5 _ ?_
    show Steps p.tables e below (T5.setTop (mkF m 47 #[.val (.ref a1), .val (.int (8 : Int32)), .val (.long (0 : Int64)), .second, .val (.int (0 : Int32))] [(.int w_position_a1), (.ref w_key_a1), (.long ((0 : Int64) <<< ((8 : Int32) &&& 0x3f).toInt64))])) _
    refine XS.iload X5.here hx rfl (hb hby d14_47) rfl ?_
    show Steps p.tables e below (T5.setTop (mkF m 49 #[.val (.ref a1), .val (.int (8 : Int32)), .val (.long (0 : Int64)), .second, .val (.int (0 : Int32))] [(.int (0 : Int32)), (.int w_position_a1), (.ref w_key_a1), (.long ((0 : Int64) <<< ((8 : Int32) &&& 0x3f).toInt64))])) _
    refine XS.iadd X5.here hx rfl (hb hby d14_49) rfl ?_
    show Steps p.tables e below (T5.setTop (mkF m 50 #[.val (.ref a1), .val (.int (8 : Int32)), .val (.long (0 : Int64)), .second, .val (.int (0 : Int32))] [(.int (w_position_a1 + (0 : Int32))), (.ref w_key_a1), (.long ((0 : Int64) <<< ((8 : Int32) &&& 0x3f).toInt64))])) _
    refine X5.baloadBytes hx (j := (w_position_a1 + (0 : Int32))) (v := (.int (own_at vs_w_key_a1 ((w_position_a1 + (0 : Int32))).toNatClampNeg (.int (0 : Int32))))) (by rw [e5]; exact Aro6.1) (State.isArrayOf_alike hZ.alike Aro6.2.1) Aro6.2.2 hino6 (Ho6.at hino6 (own_at_eq (Go6 _ (Nat.lt_of_not_le fun y => hino6 (Or.inr y))) (by simp))) (g := (mkF m 50 #[.val (.ref a1), .val (.int (8 : Int32)), .val (.long (0 : Int64)), .second, .val (.int (0 : Int32))] [(.int (w_position_a1 + (0 : Int32))), (.ref w_key_a1), (.long ((0 : Int64) <<< ((8 : Int32) &&& 0x3f).toInt64))])) rfl rfl (hb hby d14_50) _ ?_
    show Steps p.tables e below (T5.setTop (mkF m 51 #[.val (.ref a1), .val (.int (8 : Int32)), .val (.long (0 : Int64)), .second, .val (.int (0 : Int32))] [(.int (own_at vs_w_key_a1 ((w_position_a1 + (0 : Int32))).toNatClampNeg (.int (0 : Int32)))), (.long ((0 : Int64) <<< ((8 : Int32) &&& 0x3f).toInt64))])) _
    refine XS.sipush X5.here hx rfl (hb hby d14_51) ?_
    show Steps p.tables e below (T5.setTop (mkF m 54 #[.val (.ref a1), .val (.int (8 : Int32)), .val (.long (0 : Int64)), .second, .val (.int (0 : Int32))] [(.int (255 : Int32)), (.int (own_at vs_w_key_a1 ((w_position_a1 + (0 : Int32))).toNatClampNeg (.int (0 : Int32)))), (.long ((0 : Int64) <<< ((8 : Int32) &&& 0x3f).toInt64))])) _
    refine XS.iand X5.here hx rfl (hb hby d14_54) rfl ?_
    show Steps p.tables e below (T5.setTop (mkF m 55 #[.val (.ref a1), .val (.int (8 : Int32)), .val (.long (0 : Int64)), .second, .val (.int (0 : Int32))] [(.int ((own_at vs_w_key_a1 ((w_position_a1 + (0 : Int32))).toNatClampNeg (.int (0 : Int32))) &&& (255 : Int32))), (.long ((0 : Int64) <<< ((8 : Int32) &&& 0x3f).toInt64))])) _
    refine XS.i2l X5.here hx rfl (hb hby d14_55) rfl ?_
    show Steps p.tables e below (T5.setTop (mkF m 56 #[.val (.ref a1), .val (.int (8 : Int32)), .val (.long (0 : Int64)), .second, .val (.int (0 : Int32))] [(.long (((own_at vs_w_key_a1 ((w_position_a1 + (0 : Int32))).toNatClampNeg (.int (0 : Int32))) &&& (255 : Int32)).toInt64)), (.long ((0 : Int64) <<< ((8 : Int32) &&& 0x3f).toInt64))])) _
    refine XS.lor X5.here hx rfl (hb hby d14_56) rfl ?_
    show Steps p.tables e below (T5.setTop (mkF m 57 #[.val (.ref a1), .val (.int (8 : Int32)), .val (.long (0 : Int64)), .second, .val (.int (0 : Int32))] [(.long (((0 : Int64) <<< ((8 : Int32) &&& 0x3f).toInt64) ||| (((own_at vs_w_key_a1 ((w_position_a1 + (0 : Int32))).toNatClampNeg (.int (0 : Int32))) &&& (255 : Int32)).toInt64)))])) _
    refine XS.lstoreN X5.here hx rfl (hb hby d14_57) rfl (l' := #[.val (.ref a1), .val (.int (8 : Int32)), .val (.long (own_c1 vs_w_key_a1 w_position_a1)), .second, .val (.int (0 : Int32))]) rfl ?_
    show Steps p.tables e below (T5.setTop (mkF m 58 #[.val (.ref a1), .val (.int (8 : Int32)), .val (.long (own_c1 vs_w_key_a1 w_position_a1)), .second, .val (.int (0 : Int32))] [])) _
    refine XS.iinc X5.here hx rfl (hb hby d14_58) rfl (l' := #[.val (.ref a1), .val (.int (8 : Int32)), .val (.long (own_c1 vs_w_key_a1 w_position_a1)), .second, .val (.int (1 : Int32))]) rfl ?_
    show Steps p.tables e below (T5.setTop (mkF m 61 #[.val (.ref a1), .val (.int (8 : Int32)), .val (.long (own_c1 vs_w_key_a1 w_position_a1)), .second, .val (.int (1 : Int32))] [])) _
    refine XS.goto X5.here hx rfl (pc0 := 61) (pc' := 29) rfl (hb hby d14_61) (by decide) (by decide) ?_
    show Steps p.tables e below (T5.setTop (mkF m 29 #[.val (.ref a1), .val (.int (8 : Int32)), .val (.long (own_c1 vs_w_key_a1 w_position_a1)), .second, .val (.int (1 : Int32))] [])) _
    refine XS.iload X5.here hx rfl (hb hby d14_29) rfl ?_
    refine XS.iloadN X5.here hx rfl (hb hby d14_31) rfl ?_
    show Steps p.tables e below (T5.setTop (mkF m 32 #[.val (.ref a1), .val (.int (8 : Int32)), .val (.long (own_c1 vs_w_key_a1 w_position_a1)), .second, .val (.int (1 : Int32))] [(.int (8 : Int32)), (.int (1 : Int32))])) _
    refine XS.icmpNo X5.here hx rfl (hb hby d14_32) rfl (tlt (by decide : (1 : Int32) < (8 : Int32))).2.1 ?_
    show Steps p.tables e below (T5.setTop (mkF m 35 #[.val (.ref a1), .val (.int (8 : Int32)), .val (.long (own_c1 vs_w_key_a1 w_position_a1)), .second, .val (.int (1 : Int32))] [])) _
    refine XS.lloadN X5.here hx rfl (hb hby d14_35) rfl ?_
    refine XS.bipush X5.here hx rfl (hb hby d14_36) ?_
    show Steps p.tables e below (T5.setTop (mkF m 38 #[.val (.ref a1), .val (.int (8 : Int32)), .val (.long (own_c1 vs_w_key_a1 w_position_a1)), .second, .val (.int (1 : Int32))] [(.int (8 : Int32)), (.long (own_c1 vs_w_key_a1 w_position_a1))])) _
    refine XS.lshl X5.here hx rfl (hb hby d14_38) rfl ?_
    show Steps p.tables e below (T5.setTop (mkF m 39 #[.val (.ref a1), .val (.int (8 : Int32)), .val (.long (own_c1 vs_w_key_a1 w_position_a1)), .second, .val (.int (1 : Int32))] [(.long ((own_c1 vs_w_key_a1 w_position_a1) <<< ((8 : Int32) &&& 0x3f).toInt64))])) _
    refine XS.aloadN X5.here hx rfl (hb hby d14_39) rfl rfl ?_
    show Steps p.tables e below (T5.setTop (mkF m 40 #[.val (.ref a1), .val (.int (8 : Int32)), .val (.long (own_c1 vs_w_key_a1 w_position_a1)), .second, .val (.int (1 : Int32))] [(.ref a1), (.long ((own_c1 vs_w_key_a1 w_position_a1) <<< ((8 : Int32) &&& 0x3f).toInt64))])) _
    refine st7 _ ?_
    show Steps p.tables e below (T7.setTop (mkF m 43 #[.val (.ref a1), .val (.int (8 : Int32)), .val (.long (own_c1 vs_w_key_a1 w_position_a1)), .second, .val (.int (1 : Int32))] [(.ref w_key_a1), (.long ((own_c1 vs_w_key_a1 w_position_a1) <<< ((8 : Int32) &&& 0x3f).toInt64))])) _
    refine XS.aloadN X7.here hx rfl (hb hby d14_43) rfl rfl ?_
    show Steps p.tables e below (T7.setTop (mkF m 44 #[.val (.ref a1), .val (.int (8 : Int32)), .val (.long (own_c1 vs_w_key_a1 w_position_a1)), .second, .val (.int (1 : Int32))] [(.ref a1), (.ref w_key_a1), (.long ((own_c1 vs_w_key_a1 w_position_a1) <<< ((8 : Int32) &&& 0x3f).toInt64))])) _
    refine st8 _ ?_
    show Steps p.tables e below (T8.setTop (mkF m 47 #[.val (.ref a1), .val (.int (8 : Int32)), .val (.long (own_c1 vs_w_key_a1 w_position_a1)), .second, .val (.int (1 : Int32))] [(.int w_position_a1), (.ref w_key_a1), (.long ((own_c1 vs_w_key_a1 w_position_a1) <<< ((8 : Int32) &&& 0x3f).toInt64))])) _
    refine XS.iload X8.here hx rfl (hb hby d14_47) rfl ?_
    show Steps p.tables e below (T8.setTop (mkF m 49 #[.val (.ref a1), .val (.int (8 : Int32)), .val (.long (own_c1 vs_w_key_a1 w_position_a1)), .second, .val (.int (1 : Int32))] [(.int (1 : Int32)), (.int w_position_a1), (.ref w_key_a1), (.long ((own_c1 vs_w_key_a1 w_position_a1) <<< ((8 : Int32) &&& 0x3f).toInt64))])) _
    refine XS.iadd X8.here hx rfl (hb hby d14_49) rfl ?_
    show Steps p.tables e below (T8.setTop (mkF m 50 #[.val (.ref a1), .val (.int (8 : Int32)), .val (.long (own_c1 vs_w_key_a1 w_position_a1)), .second, .val (.int (1 : Int32))] [(.int (w_position_a1 + (1 : Int32))), (.ref w_key_a1), (.long ((own_c1 vs_w_key_a1 w_position_a1) <<< ((8 : Int32) &&& 0x3f).toInt64))])) _
    refine X8.baloadBytes hx (j := (w_position_a1 + (1 : Int32))) (v := (.int (own_at vs_w_key_a1 ((w_position_a1 + (1 : Int32))).toNatClampNeg (.int (0 : Int32))))) (by rw [e8]; exact Aro9.1) (State.isArrayOf_alike hZ.alike Aro9.2.1) Aro9.2.2 hino9 (Ho9.at hino9 (own_at_eq (Go9 _ (Nat.lt_of_not_le fun y => hino9 (Or.inr y))) (by simp))) (g := (mkF m 50 #[.val (.ref a1), .val (.int (8 : Int32)), .val (.long (own_c1 vs_w_key_a1 w_position_a1)), .second, .val (.int (1 : Int32))] [(.int (w_position_a1 + (1 : Int32))), (.ref w_key_a1), (.long ((own_c1 vs_w_key_a1 w_position_a1) <<< ((8 : Int32) &&& 0x3f).toInt64))])) rfl rfl (hb hby d14_50) _ ?_
    show Steps p.tables e below (T8.setTop (mkF m 51 #[.val (.ref a1), .val (.int (8 : Int32)), .val (.long (own_c1 vs_w_key_a1 w_position_a1)), .second, .val (.int (1 : Int32))] [(.int (own_at vs_w_key_a1 ((w_position_a1 + (1 : Int32))).toNatClampNeg (.int (0 : Int32)))), (.long ((own_c1 vs_w_key_a1 w_position_a1) <<< ((8 : Int32) &&& 0x3f).toInt64))])) _
    refine XS.sipush X8.here hx rfl (hb hby d14_51) ?_
    show Steps p.tables e below (T8.setTop (mkF m 54 #[.val (.ref a1), .val (.int (8 : Int32)), .val (.long (own_c1 vs_w_key_a1 w_position_a1)), .second, .val (.int (1 : Int32))] [(.int (255 : Int32)), (.int (own_at vs_w_key_a1 ((w_position_a1 + (1 : Int32))).toNatClampNeg (.int (0 : Int32)))), (.long ((own_c1 vs_w_key_a1 w_position_a1) <<< ((8 : Int32) &&& 0x3f).toInt64))])) _
    refine XS.iand X8.here hx rfl (hb hby d14_54) rfl ?_
    show Steps p.tables e below (T8.setTop (mkF m 55 #[.val (.ref a1), .val (.int (8 : Int32)), .val (.long (own_c1 vs_w_key_a1 w_position_a1)), .second, .val (.int (1 : Int32))] [(.int ((own_at vs_w_key_a1 ((w_position_a1 + (1 : Int32))).toNatClampNeg (.int (0 : Int32))) &&& (255 : Int32))), (.long ((own_c1 vs_w_key_a1 w_position_a1) <<< ((8 : Int32) &&& 0x3f).toInt64))])) _
    refine XS.i2l X8.here hx rfl (hb hby d14_55) rfl ?_
    show Steps p.tables e below (T8.setTop (mkF m 56 #[.val (.ref a1), .val (.int (8 : Int32)), .val (.long (own_c1 vs_w_key_a1 w_position_a1)), .second, .val (.int (1 : Int32))] [(.long (((own_at vs_w_key_a1 ((w_position_a1 + (1 : Int32))).toNatClampNeg (.int (0 : Int32))) &&& (255 : Int32)).toInt64)), (.long ((own_c1 vs_w_key_a1 w_position_a1) <<< ((8 : Int32) &&& 0x3f).toInt64))])) _
    refine XS.lor X8.here hx rfl (hb hby d14_56) rfl ?_
    show Steps p.tables e below (T8.setTop (mkF m 57 #[.val (.ref a1), .val (.int (8 : Int32)), .val (.long (own_c1 vs_w_key_a1 w_position_a1)), .second, .val (.int (1 : Int32))] [(.long (((own_c1 vs_w_key_a1 w_position_a1) <<< ((8 : Int32) &&& 0x3f).toInt64) ||| (((own_at vs_w_key_a1 ((w_position_a1 + (1 : Int32))).toNatClampNeg (.int (0 : Int32))) &&& (255 : Int32)).toInt64)))])) _
    refine XS.lstoreN X8.here hx rfl (hb hby d14_57) rfl (l' := #[.val (.ref a1), .val (.int (8 : Int32)), .val (.long (own_c2 vs_w_key_a1 w_position_a1)), .second, .val (.int (1 : Int32))]) rfl ?_
    show Steps p.tables e below (T8.setTop (mkF m 58 #[.val (.ref a1), .val (.int (8 : Int32)), .val (.long (own_c2 vs_w_key_a1 w_position_a1)), .second, .val (.int (1 : Int32))] [])) _
    refine XS.iinc X8.here hx rfl (hb hby d14_58) rfl (l' := #[.val (.ref a1), .val (.int (8 : Int32)), .val (.long (own_c2 vs_w_key_a1 w_position_a1)), .second, .val (.int (2 : Int32))]) rfl ?_
    show Steps p.tables e below (T8.setTop (mkF m 61 #[.val (.ref a1), .val (.int (8 : Int32)), .val (.long (own_c2 vs_w_key_a1 w_position_a1)), .second, .val (.int (2 : Int32))] [])) _
    refine XS.goto X8.here hx rfl (pc0 := 61) (pc' := 29) rfl (hb hby d14_61) (by decide) (by decide) ?_
    show Steps p.tables e below (T8.setTop (mkF m 29 #[.val (.ref a1), .val (.int (8 : Int32)), .val (.long (own_c2 vs_w_key_a1 w_position_a1)), .second, .val (.int (2 : Int32))] [])) _
    refine XS.iload X8.here hx rfl (hb hby d14_29) rfl ?_
    refine XS.iloadN X8.here hx rfl (hb hby d14_31) rfl ?_
    show Steps p.tables e below (T8.setTop (mkF m 32 #[.val (.ref a1), .val (.int (8 : Int32)), .val (.long (own_c2 vs_w_key_a1 w_position_a1)), .second, .val (.int (2 : Int32))] [(.int (8 : Int32)), (.int (2 : Int32))])) _
    refine XS.icmpNo X8.here hx rfl (hb hby d14_32) rfl (tlt (by decide : (2 : Int32) < (8 : Int32))).2.1 ?_
    show Steps p.tables e below (T8.setTop (mkF m 35 #[.val (.ref a1), .val (.int (8 : Int32)), .val (.long (own_c2 vs_w_key_a1 w_position_a1)), .second, .val (.int (2 : Int32))] [])) _
    refine XS.lloadN X8.here hx rfl (hb hby d14_35) rfl ?_
    refine XS.bipush X8.here hx rfl (hb hby d14_36) ?_
    show Steps p.tables e below (T8.setTop (mkF m 38 #[.val (.ref a1), .val (.int (8 : Int32)), .val (.long (own_c2 vs_w_key_a1 w_position_a1)), .second, .val (.int (2 : Int32))] [(.int (8 : Int32)), (.long (own_c2 vs_w_key_a1 w_position_a1))])) _
    refine XS.lshl X8.here hx rfl (hb hby d14_38) rfl ?_
    show Steps p.tables e below (T8.setTop (mkF m 39 #[.val (.ref a1), .val (.int (8 : Int32)), .val (.long (own_c2 vs_w_key_a1 w_position_a1)), .second, .val (.int (2 : Int32))] [(.long ((own_c2 vs_w_key_a1 w_position_a1) <<< ((8 : Int32) &&& 0x3f).toInt64))])) _
    refine XS.aloadN X8.here hx rfl (hb hby d14_39) rfl rfl ?_
    show Steps p.tables e below (T8.setTop (mkF m 40 #[.val (.ref a1), .val (.int (8 : Int32)), .val (.long (own_c2 vs_w_key_a1 w_position_a1)), .second, .val (.int (2 : Int32))] [(.ref a1), (.long ((own_c2 vs_w_key_a1 w_position_a1) <<< ((8 : Int32) &&& 0x3f).toInt64))])) _
    refine st10 _ ?_
    show Steps p.tables e below (T10.setTop (mkF m 43 #[.val (.ref a1), .val (.int (8 : Int32)), .val (.long (own_c2 vs_w_key_a1 w_position_a1)), .second, .val (.int (2 : Int32))] [(.ref w_key_a1), (.long ((own_c2 vs_w_key_a1 w_position_a1) <<< ((8 : Int32) &&& 0x3f).toInt64))])) _
    refine XS.aloadN X10.here hx rfl (hb hby d14_43) rfl rfl ?_
    show Steps p.tables e below (T10.setTop (mkF m 44 #[.val (.ref a1), .val (.int (8 : Int32)), .val (.long (own_c2 vs_w_key_a1 w_position_a1)), .second, .val (.int (2 : Int32))] [(.ref a1), (.ref w_key_a1), (.long ((own_c2 vs_w_key_a1 w_position_a1) <<< ((8 : Int32) &&& 0x3f).toInt64))])) _
    refine st11 _ ?_
    show Steps p.tables e below (T11.setTop (mkF m 47 #[.val (.ref a1), .val (.int (8 : Int32)), .val (.long (own_c2 vs_w_key_a1 w_position_a1)), .second, .val (.int (2 : Int32))] [(.int w_position_a1), (.ref w_key_a1), (.long ((own_c2 vs_w_key_a1 w_position_a1) <<< ((8 : Int32) &&& 0x3f).toInt64))])) _
    refine XS.iload X11.here hx rfl (hb hby d14_47) rfl ?_
    show Steps p.tables e below (T11.setTop (mkF m 49 #[.val (.ref a1), .val (.int (8 : Int32)), .val (.long (own_c2 vs_w_key_a1 w_position_a1)), .second, .val (.int (2 : Int32))] [(.int (2 : Int32)), (.int w_position_a1), (.ref w_key_a1), (.long ((own_c2 vs_w_key_a1 w_position_a1) <<< ((8 : Int32) &&& 0x3f).toInt64))])) _
    refine XS.iadd X11.here hx rfl (hb hby d14_49) rfl ?_
    show Steps p.tables e below (T11.setTop (mkF m 50 #[.val (.ref a1), .val (.int (8 : Int32)), .val (.long (own_c2 vs_w_key_a1 w_position_a1)), .second, .val (.int (2 : Int32))] [(.int (w_position_a1 + (2 : Int32))), (.ref w_key_a1), (.long ((own_c2 vs_w_key_a1 w_position_a1) <<< ((8 : Int32) &&& 0x3f).toInt64))])) _
    refine X11.baloadBytes hx (j := (w_position_a1 + (2 : Int32))) (v := (.int (own_at vs_w_key_a1 ((w_position_a1 + (2 : Int32))).toNatClampNeg (.int (0 : Int32))))) (by rw [e11]; exact Aro12.1) (State.isArrayOf_alike hZ.alike Aro12.2.1) Aro12.2.2 hino12 (Ho12.at hino12 (own_at_eq (Go12 _ (Nat.lt_of_not_le fun y => hino12 (Or.inr y))) (by simp))) (g := (mkF m 50 #[.val (.ref a1), .val (.int (8 : Int32)), .val (.long (own_c2 vs_w_key_a1 w_position_a1)), .second, .val (.int (2 : Int32))] [(.int (w_position_a1 + (2 : Int32))), (.ref w_key_a1), (.long ((own_c2 vs_w_key_a1 w_position_a1) <<< ((8 : Int32) &&& 0x3f).toInt64))])) rfl rfl (hb hby d14_50) _ ?_
    show Steps p.tables e below (T11.setTop (mkF m 51 #[.val (.ref a1), .val (.int (8 : Int32)), .val (.long (own_c2 vs_w_key_a1 w_position_a1)), .second, .val (.int (2 : Int32))] [(.int (own_at vs_w_key_a1 ((w_position_a1 + (2 : Int32))).toNatClampNeg (.int (0 : Int32)))), (.long ((own_c2 vs_w_key_a1 w_position_a1) <<< ((8 : Int32) &&& 0x3f).toInt64))])) _
    refine XS.sipush X11.here hx rfl (hb hby d14_51) ?_
    show Steps p.tables e below (T11.setTop (mkF m 54 #[.val (.ref a1), .val (.int (8 : Int32)), .val (.long (own_c2 vs_w_key_a1 w_position_a1)), .second, .val (.int (2 : Int32))] [(.int (255 : Int32)), (.int (own_at vs_w_key_a1 ((w_position_a1 + (2 : Int32))).toNatClampNeg (.int (0 : Int32)))), (.long ((own_c2 vs_w_key_a1 w_position_a1) <<< ((8 : Int32) &&& 0x3f).toInt64))])) _
    refine XS.iand X11.here hx rfl (hb hby d14_54) rfl ?_
    show Steps p.tables e below (T11.setTop (mkF m 55 #[.val (.ref a1), .val (.int (8 : Int32)), .val (.long (own_c2 vs_w_key_a1 w_position_a1)), .second, .val (.int (2 : Int32))] [(.int ((own_at vs_w_key_a1 ((w_position_a1 + (2 : Int32))).toNatClampNeg (.int (0 : Int32))) &&& (255 : Int32))), (.long ((own_c2 vs_w_key_a1 w_position_a1) <<< ((8 : Int32) &&& 0x3f).toInt64))])) _
    refine XS.i2l X11.here hx rfl (hb hby d14_55) rfl ?_
    show Steps p.tables e below (T11.setTop (mkF m 56 #[.val (.ref a1), .val (.int (8 : Int32)), .val (.long (own_c2 vs_w_key_a1 w_position_a1)), .second, .val (.int (2 : Int32))] [(.long (((own_at vs_w_key_a1 ((w_position_a1 + (2 : Int32))).toNatClampNeg (.int (0 : Int32))) &&& (255 : Int32)).toInt64)), (.long ((own_c2 vs_w_key_a1 w_position_a1) <<< ((8 : Int32) &&& 0x3f).toInt64))])) _
    refine XS.lor X11.here hx rfl (hb hby d14_56) rfl ?_
    show Steps p.tables e below (T11.setTop (mkF m 57 #[.val (.ref a1), .val (.int (8 : Int32)), .val (.long (own_c2 vs_w_key_a1 w_position_a1)), .second, .val (.int (2 : Int32))] [(.long (((own_c2 vs_w_key_a1 w_position_a1) <<< ((8 : Int32) &&& 0x3f).toInt64) ||| (((own_at vs_w_key_a1 ((w_position_a1 + (2 : Int32))).toNatClampNeg (.int (0 : Int32))) &&& (255 : Int32)).toInt64)))])) _
    refine XS.lstoreN X11.here hx rfl (hb hby d14_57) rfl (l' := #[.val (.ref a1), .val (.int (8 : Int32)), .val (.long (own_c3 vs_w_key_a1 w_position_a1)), .second, .val (.int (2 : Int32))]) rfl ?_
    show Steps p.tables e below (T11.setTop (mkF m 58 #[.val (.ref a1), .val (.int (8 : Int32)), .val (.long (own_c3 vs_w_key_a1 w_position_a1)), .second, .val (.int (2 : Int32))] [])) _
    refine XS.iinc X11.here hx rfl (hb hby d14_58) rfl (l' := #[.val (.ref a1), .val (.int (8 : Int32)), .val (.long (own_c3 vs_w_key_a1 w_position_a1)), .second, .val (.int (3 : Int32))]) rfl ?_
    show Steps p.tables e below (T11.setTop (mkF m 61 #[.val (.ref a1), .val (.int (8 : Int32)), .val (.long (own_c3 vs_w_key_a1 w_position_a1)), .second, .val (.int (3 : Int32))] [])) _
    refine XS.goto X11.here hx rfl (pc0 := 61) (pc' := 29) rfl (hb hby d14_61) (by decide) (by decide) ?_
    show Steps p.tables e below (T11.setTop (mkF m 29 #[.val (.ref a1), .val (.int (8 : Int32)), .val (.long (own_c3 vs_w_key_a1 w_position_a1)), .second, .val (.int (3 : Int32))] [])) _
    refine XS.iload X11.here hx rfl (hb hby d14_29) rfl ?_
    refine XS.iloadN X11.here hx rfl (hb hby d14_31) rfl ?_
    show Steps p.tables e below (T11.setTop (mkF m 32 #[.val (.ref a1), .val (.int (8 : Int32)), .val (.long (own_c3 vs_w_key_a1 w_position_a1)), .second, .val (.int (3 : Int32))] [(.int (8 : Int32)), (.int (3 : Int32))])) _
    refine XS.icmpNo X11.here hx rfl (hb hby d14_32) rfl (tlt (by decide : (3 : Int32) < (8 : Int32))).2.1 ?_
    show Steps p.tables e below (T11.setTop (mkF m 35 #[.val (.ref a1), .val (.int (8 : Int32)), .val (.long (own_c3 vs_w_key_a1 w_position_a1)), .second, .val (.int (3 : Int32))] [])) _
    refine XS.lloadN X11.here hx rfl (hb hby d14_35) rfl ?_
    refine XS.bipush X11.here hx rfl (hb hby d14_36) ?_
    show Steps p.tables e below (T11.setTop (mkF m 38 #[.val (.ref a1), .val (.int (8 : Int32)), .val (.long (own_c3 vs_w_key_a1 w_position_a1)), .second, .val (.int (3 : Int32))] [(.int (8 : Int32)), (.long (own_c3 vs_w_key_a1 w_position_a1))])) _
    refine XS.lshl X11.here hx rfl (hb hby d14_38) rfl ?_
    show Steps p.tables e below (T11.setTop (mkF m 39 #[.val (.ref a1), .val (.int (8 : Int32)), .val (.long (own_c3 vs_w_key_a1 w_position_a1)), .second, .val (.int (3 : Int32))] [(.long ((own_c3 vs_w_key_a1 w_position_a1) <<< ((8 : Int32) &&& 0x3f).toInt64))])) _
    refine XS.aloadN X11.here hx rfl (hb hby d14_39) rfl rfl ?_
    show Steps p.tables e below (T11.setTop (mkF m 40 #[.val (.ref a1), .val (.int (8 : Int32)), .val (.long (own_c3 vs_w_key_a1 w_position_a1)), .second, .val (.int (3 : Int32))] [(.ref a1), (.long ((own_c3 vs_w_key_a1 w_position_a1) <<< ((8 : Int32) &&& 0x3f).toInt64))])) _
    refine st13 _ ?_
    show Steps p.tables e below (T13.setTop (mkF m 43 #[.val (.ref a1), .val (.int (8 : Int32)), .val (.long (own_c3 vs_w_key_a1 w_position_a1)), .second, .val (.int (3 : Int32))] [(.ref w_key_a1), (.long ((own_c3 vs_w_key_a1 w_position_a1) <<< ((8 : Int32) &&& 0x3f).toInt64))])) _
    refine XS.aloadN X13.here hx rfl (hb hby d14_43) rfl rfl ?_
    show Steps p.tables e below (T13.setTop (mkF m 44 #[.val (.ref a1), .val (.int (8 : Int32)), .val (.long (own_c3 vs_w_key_a1 w_position_a1)), .second, .val (.int (3 : Int32))] [(.ref a1), (.ref w_key_a1), (.long ((own_c3 vs_w_key_a1 w_position_a1) <<< ((8 : Int32) &&& 0x3f).toInt64))])) _
    refine st14 _ ?_
    show Steps p.tables e below (T14.setTop (mkF m 47 #[.val (.ref a1), .val (.int (8 : Int32)), .val (.long (own_c3 vs_w_key_a1 w_position_a1)), .second, .val (.int (3 : Int32))] [(.int w_position_a1), (.ref w_key_a1), (.long ((own_c3 vs_w_key_a1 w_position_a1) <<< ((8 : Int32) &&& 0x3f).toInt64))])) _
    refine XS.iload X14.here hx rfl (hb hby d14_47) rfl ?_
    show Steps p.tables e below (T14.setTop (mkF m 49 #[.val (.ref a1), .val (.int (8 : Int32)), .val (.long (own_c3 vs_w_key_a1 w_position_a1)), .second, .val (.int (3 : Int32))] [(.int (3 : Int32)), (.int w_position_a1), (.ref w_key_a1), (.long ((own_c3 vs_w_key_a1 w_position_a1) <<< ((8 : Int32) &&& 0x3f).toInt64))])) _
    refine XS.iadd X14.here hx rfl (hb hby d14_49) rfl ?_
    show Steps p.tables e below (T14.setTop (mkF m 50 #[.val (.ref a1), .val (.int (8 : Int32)), .val (.long (own_c3 vs_w_key_a1 w_position_a1)), .second, .val (.int (3 : Int32))] [(.int (w_position_a1 + (3 : Int32))), (.ref w_key_a1), (.long ((own_c3 vs_w_key_a1 w_position_a1) <<< ((8 : Int32) &&& 0x3f).toInt64))])) _
    refine X14.baloadBytes hx (j := (w_position_a1 + (3 : Int32))) (v := (.int (own_at vs_w_key_a1 ((w_position_a1 + (3 : Int32))).toNatClampNeg (.int (0 : Int32))))) (by rw [e14]; exact Aro15.1) (State.isArrayOf_alike hZ.alike Aro15.2.1) Aro15.2.2 hino15 (Ho15.at hino15 (own_at_eq (Go15 _ (Nat.lt_of_not_le fun y => hino15 (Or.inr y))) (by simp))) (g := (mkF m 50 #[.val (.ref a1), .val (.int (8 : Int32)), .val (.long (own_c3 vs_w_key_a1 w_position_a1)), .second, .val (.int (3 : Int32))] [(.int (w_position_a1 + (3 : Int32))), (.ref w_key_a1), (.long ((own_c3 vs_w_key_a1 w_position_a1) <<< ((8 : Int32) &&& 0x3f).toInt64))])) rfl rfl (hb hby d14_50) _ ?_
    show Steps p.tables e below (T14.setTop (mkF m 51 #[.val (.ref a1), .val (.int (8 : Int32)), .val (.long (own_c3 vs_w_key_a1 w_position_a1)), .second, .val (.int (3 : Int32))] [(.int (own_at vs_w_key_a1 ((w_position_a1 + (3 : Int32))).toNatClampNeg (.int (0 : Int32)))), (.long ((own_c3 vs_w_key_a1 w_position_a1) <<< ((8 : Int32) &&& 0x3f).toInt64))])) _
    refine XS.sipush X14.here hx rfl (hb hby d14_51) ?_
    show Steps p.tables e below (T14.setTop (mkF m 54 #[.val (.ref a1), .val (.int (8 : Int32)), .val (.long (own_c3 vs_w_key_a1 w_position_a1)), .second, .val (.int (3 : Int32))] [(.int (255 : Int32)), (.int (own_at vs_w_key_a1 ((w_position_a1 + (3 : Int32))).toNatClampNeg (.int (0 : Int32)))), (.long ((own_c3 vs_w_key_a1 w_position_a1) <<< ((8 : Int32) &&& 0x3f).toInt64))])) _
    refine XS.iand X14.here hx rfl (hb hby d14_54) rfl ?_
    show Steps p.tables e below (T14.setTop (mkF m 55 #[.val (.ref a1), .val (.int (8 : Int32)), .val (.long (own_c3 vs_w_key_a1 w_position_a1)), .second, .val (.int (3 : Int32))] [(.int ((own_at vs_w_key_a1 ((w_position_a1 + (3 : Int32))).toNatClampNeg (.int (0 : Int32))) &&& (255 : Int32))), (.long ((own_c3 vs_w_key_a1 w_position_a1) <<< ((8 : Int32) &&& 0x3f).toInt64))])) _
    refine XS.i2l X14.here hx rfl (hb hby d14_55) rfl ?_
    show Steps p.tables e below (T14.setTop (mkF m 56 #[.val (.ref a1), .val (.int (8 : Int32)), .val (.long (own_c3 vs_w_key_a1 w_position_a1)), .second, .val (.int (3 : Int32))] [(.long (((own_at vs_w_key_a1 ((w_position_a1 + (3 : Int32))).toNatClampNeg (.int (0 : Int32))) &&& (255 : Int32)).toInt64)), (.long ((own_c3 vs_w_key_a1 w_position_a1) <<< ((8 : Int32) &&& 0x3f).toInt64))])) _
    refine XS.lor X14.here hx rfl (hb hby d14_56) rfl ?_
    show Steps p.tables e below (T14.setTop (mkF m 57 #[.val (.ref a1), .val (.int (8 : Int32)), .val (.long (own_c3 vs_w_key_a1 w_position_a1)), .second, .val (.int (3 : Int32))] [(.long (((own_c3 vs_w_key_a1 w_position_a1) <<< ((8 : Int32) &&& 0x3f).toInt64) ||| (((own_at vs_w_key_a1 ((w_position_a1 + (3 : Int32))).toNatClampNeg (.int (0 : Int32))) &&& (255 : Int32)).toInt64)))])) _
    refine XS.lstoreN X14.here hx rfl (hb hby d14_57) rfl (l' := #[.val (.ref a1), .val (.int (8 : Int32)), .val (.long (own_c4 vs_w_key_a1 w_position_a1)), .second, .val (.int (3 : Int32))]) rfl ?_
    show Steps p.tables e below (T14.setTop (mkF m 58 #[.val (.ref a1), .val (.int (8 : Int32)), .val (.long (own_c4 vs_w_key_a1 w_position_a1)), .second, .val (.int (3 : Int32))] [])) _
    refine XS.iinc X14.here hx rfl (hb hby d14_58) rfl (l' := #[.val (.ref a1), .val (.int (8 : Int32)), .val (.long (own_c4 vs_w_key_a1 w_position_a1)), .second, .val (.int (4 : Int32))]) rfl ?_
    show Steps p.tables e below (T14.setTop (mkF m 61 #[.val (.ref a1), .val (.int (8 : Int32)), .val (.long (own_c4 vs_w_key_a1 w_position_a1)), .second, .val (.int (4 : Int32))] [])) _
    refine XS.goto X14.here hx rfl (pc0 := 61) (pc' := 29) rfl (hb hby d14_61) (by decide) (by decide) ?_
    show Steps p.tables e below (T14.setTop (mkF m 29 #[.val (.ref a1), .val (.int (8 : Int32)), .val (.long (own_c4 vs_w_key_a1 w_position_a1)), .second, .val (.int (4 : Int32))] [])) _
    refine XS.iload X14.here hx rfl (hb hby d14_29) rfl ?_
    refine XS.iloadN X14.here hx rfl (hb hby d14_31) rfl ?_
    show Steps p.tables e below (T14.setTop (mkF m 32 #[.val (.ref a1), .val (.int (8 : Int32)), .val (.long (own_c4 vs_w_key_a1 w_position_a1)), .second, .val (.int (4 : Int32))] [(.int (8 : Int32)), (.int (4 : Int32))])) _
    refine XS.icmpNo X14.here hx rfl (hb hby d14_32) rfl (tlt (by decide : (4 : Int32) < (8 : Int32))).2.1 ?_
    show Steps p.tables e below (T14.setTop (mkF m 35 #[.val (.ref a1), .val (.int (8 : Int32)), .val (.long (own_c4 vs_w_key_a1 w_position_a1)), .second, .val (.int (4 : Int32))] [])) _
    refine XS.lloadN X14.here hx rfl (hb hby d14_35) rfl ?_
    refine XS.bipush X14.here hx rfl (hb hby d14_36) ?_
    show Steps p.tables e below (T14.setTop (mkF m 38 #[.val (.ref a1), .val (.int (8 : Int32)), .val (.long (own_c4 vs_w_key_a1 w_position_a1)), .second, .val (.int (4 : Int32))] [(.int (8 : Int32)), (.long (own_c4 vs_w_key_a1 w_position_a1))])) _
    refine XS.lshl X14.here hx rfl (hb hby d14_38) rfl ?_
    show Steps p.tables e below (T14.setTop (mkF m 39 #[.val (.ref a1), .val (.int (8 : Int32)), .val (.long (own_c4 vs_w_key_a1 w_position_a1)), .second, .val (.int (4 : Int32))] [(.long ((own_c4 vs_w_key_a1 w_position_a1) <<< ((8 : Int32) &&& 0x3f).toInt64))])) _
    refine XS.aloadN X14.here hx rfl (hb hby d14_39) rfl rfl ?_
    show Steps p.tables e below (T14.setTop (mkF m 40 #[.val (.ref a1), .val (.int (8 : Int32)), .val (.long (own_c4 vs_w_key_a1 w_position_a1)), .second, .val (.int (4 : Int32))] [(.ref a1), (.long ((own_c4 vs_w_key_a1 w_position_a1) <<< ((8 : Int32) &&& 0x3f).toInt64))])) _
    refine st16 _ ?_
    show Steps p.tables e below (T16.setTop (mkF m 43 #[.val (.ref a1), .val (.int (8 : Int32)), .val (.long (own_c4 vs_w_key_a1 w_position_a1)), .second, .val (.int (4 : Int32))] [(.ref w_key_a1), (.long ((own_c4 vs_w_key_a1 w_position_a1) <<< ((8 : Int32) &&& 0x3f).toInt64))])) _
    refine XS.aloadN X16.here hx rfl (hb hby d14_43) rfl rfl ?_
    show Steps p.tables e below (T16.setTop (mkF m 44 #[.val (.ref a1), .val (.int (8 : Int32)), .val (.long (own_c4 vs_w_key_a1 w_position_a1)), .second, .val (.int (4 : Int32))] [(.ref a1), (.ref w_key_a1), (.long ((own_c4 vs_w_key_a1 w_position_a1) <<< ((8 : Int32) &&& 0x3f).toInt64))])) _
    refine st17 _ ?_
    show Steps p.tables e below (T17.setTop (mkF m 47 #[.val (.ref a1), .val (.int (8 : Int32)), .val (.long (own_c4 vs_w_key_a1 w_position_a1)), .second, .val (.int (4 : Int32))] [(.int w_position_a1), (.ref w_key_a1), (.long ((own_c4 vs_w_key_a1 w_position_a1) <<< ((8 : Int32) &&& 0x3f).toInt64))])) _
    refine XS.iload X17.here hx rfl (hb hby d14_47) rfl ?_
    show Steps p.tables e below (T17.setTop (mkF m 49 #[.val (.ref a1), .val (.int (8 : Int32)), .val (.long (own_c4 vs_w_key_a1 w_position_a1)), .second, .val (.int (4 : Int32))] [(.int (4 : Int32)), (.int w_position_a1), (.ref w_key_a1), (.long ((own_c4 vs_w_key_a1 w_position_a1) <<< ((8 : Int32) &&& 0x3f).toInt64))])) _
    refine XS.iadd X17.here hx rfl (hb hby d14_49) rfl ?_
    show Steps p.tables e below (T17.setTop (mkF m 50 #[.val (.ref a1), .val (.int (8 : Int32)), .val (.long (own_c4 vs_w_key_a1 w_position_a1)), .second, .val (.int (4 : Int32))] [(.int (w_position_a1 + (4 : Int32))), (.ref w_key_a1), (.long ((own_c4 vs_w_key_a1 w_position_a1) <<< ((8 : Int32) &&& 0x3f).toInt64))])) _
    refine X17.baloadBytes hx (j := (w_position_a1 + (4 : Int32))) (v := (.int (own_at vs_w_key_a1 ((w_position_a1 + (4 : Int32))).toNatClampNeg (.int (0 : Int32))))) (by rw [e17]; exact Aro18.1) (State.isArrayOf_alike hZ.alike Aro18.2.1) Aro18.2.2 hino18 (Ho18.at hino18 (own_at_eq (Go18 _ (Nat.lt_of_not_le fun y => hino18 (Or.inr y))) (by simp))) (g := (mkF m 50 #[.val (.ref a1), .val (.int (8 : Int32)), .val (.long (own_c4 vs_w_key_a1 w_position_a1)), .second, .val (.int (4 : Int32))] [(.int (w_position_a1 + (4 : Int32))), (.ref w_key_a1), (.long ((own_c4 vs_w_key_a1 w_position_a1) <<< ((8 : Int32) &&& 0x3f).toInt64))])) rfl rfl (hb hby d14_50) _ ?_
    show Steps p.tables e below (T17.setTop (mkF m 51 #[.val (.ref a1), .val (.int (8 : Int32)), .val (.long (own_c4 vs_w_key_a1 w_position_a1)), .second, .val (.int (4 : Int32))] [(.int (own_at vs_w_key_a1 ((w_position_a1 + (4 : Int32))).toNatClampNeg (.int (0 : Int32)))), (.long ((own_c4 vs_w_key_a1 w_position_a1) <<< ((8 : Int32) &&& 0x3f).toInt64))])) _
    refine XS.sipush X17.here hx rfl (hb hby d14_51) ?_
    show Steps p.tables e below (T17.setTop (mkF m 54 #[.val (.ref a1), .val (.int (8 : Int32)), .val (.long (own_c4 vs_w_key_a1 w_position_a1)), .second, .val (.int (4 : Int32))] [(.int (255 : Int32)), (.int (own_at vs_w_key_a1 ((w_position_a1 + (4 : Int32))).toNatClampNeg (.int (0 : Int32)))), (.long ((own_c4 vs_w_key_a1 w_position_a1) <<< ((8 : Int32) &&& 0x3f).toInt64))])) _
    refine XS.iand X17.here hx rfl (hb hby d14_54) rfl ?_
    show Steps p.tables e below (T17.setTop (mkF m 55 #[.val (.ref a1), .val (.int (8 : Int32)), .val (.long (own_c4 vs_w_key_a1 w_position_a1)), .second, .val (.int (4 : Int32))] [(.int ((own_at vs_w_key_a1 ((w_position_a1 + (4 : Int32))).toNatClampNeg (.int (0 : Int32))) &&& (255 : Int32))), (.long ((own_c4 vs_w_key_a1 w_position_a1) <<< ((8 : Int32) &&& 0x3f).toInt64))])) _
    refine XS.i2l X17.here hx rfl (hb hby d14_55) rfl ?_
    show Steps p.tables e below (T17.setTop (mkF m 56 #[.val (.ref a1), .val (.int (8 : Int32)), .val (.long (own_c4 vs_w_key_a1 w_position_a1)), .second, .val (.int (4 : Int32))] [(.long (((own_at vs_w_key_a1 ((w_position_a1 + (4 : Int32))).toNatClampNeg (.int (0 : Int32))) &&& (255 : Int32)).toInt64)), (.long ((own_c4 vs_w_key_a1 w_position_a1) <<< ((8 : Int32) &&& 0x3f).toInt64))])) _
    refine XS.lor X17.here hx rfl (hb hby d14_56) rfl ?_
    show Steps p.tables e below (T17.setTop (mkF m 57 #[.val (.ref a1), .val (.int (8 : Int32)), .val (.long (own_c4 vs_w_key_a1 w_position_a1)), .second, .val (.int (4 : Int32))] [(.long (((own_c4 vs_w_key_a1 w_position_a1) <<< ((8 : Int32) &&& 0x3f).toInt64) ||| (((own_at vs_w_key_a1 ((w_position_a1 + (4 : Int32))).toNatClampNeg (.int (0 : Int32))) &&& (255 : Int32)).toInt64)))])) _
    refine XS.lstoreN X17.here hx rfl (hb hby d14_57) rfl (l' := #[.val (.ref a1), .val (.int (8 : Int32)), .val (.long (own_c5 vs_w_key_a1 w_position_a1)), .second, .val (.int (4 : Int32))]) rfl ?_
    show Steps p.tables e below (T17.setTop (mkF m 58 #[.val (.ref a1), .val (.int (8 : Int32)), .val (.long (own_c5 vs_w_key_a1 w_position_a1)), .second, .val (.int (4 : Int32))] [])) _
    refine XS.iinc X17.here hx rfl (hb hby d14_58) rfl (l' := #[.val (.ref a1), .val (.int (8 : Int32)), .val (.long (own_c5 vs_w_key_a1 w_position_a1)), .second, .val (.int (5 : Int32))]) rfl ?_
    show Steps p.tables e below (T17.setTop (mkF m 61 #[.val (.ref a1), .val (.int (8 : Int32)), .val (.long (own_c5 vs_w_key_a1 w_position_a1)), .second, .val (.int (5 : Int32))] [])) _
    refine XS.goto X17.here hx rfl (pc0 := 61) (pc' := 29) rfl (hb hby d14_61) (by decide) (by decide) ?_
    show Steps p.tables e below (T17.setTop (mkF m 29 #[.val (.ref a1), .val (.int (8 : Int32)), .val (.long (own_c5 vs_w_key_a1 w_position_a1)), .second, .val (.int (5 : Int32))] [])) _
    refine XS.iload X17.here hx rfl (hb hby d14_29) rfl ?_
    refine XS.iloadN X17.here hx rfl (hb hby d14_31) rfl ?_
    show Steps p.tables e below (T17.setTop (mkF m 32 #[.val (.ref a1), .val (.int (8 : Int32)), .val (.long (own_c5 vs_w_key_a1 w_position_a1)), .second, .val (.int (5 : Int32))] [(.int (8 : Int32)), (.int (5 : Int32))])) _
    refine XS.icmpNo X17.here hx rfl (hb hby d14_32) rfl (tlt (by decide : (5 : Int32) < (8 : Int32))).2.1 ?_
    show Steps p.tables e below (T17.setTop (mkF m 35 #[.val (.ref a1), .val (.int (8 : Int32)), .val (.long (own_c5 vs_w_key_a1 w_position_a1)), .second, .val (.int (5 : Int32))] [])) _
    refine XS.lloadN X17.here hx rfl (hb hby d14_35) rfl ?_
    refine XS.bipush X17.here hx rfl (hb hby d14_36) ?_
    show Steps p.tables e below (T17.setTop (mkF m 38 #[.val (.ref a1), .val (.int (8 : Int32)), .val (.long (own_c5 vs_w_key_a1 w_position_a1)), .second, .val (.int (5 : Int32))] [(.int (8 : Int32)), (.long (own_c5 vs_w_key_a1 w_position_a1))])) _
    refine XS.lshl X17.here hx rfl (hb hby d14_38) rfl ?_
    show Steps p.tables e below (T17.setTop (mkF m 39 #[.val (.ref a1), .val (.int (8 : Int32)), .val (.long (own_c5 vs_w_key_a1 w_position_a1)), .second, .val (.int (5 : Int32))] [(.long ((own_c5 vs_w_key_a1 w_position_a1) <<< ((8 : Int32) &&& 0x3f).toInt64))])) _
    refine XS.aloadN X17.here hx rfl (hb hby d14_39) rfl rfl ?_
    show Steps p.tables e below (T17.setTop (mkF m 40 #[.val (.ref a1), .val (.int (8 : Int32)), .val (.long (own_c5 vs_w_key_a1 w_position_a1)), .second, .val (.int (5 : Int32))] [(.ref a1), (.long ((own_c5 vs_w_key_a1 w_position_a1) <<< ((8 : Int32) &&& 0x3f).toInt64))])) _
    refine st19 _ ?_
    show Steps p.tables e below (T19.setTop (mkF m 43 #[.val (.ref a1), .val (.int (8 : Int32)), .val (.long (own_c5 vs_w_key_a1 w_position_a1)), .second, .val (.int (5 : Int32))] [(.ref w_key_a1), (.long ((own_c5 vs_w_key_a1 w_position_a1) <<< ((8 : Int32) &&& 0x3f).toInt64))])) _
    refine XS.aloadN X19.here hx rfl (hb hby d14_43) rfl rfl ?_
    show Steps p.tables e below (T19.setTop (mkF m 44 #[.val (.ref a1), .val (.int (8 : Int32)), .val (.long (own_c5 vs_w_key_a1 w_position_a1)), .second, .val (.int (5 : Int32))] [(.ref a1), (.ref w_key_a1), (.long ((own_c5 vs_w_key_a1 w_position_a1) <<< ((8 : Int32) &&& 0x3f).toInt64))])) _
    refine st20 _ ?_
    show Steps p.tables e below (T20.setTop (mkF m 47 #[.val (.ref a1), .val (.int (8 : Int32)), .val (.long (own_c5 vs_w_key_a1 w_position_a1)), .second, .val (.int (5 : Int32))] [(.int w_position_a1), (.ref w_key_a1), (.long ((own_c5 vs_w_key_a1 w_position_a1) <<< ((8 : Int32) &&& 0x3f).toInt64))])) _
    refine XS.iload X20.here hx rfl (hb hby d14_47) rfl ?_
    show Steps p.tables e below (T20.setTop (mkF m 49 #[.val (.ref a1), .val (.int (8 : Int32)), .val (.long (own_c5 vs_w_key_a1 w_position_a1)), .second, .val (.int (5 : Int32))] [(.int (5 : Int32)), (.int w_position_a1), (.ref w_key_a1), (.long ((own_c5 vs_w_key_a1 w_position_a1) <<< ((8 : Int32) &&& 0x3f).toInt64))])) _
    refine XS.iadd X20.here hx rfl (hb hby d14_49) rfl ?_
    show Steps p.tables e below (T20.setTop (mkF m 50 #[.val (.ref a1), .val (.int (8 : Int32)), .val (.long (own_c5 vs_w_key_a1 w_position_a1)), .second, .val (.int (5 : Int32))] [(.int (w_position_a1 + (5 : Int32))), (.ref w_key_a1), (.long ((own_c5 vs_w_key_a1 w_position_a1) <<< ((8 : Int32) &&& 0x3f).toInt64))])) _
    refine X20.baloadBytes hx (j := (w_position_a1 + (5 : Int32))) (v := (.int (own_at vs_w_key_a1 ((w_position_a1 + (5 : Int32))).toNatClampNeg (.int (0 : Int32))))) (by rw [e20]; exact Aro21.1) (State.isArrayOf_alike hZ.alike Aro21.2.1) Aro21.2.2 hino21 (Ho21.at hino21 (own_at_eq (Go21 _ (Nat.lt_of_not_le fun y => hino21 (Or.inr y))) (by simp))) (g := (mkF m 50 #[.val (.ref a1), .val (.int (8 : Int32)), .val (.long (own_c5 vs_w_key_a1 w_position_a1)), .second, .val (.int (5 : Int32))] [(.int (w_position_a1 + (5 : Int32))), (.ref w_key_a1), (.long ((own_c5 vs_w_key_a1 w_position_a1) <<< ((8 : Int32) &&& 0x3f).toInt64))])) rfl rfl (hb hby d14_50) _ ?_
    show Steps p.tables e below (T20.setTop (mkF m 51 #[.val (.ref a1), .val (.int (8 : Int32)), .val (.long (own_c5 vs_w_key_a1 w_position_a1)), .second, .val (.int (5 : Int32))] [(.int (own_at vs_w_key_a1 ((w_position_a1 + (5 : Int32))).toNatClampNeg (.int (0 : Int32)))), (.long ((own_c5 vs_w_key_a1 w_position_a1) <<< ((8 : Int32) &&& 0x3f).toInt64))])) _
    refine XS.sipush X20.here hx rfl (hb hby d14_51) ?_
    show Steps p.tables e below (T20.setTop (mkF m 54 #[.val (.ref a1), .val (.int (8 : Int32)), .val (.long (own_c5 vs_w_key_a1 w_position_a1)), .second, .val (.int (5 : Int32))] [(.int (255 : Int32)), (.int (own_at vs_w_key_a1 ((w_position_a1 + (5 : Int32))).toNatClampNeg (.int (0 : Int32)))), (.long ((own_c5 vs_w_key_a1 w_position_a1) <<< ((8 : Int32) &&& 0x3f).toInt64))])) _
    refine XS.iand X20.here hx rfl (hb hby d14_54) rfl ?_
    show Steps p.tables e below (T20.setTop (mkF m 55 #[.val (.ref a1), .val (.int (8 : Int32)), .val (.long (own_c5 vs_w_key_a1 w_position_a1)), .second, .val (.int (5 : Int32))] [(.int ((own_at vs_w_key_a1 ((w_position_a1 + (5 : Int32))).toNatClampNeg (.int (0 : Int32))) &&& (255 : Int32))), (.long ((own_c5 vs_w_key_a1 w_position_a1) <<< ((8 : Int32) &&& 0x3f).toInt64))])) _
    refine XS.i2l X20.here hx rfl (hb hby d14_55) rfl ?_
    show Steps p.tables e below (T20.setTop (mkF m 56 #[.val (.ref a1), .val (.int (8 : Int32)), .val (.long (own_c5 vs_w_key_a1 w_position_a1)), .second, .val (.int (5 : Int32))] [(.long (((own_at vs_w_key_a1 ((w_position_a1 + (5 : Int32))).toNatClampNeg (.int (0 : Int32))) &&& (255 : Int32)).toInt64)), (.long ((own_c5 vs_w_key_a1 w_position_a1) <<< ((8 : Int32) &&& 0x3f).toInt64))])) _
    refine XS.lor X20.here hx rfl (hb hby d14_56) rfl ?_
    show Steps p.tables e below (T20.setTop (mkF m 57 #[.val (.ref a1), .val (.int (8 : Int32)), .val (.long (own_c5 vs_w_key_a1 w_position_a1)), .second, .val (.int (5 : Int32))] [(.long (((own_c5 vs_w_key_a1 w_position_a1) <<< ((8 : Int32) &&& 0x3f).toInt64) ||| (((own_at vs_w_key_a1 ((w_position_a1 + (5 : Int32))).toNatClampNeg (.int (0 : Int32))) &&& (255 : Int32)).toInt64)))])) _
    refine XS.lstoreN X20.here hx rfl (hb hby d14_57) rfl (l' := #[.val (.ref a1), .val (.int (8 : Int32)), .val (.long (own_c6 vs_w_key_a1 w_position_a1)), .second, .val (.int (5 : Int32))]) rfl ?_
    show Steps p.tables e below (T20.setTop (mkF m 58 #[.val (.ref a1), .val (.int (8 : Int32)), .val (.long (own_c6 vs_w_key_a1 w_position_a1)), .second, .val (.int (5 : Int32))] [])) _
    refine XS.iinc X20.here hx rfl (hb hby d14_58) rfl (l' := #[.val (.ref a1), .val (.int (8 : Int32)), .val (.long (own_c6 vs_w_key_a1 w_position_a1)), .second, .val (.int (6 : Int32))]) rfl ?_
    show Steps p.tables e below (T20.setTop (mkF m 61 #[.val (.ref a1), .val (.int (8 : Int32)), .val (.long (own_c6 vs_w_key_a1 w_position_a1)), .second, .val (.int (6 : Int32))] [])) _
    refine XS.goto X20.here hx rfl (pc0 := 61) (pc' := 29) rfl (hb hby d14_61) (by decide) (by decide) ?_
    show Steps p.tables e below (T20.setTop (mkF m 29 #[.val (.ref a1), .val (.int (8 : Int32)), .val (.long (own_c6 vs_w_key_a1 w_position_a1)), .second, .val (.int (6 : Int32))] [])) _
    refine XS.iload X20.here hx rfl (hb hby d14_29) rfl ?_
    refine XS.iloadN X20.here hx rfl (hb hby d14_31) rfl ?_
    show Steps p.tables e below (T20.setTop (mkF m 32 #[.val (.ref a1), .val (.int (8 : Int32)), .val (.long (own_c6 vs_w_key_a1 w_position_a1)), .second, .val (.int (6 : Int32))] [(.int (8 : Int32)), (.int (6 : Int32))])) _
    refine XS.icmpNo X20.here hx rfl (hb hby d14_32) rfl (tlt (by decide : (6 : Int32) < (8 : Int32))).2.1 ?_
    show Steps p.tables e below (T20.setTop (mkF m 35 #[.val (.ref a1), .val (.int (8 : Int32)), .val (.long (own_c6 vs_w_key_a1 w_position_a1)), .second, .val (.int (6 : Int32))] [])) _
    refine XS.lloadN X20.here hx rfl (hb hby d14_35) rfl ?_
    refine XS.bipush X20.here hx rfl (hb hby d14_36) ?_
    show Steps p.tables e below (T20.setTop (mkF m 38 #[.val (.ref a1), .val (.int (8 : Int32)), .val (.long (own_c6 vs_w_key_a1 w_position_a1)), .second, .val (.int (6 : Int32))] [(.int (8 : Int32)), (.long (own_c6 vs_w_key_a1 w_position_a1))])) _
    refine XS.lshl X20.here hx rfl (hb hby d14_38) rfl ?_
    show Steps p.tables e below (T20.setTop (mkF m 39 #[.val (.ref a1), .val (.int (8 : Int32)), .val (.long (own_c6 vs_w_key_a1 w_position_a1)), .second, .val (.int (6 : Int32))] [(.long ((own_c6 vs_w_key_a1 w_position_a1) <<< ((8 : Int32) &&& 0x3f).toInt64))])) _
    refine XS.aloadN X20.here hx rfl (hb hby d14_39) rfl rfl ?_
    show Steps p.tables e below (T20.setTop (mkF m 40 #[.val (.ref a1), .val (.int (8 : Int32)), .val (.long (own_c6 vs_w_key_a1 w_position_a1)), .second, .val (.int (6 : Int32))] [(.ref a1), (.long ((own_c6 vs_w_key_a1 w_position_a1) <<< ((8 : Int32) &&& 0x3f).toInt64))])) _
    refine st22 _ ?_
    show Steps p.tables e below (T22.setTop (mkF m 43 #[.val (.ref a1), .val (.int (8 : Int32)), .val (.long (own_c6 vs_w_key_a1 w_position_a1)), .second, .val (.int (6 : Int32))] [(.ref w_key_a1), (.long ((own_c6 vs_w_key_a1 w_position_a1) <<< ((8 : Int32) &&& 0x3f).toInt64))])) _
    refine XS.aloadN X22.here hx rfl (hb hby d14_43) rfl rfl ?_
    show Steps p.tables e below (T22.setTop (mkF m 44 #[.val (.ref a1), .val (.int (8 : Int32)), .val (.long (own_c6 vs_w_key_a1 w_position_a1)), .second, .val (.int (6 : Int32))] [(.ref a1), (.ref w_key_a1), (.long ((own_c6 vs_w_key_a1 w_position_a1) <<< ((8 : Int32) &&& 0x3f).toInt64))])) _
    refine st23 _ ?_
    show Steps p.tables e below (T23.setTop (mkF m 47 #[.val (.ref a1), .val (.int (8 : Int32)), .val (.long (own_c6 vs_w_key_a1 w_position_a1)), .second, .val (.int (6 : Int32))] [(.int w_position_a1), (.ref w_key_a1), (.long ((own_c6 vs_w_key_a1 w_position_a1) <<< ((8 : Int32) &&& 0x3f).toInt64))])) _
    refine XS.iload X23.here hx rfl (hb hby d14_47) rfl ?_
    show Steps p.tables e below (T23.setTop (mkF m 49 #[.val (.ref a1), .val (.int (8 : Int32)), .val (.long (own_c6 vs_w_key_a1 w_position_a1)), .second, .val (.int (6 : Int32))] [(.int (6 : Int32)), (.int w_position_a1), (.ref w_key_a1), (.long ((own_c6 vs_w_key_a1 w_position_a1) <<< ((8 : Int32) &&& 0x3f).toInt64))])) _
    refine XS.iadd X23.here hx rfl (hb hby d14_49) rfl ?_
    show Steps p.tables e below (T23.setTop (mkF m 50 #[.val (.ref a1), .val (.int (8 : Int32)), .val (.long (own_c6 vs_w_key_a1 w_position_a1)), .second, .val (.int (6 : Int32))] [(.int (w_position_a1 + (6 : Int32))), (.ref w_key_a1), (.long ((own_c6 vs_w_key_a1 w_position_a1) <<< ((8 : Int32) &&& 0x3f).toInt64))])) _
    refine X23.baloadBytes hx (j := (w_position_a1 + (6 : Int32))) (v := (.int (own_at vs_w_key_a1 ((w_position_a1 + (6 : Int32))).toNatClampNeg (.int (0 : Int32))))) (by rw [e23]; exact Aro24.1) (State.isArrayOf_alike hZ.alike Aro24.2.1) Aro24.2.2 hino24 (Ho24.at hino24 (own_at_eq (Go24 _ (Nat.lt_of_not_le fun y => hino24 (Or.inr y))) (by simp))) (g := (mkF m 50 #[.val (.ref a1), .val (.int (8 : Int32)), .val (.long (own_c6 vs_w_key_a1 w_position_a1)), .second, .val (.int (6 : Int32))] [(.int (w_position_a1 + (6 : Int32))), (.ref w_key_a1), (.long ((own_c6 vs_w_key_a1 w_position_a1) <<< ((8 : Int32) &&& 0x3f).toInt64))])) rfl rfl (hb hby d14_50) _ ?_
    show Steps p.tables e below (T23.setTop (mkF m 51 #[.val (.ref a1), .val (.int (8 : Int32)), .val (.long (own_c6 vs_w_key_a1 w_position_a1)), .second, .val (.int (6 : Int32))] [(.int (own_at vs_w_key_a1 ((w_position_a1 + (6 : Int32))).toNatClampNeg (.int (0 : Int32)))), (.long ((own_c6 vs_w_key_a1 w_position_a1) <<< ((8 : Int32) &&& 0x3f).toInt64))])) _
    refine XS.sipush X23.here hx rfl (hb hby d14_51) ?_
    show Steps p.tables e below (T23.setTop (mkF m 54 #[.val (.ref a1), .val (.int (8 : Int32)), .val (.long (own_c6 vs_w_key_a1 w_position_a1)), .second, .val (.int (6 : Int32))] [(.int (255 : Int32)), (.int (own_at vs_w_key_a1 ((w_position_a1 + (6 : Int32))).toNatClampNeg (.int (0 : Int32)))), (.long ((own_c6 vs_w_key_a1 w_position_a1) <<< ((8 : Int32) &&& 0x3f).toInt64))])) _
    refine XS.iand X23.here hx rfl (hb hby d14_54) rfl ?_
    show Steps p.tables e below (T23.setTop (mkF m 55 #[.val (.ref a1), .val (.int (8 : Int32)), .val (.long (own_c6 vs_w_key_a1 w_position_a1)), .second, .val (.int (6 : Int32))] [(.int ((own_at vs_w_key_a1 ((w_position_a1 + (6 : Int32))).toNatClampNeg (.int (0 : Int32))) &&& (255 : Int32))), (.long ((own_c6 vs_w_key_a1 w_position_a1) <<< ((8 : Int32) &&& 0x3f).toInt64))])) _
    refine XS.i2l X23.here hx rfl (hb hby d14_55) rfl ?_
    show Steps p.tables e below (T23.setTop (mkF m 56 #[.val (.ref a1), .val (.int (8 : Int32)), .val (.long (own_c6 vs_w_key_a1 w_position_a1)), .second, .val (.int (6 : Int32))] [(.long (((own_at vs_w_key_a1 ((w_position_a1 + (6 : Int32))).toNatClampNeg (.int (0 : Int32))) &&& (255 : Int32)).toInt64)), (.long ((own_c6 vs_w_key_a1 w_position_a1) <<< ((8 : Int32) &&& 0x3f).toInt64))])) _
    refine XS.lor X23.here hx rfl (hb hby d14_56) rfl ?_
    show Steps p.tables e below (T23.setTop (mkF m 57 #[.val (.ref a1), .val (.int (8 : Int32)), .val (.long (own_c6 vs_w_key_a1 w_position_a1)), .second, .val (.int (6 : Int32))] [(.long (((own_c6 vs_w_key_a1 w_position_a1) <<< ((8 : Int32) &&& 0x3f).toInt64) ||| (((own_at vs_w_key_a1 ((w_position_a1 + (6 : Int32))).toNatClampNeg (.int (0 : Int32))) &&& (255 : Int32)).toInt64)))])) _
    refine XS.lstoreN X23.here hx rfl (hb hby d14_57) rfl (l' := #[.val (.ref a1), .val (.int (8 : Int32)), .val (.long (own_c7 vs_w_key_a1 w_position_a1)), .second, .val (.int (6 : Int32))]) rfl ?_
    show Steps p.tables e below (T23.setTop (mkF m 58 #[.val (.ref a1), .val (.int (8 : Int32)), .val (.long (own_c7 vs_w_key_a1 w_position_a1)), .second, .val (.int (6 : Int32))] [])) _
    refine XS.iinc X23.here hx rfl (hb hby d14_58) rfl (l' := #[.val (.ref a1), .val (.int (8 : Int32)), .val (.long (own_c7 vs_w_key_a1 w_position_a1)), .second, .val (.int (7 : Int32))]) rfl ?_
    show Steps p.tables e below (T23.setTop (mkF m 61 #[.val (.ref a1), .val (.int (8 : Int32)), .val (.long (own_c7 vs_w_key_a1 w_position_a1)), .second, .val (.int (7 : Int32))] [])) _
    refine XS.goto X23.here hx rfl (pc0 := 61) (pc' := 29) rfl (hb hby d14_61) (by decide) (by decide) ?_
    show Steps p.tables e below (T23.setTop (mkF m 29 #[.val (.ref a1), .val (.int (8 : Int32)), .val (.long (own_c7 vs_w_key_a1 w_position_a1)), .second, .val (.int (7 : Int32))] [])) _
    refine XS.iload X23.here hx rfl (hb hby d14_29) rfl ?_
    refine XS.iloadN X23.here hx rfl (hb hby d14_31) rfl ?_
    show Steps p.tables e below (T23.setTop (mkF m 32 #[.val (.ref a1), .val (.int (8 : Int32)), .val (.long (own_c7 vs_w_key_a1 w_position_a1)), .second, .val (.int (7 : Int32))] [(.int (8 : Int32)), (.int (7 : Int32))])) _
    refine XS.icmpNo X23.here hx rfl (hb hby d14_32) rfl (tlt (by decide : (7 : Int32) < (8 : Int32))).2.1 ?_
    show Steps p.tables e below (T23.setTop (mkF m 35 #[.val (.ref a1), .val (.int (8 : Int32)), .val (.long (own_c7 vs_w_key_a1 w_position_a1)), .second, .val (.int (7 : Int32))] [])) _
    refine XS.lloadN X23.here hx rfl (hb hby d14_35) rfl ?_
    refine XS.bipush X23.here hx rfl (hb hby d14_36) ?_
    show Steps p.tables e below (T23.setTop (mkF m 38 #[.val (.ref a1), .val (.int (8 : Int32)), .val (.long (own_c7 vs_w_key_a1 w_position_a1)), .second, .val (.int (7 : Int32))] [(.int (8 : Int32)), (.long (own_c7 vs_w_key_a1 w_position_a1))])) _
    refine XS.lshl X23.here hx rfl (hb hby d14_38) rfl ?_
    show Steps p.tables e below (T23.setTop (mkF m 39 #[.val (.ref a1), .val (.int (8 : Int32)), .val (.long (own_c7 vs_w_key_a1 w_position_a1)), .second, .val (.int (7 : Int32))] [(.long ((own_c7 vs_w_key_a1 w_position_a1) <<< ((8 : Int32) &&& 0x3f).toInt64))])) _
    refine XS.aloadN X23.here hx rfl (hb hby d14_39) rfl rfl ?_
    show Steps p.tables e below (T23.setTop (mkF m 40 #[.val (.ref a1), .val (.int (8 : Int32)), .val (.long (own_c7 vs_w_key_a1 w_position_a1)), .second, .val (.int (7 : Int32))] [(.ref a1), (.long ((own_c7 vs_w_key_a1 w_position_a1) <<< ((8 : Int32) &&& 0x3f).toInt64))])) _
    refine st25 _ ?_
    show Steps p.tables e below (T25.setTop (mkF m 43 #[.val (.ref a1), .val (.int (8 : Int32)), .val (.long (own_c7 vs_w_key_a1 w_position_a1)), .second, .val (.int (7 : Int32))] [(.ref w_key_a1), (.long ((own_c7 vs_w_key_a1 w_position_a1) <<< ((8 : Int32) &&& 0x3f).toInt64))])) _
    refine XS.aloadN X25.here hx rfl (hb hby d14_43) rfl rfl ?_
    show Steps p.tables e below (T25.setTop (mkF m 44 #[.val (.ref a1), .val (.int (8 : Int32)), .val (.long (own_c7 vs_w_key_a1 w_position_a1)), .second, .val (.int (7 : Int32))] [(.ref a1), (.ref w_key_a1), (.long ((own_c7 vs_w_key_a1 w_position_a1) <<< ((8 : Int32) &&& 0x3f).toInt64))])) _
    refine st26 _ ?_
    show Steps p.tables e below (T26.setTop (mkF m 47 #[.val (.ref a1), .val (.int (8 : Int32)), .val (.long (own_c7 vs_w_key_a1 w_position_a1)), .second, .val (.int (7 : Int32))] [(.int w_position_a1), (.ref w_key_a1), (.long ((own_c7 vs_w_key_a1 w_position_a1) <<< ((8 : Int32) &&& 0x3f).toInt64))])) _
    refine XS.iload X26.here hx rfl (hb hby d14_47) rfl ?_
    show Steps p.tables e below (T26.setTop (mkF m 49 #[.val (.ref a1), .val (.int (8 : Int32)), .val (.long (own_c7 vs_w_key_a1 w_position_a1)), .second, .val (.int (7 : Int32))] [(.int (7 : Int32)), (.int w_position_a1), (.ref w_key_a1), (.long ((own_c7 vs_w_key_a1 w_position_a1) <<< ((8 : Int32) &&& 0x3f).toInt64))])) _
    refine XS.iadd X26.here hx rfl (hb hby d14_49) rfl ?_
    show Steps p.tables e below (T26.setTop (mkF m 50 #[.val (.ref a1), .val (.int (8 : Int32)), .val (.long (own_c7 vs_w_key_a1 w_position_a1)), .second, .val (.int (7 : Int32))] [(.int (w_position_a1 + (7 : Int32))), (.ref w_key_a1), (.long ((own_c7 vs_w_key_a1 w_position_a1) <<< ((8 : Int32) &&& 0x3f).toInt64))])) _
    refine X26.baloadBytes hx (j := (w_position_a1 + (7 : Int32))) (v := (.int (own_at vs_w_key_a1 ((w_position_a1 + (7 : Int32))).toNatClampNeg (.int (0 : Int32))))) (by rw [e26]; exact Aro27.1) (State.isArrayOf_alike hZ.alike Aro27.2.1) Aro27.2.2 hino27 (Ho27.at hino27 (own_at_eq (Go27 _ (Nat.lt_of_not_le fun y => hino27 (Or.inr y))) (by simp))) (g := (mkF m 50 #[.val (.ref a1), .val (.int (8 : Int32)), .val (.long (own_c7 vs_w_key_a1 w_position_a1)), .second, .val (.int (7 : Int32))] [(.int (w_position_a1 + (7 : Int32))), (.ref w_key_a1), (.long ((own_c7 vs_w_key_a1 w_position_a1) <<< ((8 : Int32) &&& 0x3f).toInt64))])) rfl rfl (hb hby d14_50) _ ?_
    show Steps p.tables e below (T26.setTop (mkF m 51 #[.val (.ref a1), .val (.int (8 : Int32)), .val (.long (own_c7 vs_w_key_a1 w_position_a1)), .second, .val (.int (7 : Int32))] [(.int (own_at vs_w_key_a1 ((w_position_a1 + (7 : Int32))).toNatClampNeg (.int (0 : Int32)))), (.long ((own_c7 vs_w_key_a1 w_position_a1) <<< ((8 : Int32) &&& 0x3f).toInt64))])) _
    refine XS.sipush X26.here hx rfl (hb hby d14_51) ?_
    show Steps p.tables e below (T26.setTop (mkF m 54 #[.val (.ref a1), .val (.int (8 : Int32)), .val (.long (own_c7 vs_w_key_a1 w_position_a1)), .second, .val (.int (7 : Int32))] [(.int (255 : Int32)), (.int (own_at vs_w_key_a1 ((w_position_a1 + (7 : Int32))).toNatClampNeg (.int (0 : Int32)))), (.long ((own_c7 vs_w_key_a1 w_position_a1) <<< ((8 : Int32) &&& 0x3f).toInt64))])) _
    refine XS.iand X26.here hx rfl (hb hby d14_54) rfl ?_
    show Steps p.tables e below (T26.setTop (mkF m 55 #[.val (.ref a1), .val (.int (8 : Int32)), .val (.long (own_c7 vs_w_key_a1 w_position_a1)), .second, .val (.int (7 : Int32))] [(.int ((own_at vs_w_key_a1 ((w_position_a1 + (7 : Int32))).toNatClampNeg (.int (0 : Int32))) &&& (255 : Int32))), (.long ((own_c7 vs_w_key_a1 w_position_a1) <<< ((8 : Int32) &&& 0x3f).toInt64))])) _
    refine XS.i2l X26.here hx rfl (hb hby d14_55) rfl ?_
    show Steps p.tables e below (T26.setTop (mkF m 56 #[.val (.ref a1), .val (.int (8 : Int32)), .val (.long (own_c7 vs_w_key_a1 w_position_a1)), .second, .val (.int (7 : Int32))] [(.long (((own_at vs_w_key_a1 ((w_position_a1 + (7 : Int32))).toNatClampNeg (.int (0 : Int32))) &&& (255 : Int32)).toInt64)), (.long ((own_c7 vs_w_key_a1 w_position_a1) <<< ((8 : Int32) &&& 0x3f).toInt64))])) _
    refine XS.lor X26.here hx rfl (hb hby d14_56) rfl ?_
    show Steps p.tables e below (T26.setTop (mkF m 57 #[.val (.ref a1), .val (.int (8 : Int32)), .val (.long (own_c7 vs_w_key_a1 w_position_a1)), .second, .val (.int (7 : Int32))] [(.long (((own_c7 vs_w_key_a1 w_position_a1) <<< ((8 : Int32) &&& 0x3f).toInt64) ||| (((own_at vs_w_key_a1 ((w_position_a1 + (7 : Int32))).toNatClampNeg (.int (0 : Int32))) &&& (255 : Int32)).toInt64)))])) _
    refine XS.lstoreN X26.here hx rfl (hb hby d14_57) rfl (l' := #[.val (.ref a1), .val (.int (8 : Int32)), .val (.long (own_c8 vs_w_key_a1 w_position_a1)), .second, .val (.int (7 : Int32))]) rfl ?_
    show Steps p.tables e below (T26.setTop (mkF m 58 #[.val (.ref a1), .val (.int (8 : Int32)), .val (.long (own_c8 vs_w_key_a1 w_position_a1)), .second, .val (.int (7 : Int32))] [])) _
    refine XS.iinc X26.here hx rfl (hb hby d14_58) rfl (l' := #[.val (.ref a1), .val (.int (8 : Int32)), .val (.long (own_c8 vs_w_key_a1 w_position_a1)), .second, .val (.int (8 : Int32))]) rfl ?_
    show Steps p.tables e below (T26.setTop (mkF m 61 #[.val (.ref a1), .val (.int (8 : Int32)), .val (.long (own_c8 vs_w_key_a1 w_position_a1)), .second, .val (.int (8 : Int32))] [])) _
    refine XS.goto X26.here hx rfl (pc0 := 61) (pc' := 29) rfl (hb hby d14_61) (by decide) (by decide) ?_
    show Steps p.tables e below (T26.setTop (mkF m 29 #[.val (.ref a1), .val (.int (8 : Int32)), .val (.long (own_c8 vs_w_key_a1 w_position_a1)), .second, .val (.int (8 : Int32))] [])) _
    refine XS.iload X26.here hx rfl (hb hby d14_29) rfl ?_
    refine XS.iloadN X26.here hx rfl (hb hby d14_31) rfl ?_
    show Steps p.tables e below (T26.setTop (mkF m 32 #[.val (.ref a1), .val (.int (8 : Int32)), .val (.long (own_c8 vs_w_key_a1 w_position_a1)), .second, .val (.int (8 : Int32))] [(.int (8 : Int32)), (.int (8 : Int32))])) _
    refine XS.icmpYes X26.here hx rfl (pc0 := 32) (pc' := 64) rfl (hb hby d14_32) rfl (flt (by decide : ¬ ((8 : Int32) < (8 : Int32)))).2.1 (by decide) (by decide) ?_
    show Steps p.tables e below (T26.setTop (mkF m 64 #[.val (.ref a1), .val (.int (8 : Int32)), .val (.long (own_c8 vs_w_key_a1 w_position_a1)), .second, .val (.int (8 : Int32))] [])) _
    refine XS.aloadN X26.here hx rfl (hb hby d14_64) rfl rfl ?_
    show Steps p.tables e below (T26.setTop (mkF m 65 #[.val (.ref a1), .val (.int (8 : Int32)), .val (.long (own_c8 vs_w_key_a1 w_position_a1)), .second, .val (.int (8 : Int32))] [(.ref a1)])) _
    refine XS.dup X26.here hx rfl (hb hby d14_65) rfl rfl ?_
    show Steps p.tables e below (T26.setTop (mkF m 66 #[.val (.ref a1), .val (.int (8 : Int32)), .val (.long (own_c8 vs_w_key_a1 w_position_a1)), .second, .val (.int (8 : Int32))] [(.ref a1), (.ref a1)])) _
    refine st28 _ ?_
    show Steps p.tables e below (T28.setTop (mkF m 69 #[.val (.ref a1), .val (.int (8 : Int32)), .val (.long (own_c8 vs_w_key_a1 w_position_a1)), .second, .val (.int (8 : Int32))] [(.int w_position_a1), (.ref a1)])) _
    refine XS.iloadN X28.here hx rfl (hb hby d14_69) rfl ?_
    show Steps p.tables e below (T28.setTop (mkF m 70 #[.val (.ref a1), .val (.int (8 : Int32)), .val (.long (own_c8 vs_w_key_a1 w_position_a1)), .second, .val (.int (8 : Int32))] [(.int (8 : Int32)), (.int w_position_a1), (.ref a1)])) _
    refine XS.iadd X28.here hx rfl (hb hby d14_70) rfl ?_
    show Steps p.tables e below (T28.setTop (mkF m 71 #[.val (.ref a1), .val (.int (8 : Int32)), .val (.long (own_c8 vs_w_key_a1 w_position_a1)), .second, .val (.int (8 : Int32))] [(.int (w_position_a1 + (8 : Int32))), (.ref a1)])) _
    refine st29 _ ?_
    show Steps p.tables e below (T29.setTop (mkF m 74 #[.val (.ref a1), .val (.int (8 : Int32)), .val (.long (own_c8 vs_w_key_a1 w_position_a1)), .second, .val (.int (8 : Int32))] [])) _
    refine XS.lloadN X29.here hx rfl (hb hby d14_74) rfl ?_
    show Steps p.tables e below (T29.setTop (mkF m 75 #[.val (.ref a1), .val (.int (8 : Int32)), .val (.long (own_c8 vs_w_key_a1 w_position_a1)), .second, .val (.int (8 : Int32))] [(.long (own_c8 vs_w_key_a1 w_position_a1))])) _
    exact retOut X29 hx (t := .long) (i := .lreturn) Bd.returns rfl (Or.inr (Or.inl ⟨rfl, rfl, _, rfl⟩)) (hb hby d14_75) hr
  · show Q_rsf8 Z a1 w_key_a1 k_w_key_a1 n_w_key_a1 vs_w_key_a1 w_position_a1 h0 n0 _ T29.heap _
    rw [e29]
    exact ⟨rfl, N35, K34, f30, f32, f33⟩
theorem pd_1 : parseMethodDescriptor "(I)J" = some ⟨[.int], some .long⟩ := by decide +kernel
theorem d15_0 : decode prog_48_method_4_code 0 = .ok (.aload_n 0, 1) := by decide +kernel
theorem d15_1 : decode prog_48_method_4_code 1 = .ok (.iconst 4, 1) := by decide +kernel
theorem d15_2 : decode prog_48_method_4_code 2 = .ok (.invokevirtual 61, 3) := by decide +kernel
theorem d15_5 : decode prog_48_method_4_code 5 = .ok (.l2i, 1) := by decide +kernel
theorem d15_6 : decode prog_48_method_4_code 6 = .ok (.ldc 65, 2) := by decide +kernel
theorem d15_8 : decode prog_48_method_4_code 8 = .ok (.ixor, 1) := by decide +kernel
theorem d15_9 : decode prog_48_method_4_code 9 = .ok (.ireturn, 1) := by decide +kernel
theorem ef_15_R (m : MethodId) (x0 : Addr) : entryFrame m #[(.ref x0)] 1 = mkF m 0 #[.val (.ref x0)] [] := by first | (simp [entryFrame, mkF, argsToLocals, Value.category]; done) | rfl
def Q_rint (Z : State) (a1 : Addr) (w_key_a1 : Addr) (k_w_key_a1 : ClassId) (n_w_key_a1 : Int32) (vs_w_key_a1 : List Value) (w_position_a1 : Int32) (h0 : Heap) (n0 : Nat) (v : Option Value) (h : Heap) (L : List Loc) : Prop := v = some (.int (((own_c4 vs_w_key_a1 w_position_a1).toInt32) ^^^ (-2147483648 : Int32))) ∧ Fr n0 L ∧ Keep h0 h [a1] ∧ Fld Z h a1 "com/example/fieldstone/fieldstone/core/KeyReader" "key" "[B" (.ref w_key_a1) ∧ Fld Z h a1 "com/example/fieldstone/fieldstone/core/KeyReader" "position" "I" (.int (w_position_a1 + (4 : Int32))) ∧ Exa Z h a1 "com/example/fieldstone/fieldstone/core/KeyReader"
set_option maxRecDepth 65536 in
set_option maxHeartbeats 40000000 in
theorem rm_rint (l : Launch) (Z : State) (a0 : Array Value) (hw : ∀ d ∈ tables_1, d.before a0 Z = true) (ws : List Jvm.Cond) (a1 : Addr) (w_key_a1 : Addr) (k_w_key_a1 : ClassId) (n_w_key_a1 : Int32) (vs_w_key_a1 : List Value) (w_position_a1 : Int32) (h0 : Heap) (n0 : Nat) (Z0 : n0 ≤ h0.size) (F_key_a1 : Fld Z h0 a1 "com/example/fieldstone/fieldstone/core/KeyReader" "key" "[B" (.ref w_key_a1)) (V_w_key_a1 : Arv Z h0 w_key_a1 k_w_key_a1 .byte n_w_key_a1 vs_w_key_a1 (.int (0 : Int32))) (F_position_a1 : Fld Z h0 a1 "com/example/fieldstone/fieldstone/core/KeyReader" "position" "I" (.int w_position_a1)) (E_a1 : Exa Z h0 a1 "com/example/fieldstone/fieldstone/core/KeyReader") (g_a1 : n0 ≤ a1) (ne_w_key_a1_a1 : w_key_a1 ≠ a1) (hp0 : ¬ ((n_w_key_a1 - w_position_a1) < (4 : Int32))) (hp1 : ¬ ((w_position_a1 + (0 : Int32)) < (0 : Int32))) (hp2 : (w_position_a1 + (0 : Int32)) < n_w_key_a1) (hp3 : ¬ ((w_position_a1 + (1 : Int32)) < (0 : Int32))) (hp4 : (w_position_a1 + (1 : Int32)) < n_w_key_a1) (hp5 : ¬ ((w_position_a1 + (2 : Int32)) < (0 : Int32))) (hp6 : (w_position_a1 + (2 : Int32)) < n_w_key_a1) (hp7 : ¬ ((w_position_a1 + (3 : Int32)) < (0 : Int32))) (hp8 : (w_position_a1 + (3 : Int32)) < n_w_key_a1) :
    MetFree l (⟨"com/example/fieldstone/fieldstone/core/KeyReader", "readInt", "()I"⟩ : MethodName) (head1 (Jvm.Cond.code (⟨"com/example/fieldstone/fieldstone/core/KeyReader", "readInt", "()I"⟩ : MethodName) prog_48_method_4_code 1 (some .int) :: ws) ({ frames := 1, cells := 0, slots := 0, locals := 16 } : Room)) (fun a U => a = #[(.ref a1)] ∧ Z.Warmed39 U.vm ∧ U.heap = h0) (fun _ _ _ _ _ => True) (fun _ U o U' => ∃ v L, o = .returned v ∧ Q_rint Z a1 w_key_a1 k_w_key_a1 n_w_key_a1 vs_w_key_a1 w_position_a1 h0 n0 v U'.heap L ∧ FrameEnd U o U' L ({ frames := 1, cells := 0, slots := 0, locals := 16 } : Room).cells ({ frames := 1, cells := 0, slots := 0, locals := 16 } : Room).slots) := by
  refine MetFree.of_bodySF (plainFor_of_name pn_com_example_fieldstone_fieldstone_core_KeyReader) hisR ?_
  intro p e s m args below meth c s₁ Bd hml0 hP hK
  obtain ⟨rfl, hZ, hh⟩ := hP
  have hx := Bd.exec
  have hby := Bd.bytes
  have hml : c.maxLocals = 1 := hml0
  have hown : s.vm.findClass "com/example/fieldstone/fieldstone/core/KeyReader" = some m.cls := findClass_of_methodNamed Bd.named
  have hnm := (name_of_methodNamed Bd.named Bd.method).1
  have X0 : Stand p l e ({ frames := 1, cells := 0, slots := 0, locals := 16 } : Room) s m #[(.ref a1)] below meth c s₁ [] 0 0 := Stand.of_body Bd
  have e0 : s₁.heap = h0 := by rw [← hh, Bd.state]; rfl
  have N0 := Fr.nil n0
  have pre0 : ∀ t, Steps p.tables e below (s₁.setTop (mkF m 0 #[.val (.ref a1)] [])) t → Steps p.tables e below (s₁.setTop (entryFrame m #[(.ref a1)] 1)) t := fun t k => castTop (ef_15_R m a1) k
  obtain ⟨cq1, q1, q1'⟩ := E_a1.cell
  obtain ⟨_, _, ⟨T1, L1, k1, n1⟩, -, X1, ⟨Lc1, hQ1, l1, y1, z1⟩, st1⟩ := X0.privateBack hx (y := (⟨"com/example/fieldstone/fieldstone/core/KeyReader", "readSignFlipped", "(I)J"⟩ : MethodName)) hown (mvT hZ (hw _ (List.mem_of_getElem? (i := 79) rfl))) (mvT hZ (hw _ (List.mem_of_getElem? (i := 80) rfl))) (own_sel hZ (hw _ (List.mem_of_getElem? (i := 81) rfl)) (hw _ (List.mem_of_getElem? (i := 80) rfl)) (hw _ (List.mem_of_getElem? (i := 3) rfl)) (by decide)) (Cond.privateMethod_at (mvP hZ (hw _ (List.mem_of_getElem? (i := 81) rfl)) (args := #[]))) (mvT hZ (hw _ (List.mem_of_getElem? (i := 82) rfl))) (by decide) (backOf (W := 0) (rm_rsf4 l Z a0 hw [] a1 w_key_a1 k_w_key_a1 n_w_key_a1 vs_w_key_a1 w_position_a1 h0 n0 Z0 F_key_a1 V_w_key_a1 F_position_a1 E_a1 g_a1 ne_w_key_a1_a1 hp0 hp1 hp2 hp3 hp4 hp5 hp6 hp7 hp8) hZ (hw _ (List.mem_of_getElem? (i := 82) rfl)) (hw _ (List.mem_of_getElem? (i := 4) rfl)) (by decide) (by decide)) (g := (mkF m 2 #[.val (.ref a1)] [(.int (4 : Int32)), (.ref a1)])) rfl (by rw [hml]; rfl) (Steps.refl _) (a := a1) (by rw [e0]; exact q1) q1' (argsL := [(.int (4 : Int32))]) (rest := []) (lenOf pd_1 rfl) rfl (by show 2 * 0 + _ ≤ _; exact Nat.le_of_eq rfl) (hb hby d15_2) (fun _ _ => ⟨rfl, e0, (by decide : 0 + 0 ≤ _), (by decide : 0 + 0 ≤ _)⟩)
  dsimp only [Pt.U, Pt.locs, Pt.cells, Pt.slots] at X1 l1 y1 z1 st1 hQ1
  subst l1 y1 z1
  obtain ⟨rfl, Nq1, Kc1, fq1_0, fq1_1, fq1_2⟩ := hQ1
  have f3 : Arv Z T1.heap w_key_a1 k_w_key_a1 .byte n_w_key_a1 vs_w_key_a1 (.int (0 : Int32)) := V_w_key_a1.keep Kc1 (ninS ne_w_key_a1_a1 nin0)
  have f4 : Fld Z T1.heap a1 "com/example/fieldstone/fieldstone/core/KeyReader" "key" "[B" (.ref w_key_a1) := fq1_0
  have f5 : Fld Z T1.heap a1 "com/example/fieldstone/fieldstone/core/KeyReader" "position" "I" (.int (w_position_a1 + (4 : Int32))) := fq1_1
  have K6 : Keep h0 T1.heap [a1] := (Keep.refl h0 [a1]).trans Kc1 (allS (Or.inl (List.mem_of_getElem? (i := 0) rfl)) all0)
  have Zs7 : n0 ≤ T1.heap.size := Nat.le_trans Z0 Kc1.1
  have N2 := Fr.app N0 Nq1
  obtain ⟨fs, hr, hrun, hended, hW, hsame⟩ := X1.leave (v := some (.int (((own_c4 vs_w_key_a1 w_position_a1).toInt32) ^^^ (-2147483648 : Int32)))) (fun h => by rw [Bd.returns] at h; cases h) Bd.notSynchronized
  refine ⟨_, _, pre0 _ ?_, hrun, hended, _, _, rfl, ?_, ⟨_, rfl⟩, hW, hsame.mono (by decide) (by decide)⟩
  · show Steps p.tables e below (s₁.setTop (mkF m 0 #[.val (.ref a1)] [])) _
    refine XS.aloadN X0.here hx rfl (hb hby d15_0) rfl rfl ?_
    refine XS.iconst X0.here hx rfl (hb hby d15_1) ?_
    show Steps p.tables e below (s₁.setTop (mkF m 2 #[.val (.ref a1)] [(.int (4 : Int32)), (.ref a1)])) _
    refine st1.trans ?_
    show Steps p.tables e below (T1.setTop (mkF m 5 #[.val (.ref a1)] [(.long (own_c4 vs_w_key_a1 w_position_a1))])) _
    refine XS.l2i X1.here hx rfl (hb hby d15_5) rfl ?_
    show Steps p.tables e below (T1.setTop (mkF m 6 #[.val (.ref a1)] [(.int ((own_c4 vs_w_key_a1 w_position_a1).toInt32))])) _
    refine X1.ldcInt hx hown (mvT hZ (hw _ (List.mem_of_getElem? (i := 89) rfl))) (g := (mkF m 6 #[.val (.ref a1)] [(.int ((own_c4 vs_w_key_a1 w_position_a1).toInt32))])) rfl (hb hby d15_6) _ ?_
    show Steps p.tables e below (T1.setTop (mkF m 8 #[.val (.ref a1)] [(.int (-2147483648 : Int32)), (.int ((own_c4 vs_w_key_a1 w_position_a1).toInt32))])) _
    refine XS.ixor X1.here hx rfl (hb hby d15_8) rfl ?_
    show Steps p.tables e below (T1.setTop (mkF m 9 #[.val (.ref a1)] [(.int (((own_c4 vs_w_key_a1 w_position_a1).toInt32) ^^^ (-2147483648 : Int32)))])) _
    exact retI X1 hx Bd.returns (hb hby d15_9) hr
  · show Q_rint Z a1 w_key_a1 k_w_key_a1 n_w_key_a1 vs_w_key_a1 w_position_a1 h0 n0 _ T1.heap _
    exact ⟨rfl, N2, K6, f4, f5, fq1_2⟩
theorem d13_0 : decode prog_48_method_5_code 0 = .ok (.aload_n 0, 1) := by decide +kernel
theorem d13_1 : decode prog_48_method_5_code 1 = .ok (.bipush 8, 2) := by decide +kernel
theorem d13_3 : decode prog_48_method_5_code 3 = .ok (.invokevirtual 61, 3) := by decide +kernel
theorem d13_6 : decode prog_48_method_5_code 6 = .ok (.ldc2_w 68, 3) := by decide +kernel
theorem d13_9 : decode prog_48_method_5_code 9 = .ok (.lxor, 1) := by decide +kernel
theorem d13_10 : decode prog_48_method_5_code 10 = .ok (.lreturn, 1) := by decide +kernel
theorem ef_13_R (m : MethodId) (x0 : Addr) : entryFrame m #[(.ref x0)] 1 = mkF m 0 #[.val (.ref x0)] [] := by first | (simp [entryFrame, mkF, argsToLocals, Value.category]; done) | rfl
def Q_rlong (Z : State) (a1 : Addr) (w_key_a1 : Addr) (k_w_key_a1 : ClassId) (n_w_key_a1 : Int32) (vs_w_key_a1 : List Value) (w_position_a1 : Int32) (h0 : Heap) (n0 : Nat) (v : Option Value) (h : Heap) (L : List Loc) : Prop := v = some (.long ((own_c8 vs_w_key_a1 w_position_a1) ^^^ (-9223372036854775808 : Int64))) ∧ Fr n0 L ∧ Keep h0 h [a1] ∧ Fld Z h a1 "com/example/fieldstone/fieldstone/core/KeyReader" "key" "[B" (.ref w_key_a1) ∧ Fld Z h a1 "com/example/fieldstone/fieldstone/core/KeyReader" "position" "I" (.int (w_position_a1 + (8 : Int32))) ∧ Exa Z h a1 "com/example/fieldstone/fieldstone/core/KeyReader"
set_option maxRecDepth 65536 in
set_option maxHeartbeats 40000000 in
theorem rm_rlong (l : Launch) (Z : State) (a0 : Array Value) (hw : ∀ d ∈ tables_1, d.before a0 Z = true) (ws : List Jvm.Cond) (a1 : Addr) (w_key_a1 : Addr) (k_w_key_a1 : ClassId) (n_w_key_a1 : Int32) (vs_w_key_a1 : List Value) (w_position_a1 : Int32) (h0 : Heap) (n0 : Nat) (Z0 : n0 ≤ h0.size) (F_key_a1 : Fld Z h0 a1 "com/example/fieldstone/fieldstone/core/KeyReader" "key" "[B" (.ref w_key_a1)) (V_w_key_a1 : Arv Z h0 w_key_a1 k_w_key_a1 .byte n_w_key_a1 vs_w_key_a1 (.int (0 : Int32))) (F_position_a1 : Fld Z h0 a1 "com/example/fieldstone/fieldstone/core/KeyReader" "position" "I" (.int w_position_a1)) (E_a1 : Exa Z h0 a1 "com/example/fieldstone/fieldstone/core/KeyReader") (g_a1 : n0 ≤ a1) (ne_w_key_a1_a1 : w_key_a1 ≠ a1) (hp0 : ¬ ((n_w_key_a1 - w_position_a1) < (8 : Int32))) (hp1 : ¬ ((w_position_a1 + (0 : Int32)) < (0 : Int32))) (hp2 : (w_position_a1 + (0 : Int32)) < n_w_key_a1) (hp3 : ¬ ((w_position_a1 + (1 : Int32)) < (0 : Int32))) (hp4 : (w_position_a1 + (1 : Int32)) < n_w_key_a1) (hp5 : ¬ ((w_position_a1 + (2 : Int32)) < (0 : Int32))) (hp6 : (w_position_a1 + (2 : Int32)) < n_w_key_a1) (hp7 : ¬ ((w_position_a1 + (3 : Int32)) < (0 : Int32))) (hp8 : (w_position_a1 + (3 : Int32)) < n_w_key_a1) (hp9 : ¬ ((w_position_a1 + (4 : Int32)) < (0 : Int32))) (hp10 : (w_position_a1 + (4 : Int32)) < n_w_key_a1) (hp11 : ¬ ((w_position_a1 + (5 : Int32)) < (0 : Int32))) (hp12 : (w_position_a1 + (5 : Int32)) < n_w_key_a1) (hp13 : ¬ ((w_position_a1 + (6 : Int32)) < (0 : Int32))) (hp14 : (w_position_a1 + (6 : Int32)) < n_w_key_a1) (hp15 : ¬ ((w_position_a1 + (7 : Int32)) < (0 : Int32))) (hp16 : (w_position_a1 + (7 : Int32)) < n_w_key_a1) :
    MetFree l (⟨"com/example/fieldstone/fieldstone/core/KeyReader", "readLong", "()J"⟩ : MethodName) (head1 (Jvm.Cond.code (⟨"com/example/fieldstone/fieldstone/core/KeyReader", "readLong", "()J"⟩ : MethodName) prog_48_method_5_code 1 (some .long) :: ws) ({ frames := 1, cells := 0, slots := 0, locals := 16 } : Room)) (fun a U => a = #[(.ref a1)] ∧ Z.Warmed39 U.vm ∧ U.heap = h0) (fun _ _ _ _ _ => True) (fun _ U o U' => ∃ v L, o = .returned v ∧ Q_rlong Z a1 w_key_a1 k_w_key_a1 n_w_key_a1 vs_w_key_a1 w_position_a1 h0 n0 v U'.heap L ∧ FrameEnd U o U' L ({ frames := 1, cells := 0, slots := 0, locals := 16 } : Room).cells ({ frames := 1, cells := 0, slots := 0, locals := 16 } : Room).slots) := by
  refine MetFree.of_bodySF (plainFor_of_name pn_com_example_fieldstone_fieldstone_core_KeyReader) hisR ?_
  intro p e s m args below meth c s₁ Bd hml0 hP hK
  obtain ⟨rfl, hZ, hh⟩ := hP
  have hx := Bd.exec
  have hby := Bd.bytes
  have hml : c.maxLocals = 1 := hml0
  have hown : s.vm.findClass "com/example/fieldstone/fieldstone/core/KeyReader" = some m.cls := findClass_of_methodNamed Bd.named
  have hnm := (name_of_methodNamed Bd.named Bd.method).1
  have X0 : Stand p l e ({ frames := 1, cells := 0, slots := 0, locals := 16 } : Room) s m #[(.ref a1)] below meth c s₁ [] 0 0 := Stand.of_body Bd
  have e0 : s₁.heap = h0 := by rw [← hh, Bd.state]; rfl
  have N0 := Fr.nil n0
  have pre0 : ∀ t, Steps p.tables e below (s₁.setTop (mkF m 0 #[.val (.ref a1)] [])) t → Steps p.tables e below (s₁.setTop (entryFrame m #[(.ref a1)] 1)) t := fun t k => castTop (ef_13_R m a1) k
  obtain ⟨cq1, q1, q1'⟩ := E_a1.cell
  obtain ⟨_, _, ⟨T1, L1, k1, n1⟩, -, X1, ⟨Lc1, hQ1, l1, y1, z1⟩, st1⟩ := X0.privateBack hx (y := (⟨"com/example/fieldstone/fieldstone/core/KeyReader", "readSignFlipped", "(I)J"⟩ : MethodName)) hown (mvT hZ (hw _ (List.mem_of_getElem? (i := 79) rfl))) (mvT hZ (hw _ (List.mem_of_getElem? (i := 80) rfl))) (own_sel hZ (hw _ (List.mem_of_getElem? (i := 81) rfl)) (hw _ (List.mem_of_getElem? (i := 80) rfl)) (hw _ (List.mem_of_getElem? (i := 3) rfl)) (by decide)) (Cond.privateMethod_at (mvP hZ (hw _ (List.mem_of_getElem? (i := 81) rfl)) (args := #[]))) (mvT hZ (hw _ (List.mem_of_getElem? (i := 82) rfl))) (by decide) (backOf (W := 0) (rm_rsf8 l Z a0 hw [] a1 w_key_a1 k_w_key_a1 n_w_key_a1 vs_w_key_a1 w_position_a1 h0 n0 Z0 F_key_a1 V_w_key_a1 F_position_a1 E_a1 g_a1 ne_w_key_a1_a1 hp0 hp1 hp2 hp3 hp4 hp5 hp6 hp7 hp8 hp9 hp10 hp11 hp12 hp13 hp14 hp15 hp16) hZ (hw _ (List.mem_of_getElem? (i := 82) rfl)) (hw _ (List.mem_of_getElem? (i := 4) rfl)) (by decide) (by decide)) (g := (mkF m 3 #[.val (.ref a1)] [(.int (8 : Int32)), (.ref a1)])) rfl (by rw [hml]; rfl) (Steps.refl _) (a := a1) (by rw [e0]; exact q1) q1' (argsL := [(.int (8 : Int32))]) (rest := []) (lenOf pd_1 rfl) rfl (by show 2 * 0 + _ ≤ _; exact Nat.le_of_eq rfl) (hb hby d13_3) (fun _ _ => ⟨rfl, e0, (by decide : 0 + 0 ≤ _), (by decide : 0 + 0 ≤ _)⟩)
  dsimp only [Pt.U, Pt.locs, Pt.cells, Pt.slots] at X1 l1 y1 z1 st1 hQ1
  subst l1 y1 z1
  obtain ⟨rfl, Nq1, Kc1, fq1_0, fq1_1, fq1_2⟩ := hQ1
  have f3 : Arv Z T1.heap w_key_a1 k_w_key_a1 .byte n_w_key_a1 vs_w_key_a1 (.int (0 : Int32)) := V_w_key_a1.keep Kc1 (ninS ne_w_key_a1_a1 nin0)
  have f4 : Fld Z T1.heap a1 "com/example/fieldstone/fieldstone/core/KeyReader" "key" "[B" (.ref w_key_a1) := fq1_0
  have f5 : Fld Z T1.heap a1 "com/example/fieldstone/fieldstone/core/KeyReader" "position" "I" (.int (w_position_a1 + (8 : Int32))) := fq1_1
  have K6 : Keep h0 T1.heap [a1] := (Keep.refl h0 [a1]).trans Kc1 (allS (Or.inl (List.mem_of_getElem? (i := 0) rfl)) all0)
  have Zs7 : n0 ≤ T1.heap.size := Nat.le_trans Z0 Kc1.1
  have N2 := Fr.app N0 Nq1
  obtain ⟨fs, hr, hrun, hended, hW, hsame⟩ := X1.leave (v := some (.long ((own_c8 vs_w_key_a1 w_position_a1) ^^^ (-9223372036854775808 : Int64)))) (fun h => by rw [Bd.returns] at h; cases h) Bd.notSynchronized
  refine ⟨_, _, pre0 _ ?_, hrun, hended, _, _, rfl, ?_, ⟨_, rfl⟩, hW, hsame.mono (by decide) (by decide)⟩
  · show Steps p.tables e below (s₁.setTop (mkF m 0 #[.val (.ref a1)] [])) _
    refine XS.aloadN X0.here hx rfl (hb hby d13_0) rfl rfl ?_
    refine XS.bipush X0.here hx rfl (hb hby d13_1) ?_
    show Steps p.tables e below (s₁.setTop (mkF m 3 #[.val (.ref a1)] [(.int (8 : Int32)), (.ref a1)])) _
    refine st1.trans ?_
    show Steps p.tables e below (T1.setTop (mkF m 6 #[.val (.ref a1)] [(.long (own_c8 vs_w_key_a1 w_position_a1))])) _
    refine X1.ldc2Long hx hown (mvT hZ (hw _ (List.mem_of_getElem? (i := 83) rfl))) (g := (mkF m 6 #[.val (.ref a1)] [(.long (own_c8 vs_w_key_a1 w_position_a1))])) rfl (hb hby d13_6) _ ?_
    show Steps p.tables e below (T1.setTop (mkF m 9 #[.val (.ref a1)] [(.long (-9223372036854775808 : Int64)), (.long (own_c8 vs_w_key_a1 w_position_a1))])) _
    refine XS.lxor X1.here hx rfl (hb hby d13_9) rfl ?_
    show Steps p.tables e below (T1.setTop (mkF m 10 #[.val (.ref a1)] [(.long ((own_c8 vs_w_key_a1 w_position_a1) ^^^ (-9223372036854775808 : Int64)))])) _
    exact retOut X1 hx (t := .long) (i := .lreturn) Bd.returns rfl (Or.inr (Or.inl ⟨rfl, rfl, _, rfl⟩)) (hb hby d13_10) hr
  · show Q_rlong Z a1 w_key_a1 k_w_key_a1 n_w_key_a1 vs_w_key_a1 w_position_a1 h0 n0 _ T1.heap _
    exact ⟨rfl, N2, K6, f4, f5, fq1_2⟩
theorem d10_0 : decode jdk_41_method_13_code 0 = .ok (.iload_n 2, 1) := by decide +kernel
theorem d10_1 : decode jdk_41_method_13_code 1 = .ok (.iload_n 0, 1) := by decide +kernel
theorem d10_2 : decode jdk_41_method_13_code 2 = .ok (.ior, 1) := by decide +kernel
theorem d10_3 : decode jdk_41_method_13_code 3 = .ok (.iload_n 1, 1) := by decide +kernel
theorem d10_4 : decode jdk_41_method_13_code 4 = .ok (.ior, 1) := by decide +kernel
theorem d10_5 : decode jdk_41_method_13_code 5 = .ok (.ifCond .lt 10, 3) := by decide +kernel
theorem d10_8 : decode jdk_41_method_13_code 8 = .ok (.iload_n 1, 1) := by decide +kernel
theorem d10_9 : decode jdk_41_method_13_code 9 = .ok (.iload_n 2, 1) := by decide +kernel
theorem d10_10 : decode jdk_41_method_13_code 10 = .ok (.iload_n 0, 1) := by decide +kernel
theorem d10_11 : decode jdk_41_method_13_code 11 = .ok (.isub, 1) := by decide +kernel
theorem d10_12 : decode jdk_41_method_13_code 12 = .ok (.if_icmp .le 11, 3) := by decide +kernel
theorem d10_23 : decode jdk_41_method_13_code 23 = .ok (.iload_n 0, 1) := by decide +kernel
theorem d10_24 : decode jdk_41_method_13_code 24 = .ok (.ireturn, 1) := by decide +kernel
theorem pn_jdk_internal_util_Preconditions : plainName "jdk/internal/util/Preconditions" = true := by first | (simp [plainName, overriddenIn]; done) | decide +kernel
theorem ef_10_IIIN (m : MethodId) (x0 : Int32) (x1 : Int32) (x2 : Int32) : entryFrame m #[(.int x0), (.int x1), (.int x2), .null] 4 = mkF m 0 #[.val (.int x0), .val (.int x1), .val (.int x2), .val .null] [] := by first | (simp [entryFrame, mkF, argsToLocals, Value.category]; done) | rfl
def Q_cfN (Z : State) (p1 : Int32) (p3 : Int32) (h0 : Heap) (n0 : Nat) (v : Option Value) (h : Heap) (L : List Loc) : Prop := v = some (.int p1) ∧ Fr n0 L ∧ h = h0
set_option maxRecDepth 65536 in
set_option maxHeartbeats 40000000 in
theorem rm_cfN (l : Launch) (Z : State) (a0 : Array Value) (hw : ∀ d ∈ tables_1, d.before a0 Z = true) (ws : List Jvm.Cond) (p1 : Int32) (p3 : Int32) (h0 : Heap) (n0 : Nat) (Z0 : n0 ≤ h0.size) (hp0 : ¬ (((p3 ||| p1) ||| (0 : Int32)) < (0 : Int32))) (hp1 : ¬ ((p3 - p1) < (0 : Int32))) :
    MetFree l (⟨"jdk/internal/util/Preconditions", "checkFromIndexSize", "(IIILjava/util/function/BiFunction;)I"⟩ : MethodName) (head1 (Jvm.Cond.code (⟨"jdk/internal/util/Preconditions", "checkFromIndexSize", "(IIILjava/util/function/BiFunction;)I"⟩ : MethodName) jdk_41_method_13_code 4 (some .int) :: ws) ({ frames := 0, cells := 0, slots := 0, locals := 0 } : Room)) (fun a U => a = #[(.int p1), (.int (0 : Int32)), (.int p3), .null] ∧ Z.Warmed39 U.vm ∧ U.heap = h0) (fun _ _ _ _ _ => True) (fun _ U o U' => ∃ v L, o = .returned v ∧ Q_cfN Z p1 p3 h0 n0 v U'.heap L ∧ FrameEnd U o U' L ({ frames := 0, cells := 0, slots := 0, locals := 0 } : Room).cells ({ frames := 0, cells := 0, slots := 0, locals := 0 } : Room).slots) := by
  refine MetFree.of_bodySF (plainFor_of_name pn_jdk_internal_util_Preconditions) hisR ?_
  intro p e s m args below meth c s₁ Bd hml0 hP hK
  obtain ⟨rfl, hZ, hh⟩ := hP
  have hx := Bd.exec
  have hby := Bd.bytes
  have hml : c.maxLocals = 4 := hml0
  have hown : s.vm.findClass "jdk/internal/util/Preconditions" = some m.cls := findClass_of_methodNamed Bd.named
  have hnm := (name_of_methodNamed Bd.named Bd.method).1
  have X0 : Stand p l e ({ frames := 0, cells := 0, slots := 0, locals := 0 } : Room) s m #[(.int p1), (.int (0 : Int32)), (.int p3), .null] below meth c s₁ [] 0 0 := Stand.of_body Bd
  have e0 : s₁.heap = h0 := by rw [← hh, Bd.state]; rfl
  have N0 := Fr.nil n0
  have pre0 : ∀ t, Steps p.tables e below (s₁.setTop (mkF m 0 #[.val (.int p1), .val (.int (0 : Int32)), .val (.int p3), .val .null] [])) t → Steps p.tables e below (s₁.setTop (entryFrame m #[(.int p1), (.int (0 : Int32)), (.int p3), .null] 4)) t := fun t k => castTop (ef_10_IIIN m p1 (0 : Int32) p3) k
  obtain ⟨fs, hr, hrun, hended, hW, hsame⟩ := X0.leave (v := some (.int p1)) (fun h => by rw [Bd.returns] at h; cases h) Bd.notSynchronized
  refine ⟨_, _, pre0 _ ?_, hrun, hended, _, _, rfl, ?_, ⟨_, rfl⟩, hW, hsame.mono (by decide) (by decide)⟩
  · show Steps p.tables e below (s₁.setTop (mkF m 0 #[.val (.int p1), .val (.int (0 : Int32)), .val (.int p3), .val .null] [])) _
    refine XS.iloadN X0.here hx rfl (hb hby d10_0) rfl ?_
    refine XS.iloadN X0.here hx rfl (hb hby d10_1) rfl ?_
    show Steps p.tables e below (s₁.setTop (mkF m 2 #[.val (.int p1), .val (.int (0 : Int32)), .val (.int p3), .val .null] [(.int p1), (.int p3)])) _
    refine XS.ior X0.here hx rfl (hb hby d10_2) rfl ?_
    show Steps p.tables e below (s₁.setTop (mkF m 3 #[.val (.int p1), .val (.int (0 : Int32)), .val (.int p3), .val .null] [(.int (p3 ||| p1))])) _
    refine XS.iloadN X0.here hx rfl (hb hby d10_3) rfl ?_
    show Steps p.tables e below (s₁.setTop (mkF m 4 #[.val (.int p1), .val (.int (0 : Int32)), .val (.int p3), .val .null] [(.int (0 : Int32)), (.int (p3 ||| p1))])) _
    refine XS.ior X0.here hx rfl (hb hby d10_4) rfl ?_
    show Steps p.tables e below (s₁.setTop (mkF m 5 #[.val (.int p1), .val (.int (0 : Int32)), .val (.int p3), .val .null] [(.int ((p3 ||| p1) ||| (0 : Int32)))])) _
    refine XS.ifNo X0.here hx rfl (hb hby d10_5) rfl ((if0 _ _).trans (flt hp0).1) ?_
    show Steps p.tables e below (s₁.setTop (mkF m 8 #[.val (.int p1), .val (.int (0 : Int32)), .val (.int p3), .val .null] [])) _
    refine XS.iloadN X0.here hx rfl (hb hby d10_8) rfl ?_
    refine XS.iloadN X0.here hx rfl (hb hby d10_9) rfl ?_
    refine XS.iloadN X0.here hx rfl (hb hby d10_10) rfl ?_
    show Steps p.tables e below (s₁.setTop (mkF m 11 #[.val (.int p1), .val (.int (0 : Int32)), .val (.int p3), .val .null] [(.int p1), (.int p3), (.int (0 : Int32))])) _
    refine XS.isub X0.here hx rfl (hb hby d10_11) rfl ?_
    show Steps p.tables e below (s₁.setTop (mkF m 12 #[.val (.int p1), .val (.int (0 : Int32)), .val (.int p3), .val .null] [(.int (p3 - p1)), (.int (0 : Int32))])) _
    refine XS.icmpYes X0.here hx rfl (pc0 := 12) (pc' := 23) rfl (hb hby d10_12) rfl (flt hp1).2.2.2 (by decide) (by decide) ?_
    show Steps p.tables e below (s₁.setTop (mkF m 23 #[.val (.int p1), .val (.int (0 : Int32)), .val (.int p3), .val .null] [])) _
    refine XS.iloadN X0.here hx rfl (hb hby d10_23) rfl ?_
    show Steps p.tables e below (s₁.setTop (mkF m 24 #[.val (.int p1), .val (.int (0 : Int32)), .val (.int p3), .val .null] [(.int p1)])) _
    exact retI X0 hx Bd.returns (hb hby d10_24) hr
  · show Q_cfN Z p1 p3 h0 n0 _ s₁.heap _
    rw [e0]
    exact ⟨rfl, N0, rfl⟩
theorem ef_10_IIIR (m : MethodId) (x0 : Int32) (x1 : Int32) (x2 : Int32) (x3 : Addr) : entryFrame m #[(.int x0), (.int x1), (.int x2), (.ref x3)] 4 = mkF m 0 #[.val (.int x0), .val (.int x1), .val (.int x2), .val (.ref x3)] [] := by first | (simp [entryFrame, mkF, argsToLocals, Value.category]; done) | rfl
def Q_cfR (Z : State) (p1 : Int32) (p3 : Int32) (a4 : Addr) (h0 : Heap) (n0 : Nat) (v : Option Value) (h : Heap) (L : List Loc) : Prop := v = some (.int p1) ∧ Fr n0 L ∧ h = h0
set_option maxRecDepth 65536 in
set_option maxHeartbeats 40000000 in
theorem rm_cfR (l : Launch) (Z : State) (a0 : Array Value) (hw : ∀ d ∈ tables_1, d.before a0 Z = true) (ws : List Jvm.Cond) (p1 : Int32) (p3 : Int32) (a4 : Addr) (h0 : Heap) (n0 : Nat) (Z0 : n0 ≤ h0.size) (hp0 : ¬ (((p3 ||| p1) ||| (0 : Int32)) < (0 : Int32))) (hp1 : ¬ ((p3 - p1) < (0 : Int32))) :
    MetFree l (⟨"jdk/internal/util/Preconditions", "checkFromIndexSize", "(IIILjava/util/function/BiFunction;)I"⟩ : MethodName) (head1 (Jvm.Cond.code (⟨"jdk/internal/util/Preconditions", "checkFromIndexSize", "(IIILjava/util/function/BiFunction;)I"⟩ : MethodName) jdk_41_method_13_code 4 (some .int) :: ws) ({ frames := 0, cells := 0, slots := 0, locals := 0 } : Room)) (fun a U => a = #[(.int p1), (.int (0 : Int32)), (.int p3), (.ref a4)] ∧ Z.Warmed39 U.vm ∧ U.heap = h0) (fun _ _ _ _ _ => True) (fun _ U o U' => ∃ v L, o = .returned v ∧ Q_cfR Z p1 p3 a4 h0 n0 v U'.heap L ∧ FrameEnd U o U' L ({ frames := 0, cells := 0, slots := 0, locals := 0 } : Room).cells ({ frames := 0, cells := 0, slots := 0, locals := 0 } : Room).slots) := by
  refine MetFree.of_bodySF (plainFor_of_name pn_jdk_internal_util_Preconditions) hisR ?_
  intro p e s m args below meth c s₁ Bd hml0 hP hK
  obtain ⟨rfl, hZ, hh⟩ := hP
  have hx := Bd.exec
  have hby := Bd.bytes
  have hml : c.maxLocals = 4 := hml0
  have hown : s.vm.findClass "jdk/internal/util/Preconditions" = some m.cls := findClass_of_methodNamed Bd.named
  have hnm := (name_of_methodNamed Bd.named Bd.method).1
  have X0 : Stand p l e ({ frames := 0, cells := 0, slots := 0, locals := 0 } : Room) s m #[(.int p1), (.int (0 : Int32)), (.int p3), (.ref a4)] below meth c s₁ [] 0 0 := Stand.of_body Bd
  have e0 : s₁.heap = h0 := by rw [← hh, Bd.state]; rfl
  have N0 := Fr.nil n0
  have pre0 : ∀ t, Steps p.tables e below (s₁.setTop (mkF m 0 #[.val (.int p1), .val (.int (0 : Int32)), .val (.int p3), .val (.ref a4)] [])) t → Steps p.tables e below (s₁.setTop (entryFrame m #[(.int p1), (.int (0 : Int32)), (.int p3), (.ref a4)] 4)) t := fun t k => castTop (ef_10_IIIR m p1 (0 : Int32) p3 a4) k
  obtain ⟨fs, hr, hrun, hended, hW, hsame⟩ := X0.leave (v := some (.int p1)) (fun h => by rw [Bd.returns] at h; cases h) Bd.notSynchronized
  refine ⟨_, _, pre0 _ ?_, hrun, hended, _, _, rfl, ?_, ⟨_, rfl⟩, hW, hsame.mono (by decide) (by decide)⟩
  · show Steps p.tables e below (s₁.setTop (mkF m 0 #[.val (.int p1), .val (.int (0 : Int32)), .val (.int p3), .val (.ref a4)] [])) _
    refine XS.iloadN X0.here hx rfl (hb hby d10_0) rfl ?_
    refine XS.iloadN X0.here hx rfl (hb hby d10_1) rfl ?_
    show Steps p.tables e below (s₁.setTop (mkF m 2 #[.val (.int p1), .val (.int (0 : Int32)), .val (.int p3), .val (.ref a4)] [(.int p1), (.int p3)])) _
    refine XS.ior X0.here hx rfl (hb hby d10_2) rfl ?_
    show Steps p.tables e below (s₁.setTop (mkF m 3 #[.val (.int p1), .val (.int (0 : Int32)), .val (.int p3), .val (.ref a4)] [(.int (p3 ||| p1))])) _
    refine XS.iloadN X0.here hx rfl (hb hby d10_3) rfl ?_
    show Steps p.tables e below (s₁.setTop (mkF m 4 #[.val (.int p1), .val (.int (0 : Int32)), .val (.int p3), .val (.ref a4)] [(.int (0 : Int32)), (.int (p3 ||| p1))])) _
    refine XS.ior X0.here hx rfl (hb hby d10_4) rfl ?_
    show Steps p.tables e below (s₁.setTop (mkF m 5 #[.val (.int p1), .val (.int (0 : Int32)), .val (.int p3), .val (.ref a4)] [(.int ((p3 ||| p1) ||| (0 : Int32)))])) _
    refine XS.ifNo X0.here hx rfl (hb hby d10_5) rfl ((if0 _ _).trans (flt hp0).1) ?_
    show Steps p.tables e below (s₁.setTop (mkF m 8 #[.val (.int p1), .val (.int (0 : Int32)), .val (.int p3), .val (.ref a4)] [])) _
    refine XS.iloadN X0.here hx rfl (hb hby d10_8) rfl ?_
    refine XS.iloadN X0.here hx rfl (hb hby d10_9) rfl ?_
    refine XS.iloadN X0.here hx rfl (hb hby d10_10) rfl ?_
    show Steps p.tables e below (s₁.setTop (mkF m 11 #[.val (.int p1), .val (.int (0 : Int32)), .val (.int p3), .val (.ref a4)] [(.int p1), (.int p3), (.int (0 : Int32))])) _
    refine XS.isub X0.here hx rfl (hb hby d10_11) rfl ?_
    show Steps p.tables e below (s₁.setTop (mkF m 12 #[.val (.int p1), .val (.int (0 : Int32)), .val (.int p3), .val (.ref a4)] [(.int (p3 - p1)), (.int (0 : Int32))])) _
    refine XS.icmpYes X0.here hx rfl (pc0 := 12) (pc' := 23) rfl (hb hby d10_12) rfl (flt hp1).2.2.2 (by decide) (by decide) ?_
    show Steps p.tables e below (s₁.setTop (mkF m 23 #[.val (.int p1), .val (.int (0 : Int32)), .val (.int p3), .val (.ref a4)] [])) _
    refine XS.iloadN X0.here hx rfl (hb hby d10_23) rfl ?_
    show Steps p.tables e below (s₁.setTop (mkF m 24 #[.val (.int p1), .val (.int (0 : Int32)), .val (.int p3), .val (.ref a4)] [(.int p1)])) _
    exact retI X0 hx Bd.returns (hb hby d10_24) hr
  · show Q_cfR Z p1 p3 a4 h0 n0 _ s₁.heap _
    rw [e0]
    exact ⟨rfl, N0, rfl⟩
theorem pd_2 : parseMethodDescriptor "(IIILjava/util/function/BiFunction;)I" = some ⟨[.int, .int, .int, (.object "java/util/function/BiFunction")], some .int⟩ := by decide +kernel
theorem d9_0 : decode jdk_42_method_157_code 0 = .ok (.iload_n 0, 1) := by decide +kernel
theorem d9_1 : decode jdk_42_method_157_code 1 = .ok (.iload_n 1, 1) := by decide +kernel
theorem d9_2 : decode jdk_42_method_157_code 2 = .ok (.iload_n 2, 1) := by decide +kernel
theorem d9_3 : decode jdk_42_method_157_code 3 = .ok (.getstatic 1053, 3) := by decide +kernel
theorem d9_6 : decode jdk_42_method_157_code 6 = .ok (.invokestatic 1065, 3) := by decide +kernel
theorem d9_9 : decode jdk_42_method_157_code 9 = .ok (.ireturn, 1) := by decide +kernel
theorem pn_java_lang_String : plainName "java/lang/String" = true := by first | (simp [plainName, overriddenIn]; done) | decide +kernel
theorem ef_9_III (m : MethodId) (x0 : Int32) (x1 : Int32) (x2 : Int32) : entryFrame m #[(.int x0), (.int x1), (.int x2)] 3 = mkF m 0 #[.val (.int x0), .val (.int x1), .val (.int x2)] [] := by first | (simp [entryFrame, mkF, argsToLocals, Value.category]; done) | rfl
def Q_cbN (Z : State) (p1 : Int32) (p3 : Int32) (h0 : Heap) (n0 : Nat) (v : Option Value) (h : Heap) (L : List Loc) : Prop := v = some (.int p1) ∧ Fr n0 L ∧ h = h0
set_option maxRecDepth 65536 in
set_option maxHeartbeats 40000000 in
theorem rm_cbN (l : Launch) (Z : State) (a0 : Array Value) (hw : ∀ d ∈ tables_1, d.before a0 Z = true) (ws : List Jvm.Cond) (p1 : Int32) (p3 : Int32) (h0 : Heap) (n0 : Nat) (Z0 : n0 ≤ h0.size) (S_SIOOBE_FORMATTER : Sta Z h0 "jdk/internal/util/Preconditions" "SIOOBE_FORMATTER" "Ljava/util/function/BiFunction;" .null) (hp0 : ¬ (((p3 ||| p1) ||| (0 : Int32)) < (0 : Int32))) (hp1 : ¬ ((p3 - p1) < (0 : Int32))) :
    MetFree l (⟨"java/lang/String", "checkBoundsOffCount", "(III)I"⟩ : MethodName) (head1 (Jvm.Cond.code (⟨"java/lang/String", "checkBoundsOffCount", "(III)I"⟩ : MethodName) jdk_42_method_157_code 3 (some .int) :: ws) ({ frames := 1, cells := 0, slots := 0, locals := 15 } : Room)) (fun a U => a = #[(.int p1), (.int (0 : Int32)), (.int p3)] ∧ Z.Warmed39 U.vm ∧ U.heap = h0) (fun _ _ _ _ _ => True) (fun _ U o U' => ∃ v L, o = .returned v ∧ Q_cbN Z p1 p3 h0 n0 v U'.heap L ∧ FrameEnd U o U' L ({ frames := 1, cells := 0, slots := 0, locals := 15 } : Room).cells ({ frames := 1, cells := 0, slots := 0, locals := 15 } : Room).slots) := by
  refine MetFree.of_bodySF (plainFor_of_name pn_java_lang_String) hisR ?_
  intro p e s m args below meth c s₁ Bd hml0 hP hK
  obtain ⟨rfl, hZ, hh⟩ := hP
  have hx := Bd.exec
  have hby := Bd.bytes
  have hml : c.maxLocals = 3 := hml0
  have hown : s.vm.findClass "java/lang/String" = some m.cls := findClass_of_methodNamed Bd.named
  have hnm := (name_of_methodNamed Bd.named Bd.method).1
  have X0 : Stand p l e ({ frames := 1, cells := 0, slots := 0, locals := 15 } : Room) s m #[(.int p1), (.int (0 : Int32)), (.int p3)] below meth c s₁ [] 0 0 := Stand.of_body Bd
  have e0 : s₁.heap = h0 := by rw [← hh, Bd.state]; rfl
  have N0 := Fr.nil n0
  have pre0 : ∀ t, Steps p.tables e below (s₁.setTop (mkF m 0 #[.val (.int p1), .val (.int (0 : Int32)), .val (.int p3)] [])) t → Steps p.tables e below (s₁.setTop (entryFrame m #[(.int p1), (.int (0 : Int32)), (.int p3)] 3)) t := fun t k => castTop (ef_9_III m p1 (0 : Int32) p3) k
  obtain ⟨T1, X1, e1, st1⟩ := getS2 X0 hx hZ hown (host := "") (Or.inl (hw _ (List.mem_of_getElem? (i := 56) rfl))) Via.refl e0 S_SIOOBE_FORMATTER (g := (mkF m 3 #[.val (.int p1), .val (.int (0 : Int32)), .val (.int p3)] [(.int p3), (.int (0 : Int32)), (.int p1)])) rfl (hb hby d9_3)
  obtain ⟨_, _, ⟨T2, L2, k2, n2⟩, -, X2, ⟨Lc2, hQ2, l2, y2, z2⟩, st2⟩ := Jvm.LawKit.callS X1 hx (y := (⟨"jdk/internal/util/Preconditions", "checkFromIndexSize", "(IIILjava/util/function/BiFunction;)I"⟩ : MethodName)) hown (mvT hZ (hw _ (List.mem_of_getElem? (i := 58) rfl))) (mvT hZ (hw _ (List.mem_of_getElem? (i := 59) rfl))) (mvT hZ (hw _ (List.mem_of_getElem? (i := 57) rfl))) (mvT hZ (hw _ (List.mem_of_getElem? (i := 60) rfl))) (by decide) (backOf (W := 0) (rm_cfN l Z a0 hw [] p1 p3 h0 n0 Z0 hp0 hp1) hZ (hw _ (List.mem_of_getElem? (i := 60) rfl)) (hw _ (List.mem_of_getElem? (i := 57) rfl)) (by decide) (by decide)) (g := (mkF m 6 #[.val (.int p1), .val (.int (0 : Int32)), .val (.int p3)] [.null, (.int p3), (.int (0 : Int32)), (.int p1)])) rfl (by rw [hml]; rfl) (argsL := [(.int p1), (.int (0 : Int32)), (.int p3), .null]) (rest := []) (lenOf pd_2 rfl) rfl (by show 2 * 0 + _ ≤ _; exact Nat.le_of_eq rfl) (hb hby d9_6) (fun _ _ => ⟨rfl, e1, (by decide : 0 + 0 ≤ _), (by decide : 0 + 0 ≤ _)⟩)
  dsimp only [Pt.U, Pt.locs, Pt.cells, Pt.slots] at X2 l2 y2 z2 st2 hQ2
  subst l2 y2 z2
  obtain ⟨rfl, Nq2, e2⟩ := hQ2
  have N3 := Fr.app N0 Nq2
  obtain ⟨fs, hr, hrun, hended, hW, hsame⟩ := X2.leave (v := some (.int p1)) (fun h => by rw [Bd.returns] at h; cases h) Bd.notSynchronized
  refine ⟨_, _, pre0 _ ?_, hrun, hended, _, _, rfl, ?_, ⟨_, rfl⟩, hW, hsame.mono (by decide) (by decide)⟩
  · show Steps p.tables e below (s₁.setTop (mkF m 0 #[.val (.int p1), .val (.int (0 : Int32)), .val (.int p3)] [])) _
    refine XS.iloadN X0.here hx rfl (hb hby d9_0) rfl ?_
    refine XS.iloadN X0.here hx rfl (hb hby d9_1) rfl ?_
    refine XS.iloadN X0.here hx rfl (hb hby d9_2) rfl ?_
    show Steps p.tables e below (s₁.setTop (mkF m 3 #[.val (.int p1), .val (.int (0 : Int32)), .val (.int p3)] [(.int p3), (.int (0 : Int32)), (.int p1)])) _
    refine st1 _ ?_
    show Steps p.tables e below (T1.setTop (mkF m 6 #[.val (.int p1), .val (.int (0 : Int32)), .val (.int p3)] [.null, (.int p3), (.int (0 : Int32)), (.int p1)])) _
    refine st2 _ ?_
    show Steps p.tables e below (T2.setTop (mkF m 9 #[.val (.int p1), .val (.int (0 : Int32)), .val (.int p3)] [(.int p1)])) _
    exact retI X2 hx Bd.returns (hb hby d9_9) hr
  · show Q_cbN Z p1 p3 h0 n0 _ T2.heap _
    rw [e2]
    exact ⟨rfl, N3, rfl⟩
def Q_cbR (Z : State) (p1 : Int32) (p3 : Int32) (s_SIOOBE_FORMATTER : Addr) (h0 : Heap) (n0 : Nat) (v : Option Value) (h : Heap) (L : List Loc) : Prop := v = some (.int p1) ∧ Fr n0 L ∧ h = h0
set_option maxRecDepth 65536 in
set_option maxHeartbeats 40000000 in
theorem rm_cbR (l : Launch) (Z : State) (a0 : Array Value) (hw : ∀ d ∈ tables_1, d.before a0 Z = true) (ws : List Jvm.Cond) (p1 : Int32) (p3 : Int32) (s_SIOOBE_FORMATTER : Addr) (h0 : Heap) (n0 : Nat) (Z0 : n0 ≤ h0.size) (S_SIOOBE_FORMATTER : Sta Z h0 "jdk/internal/util/Preconditions" "SIOOBE_FORMATTER" "Ljava/util/function/BiFunction;" (.ref s_SIOOBE_FORMATTER)) (hp0 : ¬ (((p3 ||| p1) ||| (0 : Int32)) < (0 : Int32))) (hp1 : ¬ ((p3 - p1) < (0 : Int32))) :
    MetFree l (⟨"java/lang/String", "checkBoundsOffCount", "(III)I"⟩ : MethodName) (head1 (Jvm.Cond.code (⟨"java/lang/String", "checkBoundsOffCount", "(III)I"⟩ : MethodName) jdk_42_method_157_code 3 (some .int) :: ws) ({ frames := 1, cells := 0, slots := 0, locals := 15 } : Room)) (fun a U => a = #[(.int p1), (.int (0 : Int32)), (.int p3)] ∧ Z.Warmed39 U.vm ∧ U.heap = h0) (fun _ _ _ _ _ => True) (fun _ U o U' => ∃ v L, o = .returned v ∧ Q_cbR Z p1 p3 s_SIOOBE_FORMATTER h0 n0 v U'.heap L ∧ FrameEnd U o U' L ({ frames := 1, cells := 0, slots := 0, locals := 15 } : Room).cells ({ frames := 1, cells := 0, slots := 0, locals := 15 } : Room).slots) := by
  refine MetFree.of_bodySF (plainFor_of_name pn_java_lang_String) hisR ?_
  intro p e s m args below meth c s₁ Bd hml0 hP hK
  obtain ⟨rfl, hZ, hh⟩ := hP
  have hx := Bd.exec
  have hby := Bd.bytes
  have hml : c.maxLocals = 3 := hml0
  have hown : s.vm.findClass "java/lang/String" = some m.cls := findClass_of_methodNamed Bd.named
  have hnm := (name_of_methodNamed Bd.named Bd.method).1
  have X0 : Stand p l e ({ frames := 1, cells := 0, slots := 0, locals := 15 } : Room) s m #[(.int p1), (.int (0 : Int32)), (.int p3)] below meth c s₁ [] 0 0 := Stand.of_body Bd
  have e0 : s₁.heap = h0 := by rw [← hh, Bd.state]; rfl
  have N0 := Fr.nil n0
  have pre0 : ∀ t, Steps p.tables e below (s₁.setTop (mkF m 0 #[.val (.int p1), .val (.int (0 : Int32)), .val (.int p3)] [])) t → Steps p.tables e below (s₁.setTop (entryFrame m #[(.int p1), (.int (0 : Int32)), (.int p3)] 3)) t := fun t k => castTop (ef_9_III m p1 (0 : Int32) p3) k
  obtain ⟨T1, X1, e1, st1⟩ := getS2 X0 hx hZ hown (host := "") (Or.inl (hw _ (List.mem_of_getElem? (i := 56) rfl))) Via.refl e0 S_SIOOBE_FORMATTER (g := (mkF m 3 #[.val (.int p1), .val (.int (0 : Int32)), .val (.int p3)] [(.int p3), (.int (0 : Int32)), (.int p1)])) rfl (hb hby d9_3)
  obtain ⟨_, _, ⟨T2, L2, k2, n2⟩, -, X2, ⟨Lc2, hQ2, l2, y2, z2⟩, st2⟩ := Jvm.LawKit.callS X1 hx (y := (⟨"jdk/internal/util/Preconditions", "checkFromIndexSize", "(IIILjava/util/function/BiFunction;)I"⟩ : MethodName)) hown (mvT hZ (hw _ (List.mem_of_getElem? (i := 58) rfl))) (mvT hZ (hw _ (List.mem_of_getElem? (i := 59) rfl))) (mvT hZ (hw _ (List.mem_of_getElem? (i := 57) rfl))) (mvT hZ (hw _ (List.mem_of_getElem? (i := 60) rfl))) (by decide) (backOf (W := 0) (rm_cfR l Z a0 hw [] p1 p3 s_SIOOBE_FORMATTER h0 n0 Z0 hp0 hp1) hZ (hw _ (List.mem_of_getElem? (i := 60) rfl)) (hw _ (List.mem_of_getElem? (i := 57) rfl)) (by decide) (by decide)) (g := (mkF m 6 #[.val (.int p1), .val (.int (0 : Int32)), .val (.int p3)] [(.ref s_SIOOBE_FORMATTER), (.int p3), (.int (0 : Int32)), (.int p1)])) rfl (by rw [hml]; rfl) (argsL := [(.int p1), (.int (0 : Int32)), (.int p3), (.ref s_SIOOBE_FORMATTER)]) (rest := []) (lenOf pd_2 rfl) rfl (by show 2 * 0 + _ ≤ _; exact Nat.le_of_eq rfl) (hb hby d9_6) (fun _ _ => ⟨rfl, e1, (by decide : 0 + 0 ≤ _), (by decide : 0 + 0 ≤ _)⟩)
  dsimp only [Pt.U, Pt.locs, Pt.cells, Pt.slots] at X2 l2 y2 z2 st2 hQ2
  subst l2 y2 z2
  obtain ⟨rfl, Nq2, e2⟩ := hQ2
  have N3 := Fr.app N0 Nq2
  obtain ⟨fs, hr, hrun, hended, hW, hsame⟩ := X2.leave (v := some (.int p1)) (fun h => by rw [Bd.returns] at h; cases h) Bd.notSynchronized
  refine ⟨_, _, pre0 _ ?_, hrun, hended, _, _, rfl, ?_, ⟨_, rfl⟩, hW, hsame.mono (by decide) (by decide)⟩
  · show Steps p.tables e below (s₁.setTop (mkF m 0 #[.val (.int p1), .val (.int (0 : Int32)), .val (.int p3)] [])) _
    refine XS.iloadN X0.here hx rfl (hb hby d9_0) rfl ?_
    refine XS.iloadN X0.here hx rfl (hb hby d9_1) rfl ?_
    refine XS.iloadN X0.here hx rfl (hb hby d9_2) rfl ?_
    show Steps p.tables e below (s₁.setTop (mkF m 3 #[.val (.int p1), .val (.int (0 : Int32)), .val (.int p3)] [(.int p3), (.int (0 : Int32)), (.int p1)])) _
    refine st1 _ ?_
    show Steps p.tables e below (T1.setTop (mkF m 6 #[.val (.int p1), .val (.int (0 : Int32)), .val (.int p3)] [(.ref s_SIOOBE_FORMATTER), (.int p3), (.int (0 : Int32)), (.int p1)])) _
    refine st2 _ ?_
    show Steps p.tables e below (T2.setTop (mkF m 9 #[.val (.int p1), .val (.int (0 : Int32)), .val (.int p3)] [(.int p1)])) _
    exact retI X2 hx Bd.returns (hb hby d9_9) hr
  · show Q_cbR Z p1 p3 s_SIOOBE_FORMATTER h0 n0 _ T2.heap _
    rw [e2]
    exact ⟨rfl, N3, rfl⟩
def Q_cb (Z : State) (p1 p3 : Int32) (s_F : Value) (h0 : Heap) (n0 : Nat) (v : Option Value) (h : Heap) (L : List Loc) : Prop := v = some (.int p1) ∧ Fr n0 L ∧ h = h0
set_option maxRecDepth 65536 in
set_option maxHeartbeats 40000000 in
theorem rm_cb (l : Launch) (Z : State) (a0 : Array Value) (hw : ∀ d ∈ tables_1, d.before a0 Z = true) (ws : List Jvm.Cond) (p1 : Int32) (p3 : Int32) (s_F : Value) (h0 : Heap) (n0 : Nat) (Z0 : n0 ≤ h0.size) (S_SIOOBE_FORMATTER : Sta Z h0 "jdk/internal/util/Preconditions" "SIOOBE_FORMATTER" "Ljava/util/function/BiFunction;" s_F) (hsr : s_F.isRef = true) (hp0 : ¬ (((p3 ||| p1) ||| (0 : Int32)) < (0 : Int32))) (hp1 : ¬ ((p3 - p1) < (0 : Int32))) :
    MetFree l (⟨"java/lang/String", "checkBoundsOffCount", "(III)I"⟩ : MethodName) (head1 (Jvm.Cond.code (⟨"java/lang/String", "checkBoundsOffCount", "(III)I"⟩ : MethodName) jdk_42_method_157_code 3 (some .int) :: ws) ({ frames := 1, cells := 0, slots := 0, locals := 15 } : Room)) (fun a U => a = #[(.int p1), (.int (0 : Int32)), (.int p3)] ∧ Z.Warmed39 U.vm ∧ U.heap = h0) (fun _ _ _ _ _ => True) (fun _ U o U' => ∃ v L, o = .returned v ∧ Q_cb Z p1 p3 s_F h0 n0 v U'.heap L ∧ FrameEnd U o U' L ({ frames := 1, cells := 0, slots := 0, locals := 15 } : Room).cells ({ frames := 1, cells := 0, slots := 0, locals := 15 } : Room).slots) := by
  rcases ref_cases hsr with rfl | ⟨z, rfl⟩
  · exact rm_cbN l Z a0 hw ws p1 p3 h0 n0 Z0 S_SIOOBE_FORMATTER hp0 hp1
  · exact rm_cbR l Z a0 hw ws p1 p3 z h0 n0 Z0 S_SIOOBE_FORMATTER hp0 hp1
theorem d11_0 : decode jdk_42_method_11_code 0 = .ok (.aload_n 0, 1) := by decide +kernel
theorem d11_1 : decode jdk_42_method_11_code 1 = .ok (.invokespecial 1, 3) := by decide +kernel
theorem d11_4 : decode jdk_42_method_11_code 4 = .ok (.iload 4, 2) := by decide +kernel
theorem d11_6 : decode jdk_42_method_11_code 6 = .ok (.ifCond .ne 24, 3) := by decide +kernel
theorem d11_9 : decode jdk_42_method_11_code 9 = .ok (.aload_n 0, 1) := by decide +kernel
theorem d11_10 : decode jdk_42_method_11_code 10 = .ok (.ldc 7, 2) := by decide +kernel
theorem d11_12 : decode jdk_42_method_11_code 12 = .ok (.getfield 9, 3) := by decide +kernel
theorem d11_15 : decode jdk_42_method_11_code 15 = .ok (.putfield 9, 3) := by decide +kernel
theorem d11_18 : decode jdk_42_method_11_code 18 = .ok (.aload_n 0, 1) := by decide +kernel
theorem d11_19 : decode jdk_42_method_11_code 19 = .ok (.ldc 7, 2) := by decide +kernel
theorem d11_21 : decode jdk_42_method_11_code 21 = .ok (.getfield 15, 3) := by decide +kernel
theorem d11_24 : decode jdk_42_method_11_code 24 = .ok (.putfield 15, 3) := by decide +kernel
theorem d11_27 : decode jdk_42_method_11_code 27 = .ok (.goto 852, 3) := by decide +kernel
theorem d11_879 : decode jdk_42_method_11_code 879 = .ok (.return_, 1) := by decide +kernel
theorem ef_11_RRRII (m : MethodId) (x0 : Addr) (x1 : Addr) (x2 : Addr) (x3 : Int32) (x4 : Int32) : entryFrame m #[(.ref x0), (.ref x1), (.ref x2), (.int x3), (.int x4)] 11 = mkF m 0 #[.val (.ref x0), .val (.ref x1), .val (.ref x2), .val (.int x3), .val (.int x4), .unset, .unset, .unset, .unset, .unset, .unset] [] := by first | (simp [entryFrame, mkF, argsToLocals, Value.category]; done) | rfl
def Q_s5 (Z : State) (a1 : Addr) (a2 : Addr) (a3 : Addr) (p4 : Int32) (h0 : Heap) (n0 : Nat) (v : Option Value) (h : Heap) (L : List Loc) : Prop := v = none ∧ Fr n0 L ∧ Keep h0 h [a1] ∧ Exa Z h a1 "java/lang/String"
set_option maxRecDepth 65536 in
set_option maxHeartbeats 40000000 in
theorem rm_s5 (l : Launch) (Z : State) (a0 : Array Value) (hw : ∀ d ∈ tables_1, d.before a0 Z = true) (ws : List Jvm.Cond) (a1 : Addr) (a2 : Addr) (a3 : Addr) (p4 : Int32) (h0 : Heap) (n0 : Nat) (Z0 : n0 ≤ h0.size) (E_a1 : Exa Z h0 a1 "java/lang/String") (F_value_a1 : Fld Z h0 a1 "java/lang/String" "value" "[B" .null) (g_a1 : n0 ≤ a1) (F_coder_a1 : Fld Z h0 a1 "java/lang/String" "coder" "B" (.int (0 : Int32))) :
    MetFree l (⟨"java/lang/String", "<init>", "(Ljava/nio/charset/Charset;[BII)V"⟩ : MethodName) (head1 (Jvm.Cond.codeWith (⟨"java/lang/String", "<init>", "(Ljava/nio/charset/Charset;[BII)V"⟩ : MethodName) jdk_42_method_11_code 11 none [((800 : Nat), (813 : Nat), (816 : Nat), (202 : Nat))] :: ws) ({ frames := 1, cells := 4, slots := 8, locals := 12 } : Room)) (fun a U => a = #[(.ref a1), (.ref a2), (.ref a3), (.int p4), (.int (0 : Int32))] ∧ Z.Warmed39 U.vm ∧ U.heap = h0 ∧ CHv Z consts_1 U.vm h0) (fun _ _ _ _ _ => True) (fun _ U o U' => ∃ v L, o = .returned v ∧ Q_s5 Z a1 a2 a3 p4 h0 n0 v U'.heap L ∧ CHr Z consts_1 U.vm U.heap U'.vm U'.heap ∧ ReturnedEndW U o U' L ({ frames := 1, cells := 4, slots := 8, locals := 12 } : Room).cells ({ frames := 1, cells := 4, slots := 8, locals := 12 } : Room).slots) := by
  refine MetFree.of_bodySF (plainFor_of_name pn_java_lang_String) hisWith ?_
  intro p e s m args below meth c s₁ Bd hml0 hP hK
  obtain ⟨rfl, hZ, hh, CH0⟩ := hP
  have hx := Bd.exec
  have hby := Bd.bytes
  have hml : c.maxLocals = 11 := hml0
  have hown : s.vm.findClass "java/lang/String" = some m.cls := findClass_of_methodNamed Bd.named
  have hnm := (name_of_methodNamed Bd.named Bd.method).1
  have X0 : Stand p l e ({ frames := 1, cells := 4, slots := 8, locals := 12 } : Room) s m #[(.ref a1), (.ref a2), (.ref a3), (.int p4), (.int (0 : Int32))] below meth c s₁ [] 0 0 := Stand.of_body Bd
  have e0 : s₁.heap = h0 := by rw [← hh, Bd.state]; rfl
  have N0 := Fr.nil n0
  have hZ : Z.Warmed39 (s.setVm s.vm).vm := hZ
  have hown : (s.setVm s.vm).vm.findClass "java/lang/String" = some m.cls := hown
  have hZ0 := hZ
  have hown0 := hown
  have X0 : Stand p l e ({ frames := 1, cells := 4, slots := 8, locals := 12 } : Room) (s.setVm s.vm) m #[(.ref a1), (.ref a2), (.ref a3), (.int p4), (.int (0 : Int32))] below meth c s₁ [] 0 0 := X0
  have hS : s.Since s.vm h0.size := own_since s _
  have hk : h0.size ≤ h0.size := Nat.le_refl _
  have hEW := own_EW hw
  have CR : CHr Z consts_1 s.vm h0 s.vm h0 := CHr.refl CH0
  have S0_a1 : Safe Z consts_1 s.vm h0 a1 := own_safeS hZ.alike E_a1 F_value_a1
  have pre0 : ∀ t, Steps p.tables e below (s₁.setTop (mkF m 0 #[.val (.ref a1), .val (.ref a2), .val (.ref a3), .val (.int p4), .val (.int (0 : Int32)), .unset, .unset, .unset, .unset, .unset, .unset] [])) t → Steps p.tables e below (s₁.setTop (entryFrame m #[(.ref a1), (.ref a2), (.ref a3), (.int p4), (.int (0 : Int32))] 11)) t := fun t k => castTop (ef_11_RRRII m a1 a2 a3 p4 (0 : Int32)) k
  obtain ⟨T1, X1, e1, st1⟩ := initO X0 hx hZ hown (hw _ (List.mem_of_getElem? (i := 65) rfl)) (hw _ (List.mem_of_getElem? (i := 9) rfl)) (hw _ (List.mem_of_getElem? (i := 10) rfl)) e0 (g := (mkF m 1 #[.val (.ref a1), .val (.ref a2), .val (.ref a3), .val (.int p4), .val (.int (0 : Int32)), .unset, .unset, .unset, .unset, .unset, .unset] [(.ref a1)])) rfl (by rw [hml]; rfl) rfl (hb hby d11_1) (by decide) (W := 0) (by show 2 * 0 + _ ≤ _; exact Nat.le_of_eq rfl) (by decide)
  obtain ⟨b2, T2, h2, k2, v2, c2, X2, e2, E2, hS, hk, hZ, hown, Ex2, Fc2, Fv2, Av2, -, -, CR2, -, ns2, st2⟩ := ldcCH X1 hx hZ hown (hw _ (List.mem_of_getElem? (i := 66) rfl)) (own_wS hw) e1 hS hk hEW (List.mem_of_getElem? (i := 1) rfl) CR.1 (vs := []) (z := 0) ⟨by decide, rfl⟩ (by decide) rfl (g := (mkF m 10 #[.val (.ref a1), .val (.ref a2), .val (.ref a3), .val (.int p4), .val (.int (0 : Int32)), .unset, .unset, .unset, .unset, .unset, .unset] [(.ref a1)])) rfl (hb hby d11_10) (n := 0) (by decide) (by decide) (by decide) (by decide)
  have hZ2 := hZ
  have hown2 := hown
  have CR := CR.trans CR2
  have f3 : Exa Z h2 a1 "java/lang/String" := E_a1.ext E2
  have f4 : Fld Z h2 a1 "java/lang/String" "value" "[B" .null := F_value_a1.ext E2
  have f5 : Fld Z h2 a1 "java/lang/String" "coder" "B" (.int (0 : Int32)) := F_coder_a1.ext E2
  have K6 : Keep h0 h2 [a1] := (Keep.refl h0 [a1]).ext E2
  have Zs7 : n0 ≤ h2.size := Nat.le_trans Z0 E2.1
  have ne_a1_b2 : a1 ≠ b2 := (ns2 _ (CR.safe E_a1.lt S0_a1)).1
  have ne_a1_v2 : a1 ≠ v2 := (ns2 _ (CR.safe E_a1.lt S0_a1)).2
  obtain ⟨T8, X8, e8, st8⟩ := getF X2 hx hZ hown (host := "") (Or.inl (hw _ (List.mem_of_getElem? (i := 67) rfl))) Via.refl e2 Fv2 (g := (mkF m 12 #[.val (.ref a1), .val (.ref a2), .val (.ref a3), .val (.int p4), .val (.int (0 : Int32)), .unset, .unset, .unset, .unset, .unset, .unset] [(.ref b2), (.ref a1)])) rfl rfl (hb hby d11_12)
  obtain ⟨T9, h9, X9, e9, W9, st9⟩ := putF X8 hx hZ hown (host := "") (Or.inl (hw _ (List.mem_of_getElem? (i := 67) rfl))) Via.refl e8 f4 f3 (Or.inr ⟨(hw _ (List.mem_of_getElem? (i := 14) rfl)), rfl, hnm⟩) (hw _ (List.mem_of_getElem? (i := 13) rfl)) (ty := (.array .byte)) (by decide) rfl rfl (g := (mkF m 15 #[.val (.ref a1), .val (.ref a2), .val (.ref a3), .val (.int p4), .val (.int (0 : Int32)), .unset, .unset, .unset, .unset, .unset, .unset] [(.ref v2), (.ref a1)])) rfl rfl (hb hby d11_15)
  have f10 : Exa Z h9 a1 "java/lang/String" := f3.wr W9
  have f11 : Fld Z h9 a1 "java/lang/String" "value" "[B" (.ref v2) := f4.same W9
  have f12 : Fld Z h9 a1 "java/lang/String" "coder" "B" (.int (0 : Int32)) := f5.other W9 (Or.inr (slot_ne (Or.inr (hw _ (List.mem_of_getElem? (i := 15) rfl))) (Or.inr (hw _ (List.mem_of_getElem? (i := 14) rfl))) (by decide) (t := .byte) (t' := (.array .byte)) (by decide) (by decide)))
  have f13 : Exa Z h9 b2 "java/lang/String" := Ex2.wr W9
  have f14 : Fld Z h9 b2 "java/lang/String" "coder" "B" (.int (0 : Int32)) := Fc2.other W9 (Or.inl (Ne.symm ne_a1_b2))
  have f15 : Fld Z h9 b2 "java/lang/String" "value" "[B" (.ref v2) := Fv2.other W9 (Or.inl (Ne.symm ne_a1_b2))
  have K16 : Keep h0 h9 [a1] := K6.wr W9 (Or.inl (List.mem_of_getElem? (i := 0) rfl))
  have N17 := Fr.snoc X9 N0 g_a1
  have CR := CR.trans (CHr.wr W9 (CR.safe E_a1.lt S0_a1) CR.1)
  have hk : _ ≤ h9.size := Nat.le_trans hk (Keep.of_wr W9).1
  have Zs18 : n0 ≤ h9.size := Nat.le_trans Zs7 (Keep.of_wr W9).1
  obtain ⟨b19, T19, h19, k19, v19, c19, X19, e19, E19, hS, hk, hZ, hown, Ex19, Fc19, Fv19, Av19, -, -, CR19, -, ns19, st19⟩ := ldcCH X9 hx hZ hown (hw _ (List.mem_of_getElem? (i := 66) rfl)) (own_wS hw) e9 hS hk hEW (List.mem_of_getElem? (i := 1) rfl) CR.1 (vs := []) (z := 0) ⟨by decide, rfl⟩ (by decide) rfl (g := (mkF m 19 #[.val (.ref a1), .val (.ref a2), .val (.ref a3), .val (.int p4), .val (.int (0 : Int32)), .unset, .unset, .unset, .unset, .unset, .unset] [(.ref a1)])) rfl (hb hby d11_19) (n := 0) (by decide) (by decide) (by decide) (by decide)
  have hZ19 := hZ
  have hown19 := hown
  have CR := CR.trans CR19
  have f20 : Exa Z h19 a1 "java/lang/String" := f10.ext E19
  have f21 : Fld Z h19 a1 "java/lang/String" "value" "[B" (.ref v2) := f11.ext E19
  have f22 : Fld Z h19 a1 "java/lang/String" "coder" "B" (.int (0 : Int32)) := f12.ext E19
  have f23 : Exa Z h19 b2 "java/lang/String" := f13.ext E19
  have f24 : Fld Z h19 b2 "java/lang/String" "coder" "B" (.int (0 : Int32)) := f14.ext E19
  have f25 : Fld Z h19 b2 "java/lang/String" "value" "[B" (.ref v2) := f15.ext E19
  have K26 : Keep h0 h19 [a1] := K16.ext E19
  have Zs27 : n0 ≤ h19.size := Nat.le_trans Zs18 E19.1
  have ne_a1_b19 : a1 ≠ b19 := (ns19 _ (CR.safe E_a1.lt S0_a1)).1
  have ne_a1_v19 : a1 ≠ v19 := (ns19 _ (CR.safe E_a1.lt S0_a1)).2
  obtain ⟨T28, X28, e28, st28⟩ := getF X19 hx hZ hown (host := "") (Or.inl (hw _ (List.mem_of_getElem? (i := 68) rfl))) Via.refl e19 Fc19 (g := (mkF m 21 #[.val (.ref a1), .val (.ref a2), .val (.ref a3), .val (.int p4), .val (.int (0 : Int32)), .unset, .unset, .unset, .unset, .unset, .unset] [(.ref b19), (.ref a1)])) rfl rfl (hb hby d11_21)
  obtain ⟨T29, h29, X29, e29, W29, st29⟩ := putFN X28 hx hZ hown (hw _ (List.mem_of_getElem? (i := 68) rfl)) Via.refl e28 f22 f20 (Or.inr ⟨(hw _ (List.mem_of_getElem? (i := 15) rfl)), rfl, hnm⟩) (hw _ (List.mem_of_getElem? (i := 13) rfl)) (ty := .byte) (v' := (.int (0 : Int32))) (by decide) rfl (by decide) (g := (mkF m 24 #[.val (.ref a1), .val (.ref a2), .val (.ref a3), .val (.int p4), .val (.int (0 : Int32)), .unset, .unset, .unset, .unset, .unset, .unset] [(.int (0 : Int32)), (.ref a1)])) rfl rfl (hb hby d11_24)
  have f30 : Exa Z h29 a1 "java/lang/String" := f20.wr W29
  have f31 : Fld Z h29 a1 "java/lang/String" "value" "[B" (.ref v2) := f21.other W29 (Or.inr (slot_ne (Or.inr (hw _ (List.mem_of_getElem? (i := 14) rfl))) (Or.inr (hw _ (List.mem_of_getElem? (i := 15) rfl))) (by decide) (t := (.array .byte)) (t' := .byte) (by decide) (by decide)))
  have f32 : Fld Z h29 a1 "java/lang/String" "coder" "B" (.int (0 : Int32)) := f22.same W29
  have f33 : Exa Z h29 b2 "java/lang/String" := f23.wr W29
  have f34 : Fld Z h29 b2 "java/lang/String" "coder" "B" (.int (0 : Int32)) := f24.other W29 (Or.inl (Ne.symm ne_a1_b2))
  have f35 : Fld Z h29 b2 "java/lang/String" "value" "[B" (.ref v2) := f25.other W29 (Or.inl (Ne.symm ne_a1_b2))
  have f36 : Exa Z h29 b19 "java/lang/String" := Ex19.wr W29
  have f37 : Fld Z h29 b19 "java/lang/String" "coder" "B" (.int (0 : Int32)) := Fc19.other W29 (Or.inl (Ne.symm ne_a1_b19))
  have f38 : Fld Z h29 b19 "java/lang/String" "value" "[B" (.ref v19) := Fv19.other W29 (Or.inl (Ne.symm ne_a1_b19))
  have K39 : Keep h0 h29 [a1] := K26.wr W29 (Or.inl (List.mem_of_getElem? (i := 0) rfl))
  have N40 := Fr.snoc X29 N17 g_a1
  have CR := CR.trans (CHr.wr W29 (CR.safe E_a1.lt S0_a1) CR.1)
  have hk : _ ≤ h29.size := Nat.le_trans hk (Keep.of_wr W29).1
  have Zs41 : n0 ≤ h29.size := Nat.le_trans Zs27 (Keep.of_wr W29).1
  obtain ⟨fs, hr, hrun, hended, hRE⟩ := X29.leaveW hS (by rw [e29]; exact hk) (v := none) (fun _ => rfl) Bd.notSynchronized
  refine ⟨_, _, pre0 _ ?_, hrun, hended, _, _, rfl, ?_, ?_, hRE.1, hRE.2.1, hRE.2.2.1, hRE.2.2.2.mono (by decide) (by decide)⟩
  · show Steps p.tables e below (s₁.setTop (mkF m 0 #[.val (.ref a1), .val (.ref a2), .val (.ref a3), .val (.int p4), .val (.int (0 : Int32)), .unset, .unset, .unset, .unset, .unset, .unset] [])) _
    refine XS.aloadN X0.here hx rfl (hb hby d11_0) rfl rfl ?_
    show Steps p.tables e below (s₁.setTop (mkF m 1 #[.val (.ref a1), .val (.ref a2), .val (.ref a3), .val (.int p4), .val (.int (0 : Int32)), .unset, .unset, .unset, .unset, .unset, .unset] [(.ref a1)])) _
    refine st1 _ ?_
    show Steps p.tables e below (T1.setTop (mkF m 4 #[.val (.ref a1), .val (.ref a2), .val (.ref a3), .val (.int p4), .val (.int (0 : Int32)), .unset, .unset, .unset, .unset, .unset, .unset] [])) _
    refine XS.iload X1.here hx rfl (hb hby d11_4) rfl ?_
    show Steps p.tables e below (T1.setTop (mkF m 6 #[.val (.ref a1), .val (.ref a2), .val (.ref a3), .val (.int p4), .val (.int (0 : Int32)), .unset, .unset, .unset, .unset, .unset, .unset] [(.int (0 : Int32))])) _
    refine XS.ifNo X1.here hx rfl (hb hby d11_6) rfl ((if0 _ _).trans (teq (by decide : (0 : Int32) = (0 : Int32))).2) ?_
    show Steps p.tables e below (T1.setTop (mkF m 9 #[.val (.ref a1), .val (.ref a2), .val (.ref a3), .val (.int p4), .val (.int (0 : Int32)), .unset, .unset, .unset, .unset, .unset, .unset] [])) _
    refine XS.aloadN X1.here hx rfl (hb hby d11_9) rfl rfl ?_
    show Steps p.tables e below (T1.setTop (mkF m 10 #[.val (.ref a1), .val (.ref a2), .val (.ref a3), .val (.int p4), .val (.int (0 : Int32)), .unset, .unset, .unset, .unset, .unset, .unset] [(.ref a1)])) _
    refine st2 _ ?_
    show Steps p.tables e below (T2.setTop (mkF m 12 #[.val (.ref a1), .val (.ref a2), .val (.ref a3), .val (.int p4), .val (.int (0 : Int32)), .unset, .unset, .unset, .unset, .unset, .unset] [(.ref b2), (.ref a1)])) _
    refine st8 _ ?_
    show Steps p.tables e below (T8.setTop (mkF m 15 #[.val (.ref a1), .val (.ref a2), .val (.ref a3), .val (.int p4), .val (.int (0 : Int32)), .unset, .unset, .unset, .unset, .unset, .unset] [(.ref v2), (.ref a1)])) _
    refine st9 _ ?_
    show Steps p.tables e below (T9.setTop (mkF m 18 #[.val (.ref a1), .val (.ref a2), .val (.ref a3), .val (.int p4), .val (.int (0 : Int32)), .unset, .unset, .unset, .unset, .unset, .unset] [])) _
    refine XS.aloadN X9.here hx rfl (hb hby d11_18) rfl rfl ?_
    show Steps p.tables e below (T9.setTop (mkF m 19 #[.val (.ref a1), .val (.ref a2), .val (.ref a3), .val (.int p4), .val (.int (0 : Int32)), .unset, .unset, .unset, .unset, .unset, .unset] [(.ref a1)])) _
    refine st19 _ ?_
    show Steps p.tables e below (T19.setTop (mkF m 21 #[.val (.ref a1), .val (.ref a2), .val (.ref a3), .val (.int p4), .val (.int (0 : Int32)), .unset, .unset, .unset, .unset, .unset, .unset] [(.ref b19), (.ref a1)])) _
    refine st28 _ ?_
    show Steps p.tables e below (T28.setTop (mkF m 24 #[.val (.ref a1), .val (.ref a2), .val (.ref a3), .val (.int p4), .val (.int (0 : Int32)), .unset, .unset, .unset, .unset, .unset, .unset] [(.int (0 : Int32)), (.ref a1)])) _
    refine st29 _ ?_
    show Steps p.tables e below (T29.setTop (mkF m 27 #[.val (.ref a1), .val (.ref a2), .val (.ref a3), .val (.int p4), .val (.int (0 : Int32)), .unset, .unset, .unset, .unset, .unset, .unset] [])) _
    refine XS.goto X29.here hx rfl (pc0 := 27) (pc' := 879) rfl (hb hby d11_27) (by decide) (by decide) ?_
    show Steps p.tables e below (T29.setTop (mkF m 879 #[.val (.ref a1), .val (.ref a2), .val (.ref a3), .val (.int p4), .val (.int (0 : Int32)), .unset, .unset, .unset, .unset, .unset, .unset] [])) _
    exact X29.returnOut hx Bd.returns (hb hby d11_879) hr
  · show Q_s5 Z a1 a2 a3 p4 h0 n0 _ T29.heap _
    rw [e29]
    exact ⟨rfl, N40, K39, f30⟩
  · show CHr Z consts_1 s.vm s.heap T29.vm T29.heap
    rw [hh, e29]
    exact CR.trans (CHv.at X29 hZ hEW CR.1)
theorem pd_3 : parseMethodDescriptor "(Ljava/lang/Object;)Ljava/lang/Object;" = some ⟨[(.object "java/lang/Object")], some (.object "java/lang/Object")⟩ := by decide +kernel
theorem pd_4 : parseMethodDescriptor "(III)I" = some ⟨[.int, .int, .int], some .int⟩ := by decide +kernel
theorem pd_5 : parseMethodDescriptor "(Ljava/nio/charset/Charset;[BII)V" = some ⟨[(.object "java/nio/charset/Charset"), (.array .byte), .int, .int], none⟩ := by decide +kernel
theorem d7_0 : decode jdk_42_method_10_code 0 = .ok (.aload_n 0, 1) := by decide +kernel
theorem d7_1 : decode jdk_42_method_10_code 1 = .ok (.aload 4, 2) := by decide +kernel
theorem d7_3 : decode jdk_42_method_10_code 3 = .ok (.invokestatic 78, 3) := by decide +kernel
theorem d7_6 : decode jdk_42_method_10_code 6 = .ok (.checkcast 84, 3) := by decide +kernel
theorem d7_9 : decode jdk_42_method_10_code 9 = .ok (.aload_n 1, 1) := by decide +kernel
theorem d7_10 : decode jdk_42_method_10_code 10 = .ok (.iload_n 2, 1) := by decide +kernel
theorem d7_11 : decode jdk_42_method_10_code 11 = .ok (.iload_n 3, 1) := by decide +kernel
theorem d7_12 : decode jdk_42_method_10_code 12 = .ok (.aload_n 1, 1) := by decide +kernel
theorem d7_13 : decode jdk_42_method_10_code 13 = .ok (.arraylength, 1) := by decide +kernel
theorem d7_14 : decode jdk_42_method_10_code 14 = .ok (.invokestatic 34, 3) := by decide +kernel
theorem d7_17 : decode jdk_42_method_10_code 17 = .ok (.iload_n 3, 1) := by decide +kernel
theorem d7_18 : decode jdk_42_method_10_code 18 = .ok (.invokespecial 75, 3) := by decide +kernel
theorem d7_21 : decode jdk_42_method_10_code 21 = .ok (.return_, 1) := by decide +kernel
theorem ef_7_RRIIR (m : MethodId) (x0 : Addr) (x1 : Addr) (x2 : Int32) (x3 : Int32) (x4 : Addr) : entryFrame m #[(.ref x0), (.ref x1), (.int x2), (.int x3), (.ref x4)] 5 = mkF m 0 #[.val (.ref x0), .val (.ref x1), .val (.int x2), .val (.int x3), .val (.ref x4)] [] := by first | (simp [entryFrame, mkF, argsToLocals, Value.category]; done) | rfl
def Q_s4 (Z : State) (a1 : Addr) (a2 : Addr) (p3 : Int32) (a5 : Addr) (s_F : Value) (k_a2 : ClassId) (n_a2 : Int32) (vs_a2 : List Value) (h0 : Heap) (n0 : Nat) (v : Option Value) (h : Heap) (L : List Loc) : Prop := v = none ∧ Fr n0 L ∧ Keep h0 h [a1] ∧ Exa Z h a1 "java/lang/String"
set_option maxRecDepth 65536 in
set_option maxHeartbeats 40000000 in
theorem rm_s4 (l : Launch) (Z : State) (a0 : Array Value) (hw : ∀ d ∈ tables_1, d.before a0 Z = true) (ws : List Jvm.Cond) (a1 : Addr) (a2 : Addr) (p3 : Int32) (a5 : Addr) (s_F : Value) (k_a2 : ClassId) (n_a2 : Int32) (vs_a2 : List Value) (h0 : Heap) (n0 : Nat) (Z0 : n0 ≤ h0.size) (S_SIOOBE_FORMATTER : Sta Z h0 "jdk/internal/util/Preconditions" "SIOOBE_FORMATTER" "Ljava/util/function/BiFunction;" s_F) (hsr : s_F.isRef = true) (E_a5 : Exa Z h0 a5 "sun/nio/cs/ISO_8859_1") (V_a2 : Arv Z h0 a2 k_a2 .byte n_a2 vs_a2 (.int (0 : Int32))) (E_a1 : Exa Z h0 a1 "java/lang/String") (F_value_a1 : Fld Z h0 a1 "java/lang/String" "value" "[B" .null) (g_a1 : n0 ≤ a1) (F_coder_a1 : Fld Z h0 a1 "java/lang/String" "coder" "B" (.int (0 : Int32))) (ne_a2_a1 : a2 ≠ a1) (hp1 : ¬ (((n_a2 ||| p3) ||| (0 : Int32)) < (0 : Int32))) (hp2 : ¬ ((n_a2 - p3) < (0 : Int32))) :
    MetFree l (⟨"java/lang/String", "<init>", "([BIILjava/nio/charset/Charset;)V"⟩ : MethodName) (head1 (Jvm.Cond.code (⟨"java/lang/String", "<init>", "([BIILjava/nio/charset/Charset;)V"⟩ : MethodName) jdk_42_method_10_code 5 none :: ws) ({ frames := 2, cells := 4, slots := 8, locals := 34 } : Room)) (fun a U => a = #[(.ref a1), (.ref a2), (.int p3), (.int (0 : Int32)), (.ref a5)] ∧ Z.Warmed39 U.vm ∧ U.heap = h0 ∧ CHv Z consts_1 U.vm h0) (fun _ _ _ _ _ => True) (fun _ U o U' => ∃ v L, o = .returned v ∧ Q_s4 Z a1 a2 p3 a5 s_F k_a2 n_a2 vs_a2 h0 n0 v U'.heap L ∧ CHr Z consts_1 U.vm U.heap U'.vm U'.heap ∧ ReturnedEndW U o U' L ({ frames := 2, cells := 4, slots := 8, locals := 34 } : Room).cells ({ frames := 2, cells := 4, slots := 8, locals := 34 } : Room).slots) := by
  refine MetFree.of_bodySF (plainFor_of_name pn_java_lang_String) hisR ?_
  intro p e s m args below meth c s₁ Bd hml0 hP hK
  obtain ⟨rfl, hZ, hh, CH0⟩ := hP
  have hx := Bd.exec
  have hby := Bd.bytes
  have hml : c.maxLocals = 5 := hml0
  have hown : s.vm.findClass "java/lang/String" = some m.cls := findClass_of_methodNamed Bd.named
  have hnm := (name_of_methodNamed Bd.named Bd.method).1
  have X0 : Stand p l e ({ frames := 2, cells := 4, slots := 8, locals := 34 } : Room) s m #[(.ref a1), (.ref a2), (.int p3), (.int (0 : Int32)), (.ref a5)] below meth c s₁ [] 0 0 := Stand.of_body Bd
  have e0 : s₁.heap = h0 := by rw [← hh, Bd.state]; rfl
  have N0 := Fr.nil n0
  have hZ : Z.Warmed39 (s.setVm s.vm).vm := hZ
  have hown : (s.setVm s.vm).vm.findClass "java/lang/String" = some m.cls := hown
  have hZ0 := hZ
  have hown0 := hown
  have X0 : Stand p l e ({ frames := 2, cells := 4, slots := 8, locals := 34 } : Room) (s.setVm s.vm) m #[(.ref a1), (.ref a2), (.int p3), (.int (0 : Int32)), (.ref a5)] below meth c s₁ [] 0 0 := X0
  have hS : s.Since s.vm h0.size := own_since s _
  have hk : h0.size ≤ h0.size := Nat.le_refl _
  have hEW := own_EW hw
  have CR : CHr Z consts_1 s.vm h0 s.vm h0 := CHr.refl CH0
  have pre0 : ∀ t, Steps p.tables e below (s₁.setTop (mkF m 0 #[.val (.ref a1), .val (.ref a2), .val (.int p3), .val (.int (0 : Int32)), .val (.ref a5)] [])) t → Steps p.tables e below (s₁.setTop (entryFrame m #[(.ref a1), (.ref a2), (.int p3), (.int (0 : Int32)), (.ref a5)] 5)) t := fun t k => castTop (ef_7_RRIIR m a1 a2 p3 (0 : Int32) a5) k
  obtain ⟨_, _, ⟨T1, L1, k1, n1⟩, -, X1, ⟨Lc1, hQ1, l1, y1, z1⟩, st1⟩ := Jvm.LawKit.callS X0 hx (y := (⟨"java/util/Objects", "requireNonNull", "(Ljava/lang/Object;)Ljava/lang/Object;"⟩ : MethodName)) hown (mvT hZ (hw _ (List.mem_of_getElem? (i := 48) rfl))) (mvT hZ (hw _ (List.mem_of_getElem? (i := 49) rfl))) (mvT hZ (hw _ (List.mem_of_getElem? (i := 20) rfl))) (mvT hZ (hw _ (List.mem_of_getElem? (i := 50) rfl))) (by decide) (backOf (W := 1) (rm_rn1 l Z a0 hw [] a5 h0 n0 Z0 ) hZ (hw _ (List.mem_of_getElem? (i := 50) rfl)) (hw _ (List.mem_of_getElem? (i := 20) rfl)) (by decide) (by decide)) (g := (mkF m 3 #[.val (.ref a1), .val (.ref a2), .val (.int p3), .val (.int (0 : Int32)), .val (.ref a5)] [(.ref a5), (.ref a1)])) rfl (by rw [hml]; rfl) (argsL := [(.ref a5)]) (rest := [(.ref a1)]) (lenOf pd_3 rfl) rfl (by show 2 * 0 + _ ≤ _; exact Nat.le_of_eq rfl) (hb hby d7_3) (fun _ _ => ⟨rfl, e0, (by decide : 0 + 0 ≤ _), (by decide : 0 + 0 ≤ _)⟩)
  dsimp only [Pt.U, Pt.locs, Pt.cells, Pt.slots] at X1 l1 y1 z1 st1 hQ1
  subst l1 y1 z1
  obtain ⟨rfl, Nq1, e1⟩ := hQ1
  have N2 := Fr.app N0 Nq1
  obtain ⟨T3, X3, e3, st3⟩ := castY X1 hx hZ hown (hw _ (List.mem_of_getElem? (i := 51) rfl)) e1 (Ins.of_exa E_a5 (hw _ (List.mem_of_getElem? (i := 52) rfl))) (g := (mkF m 6 #[.val (.ref a1), .val (.ref a2), .val (.int p3), .val (.int (0 : Int32)), .val (.ref a5)] [(.ref a5), (.ref a1)])) rfl rfl (hb hby d7_6)
  obtain ⟨clo4, Aro4, -, So4, No4, -, -⟩ := id V_a2
  obtain ⟨_, _, ⟨T5, L5, k5, n5⟩, -, X5, ⟨Lc5, hQ5, l5, y5, z5⟩, st5⟩ := Jvm.LawKit.callS X3 hx (y := (⟨"java/lang/String", "checkBoundsOffCount", "(III)I"⟩ : MethodName)) hown (mvT hZ (hw _ (List.mem_of_getElem? (i := 53) rfl))) (mvT hZ (hw _ (List.mem_of_getElem? (i := 54) rfl))) (mvT hZ (hw _ (List.mem_of_getElem? (i := 12) rfl))) (mvT hZ (hw _ (List.mem_of_getElem? (i := 55) rfl))) (by decide) (backOf (W := 3) (rm_cb l Z a0 hw [] p3 n_a2 s_F h0 n0 Z0 S_SIOOBE_FORMATTER hsr hp1 hp2) hZ (hw _ (List.mem_of_getElem? (i := 55) rfl)) (hw _ (List.mem_of_getElem? (i := 12) rfl)) (by decide) (by decide)) (g := (mkF m 14 #[.val (.ref a1), .val (.ref a2), .val (.int p3), .val (.int (0 : Int32)), .val (.ref a5)] [(.int n_a2), (.int (0 : Int32)), (.int p3), (.ref a2), (.ref a5), (.ref a1)])) rfl (by rw [hml]; rfl) (argsL := [(.int p3), (.int (0 : Int32)), (.int n_a2)]) (rest := [(.ref a2), (.ref a5), (.ref a1)]) (lenOf pd_4 rfl) rfl (by show 2 * 0 + _ ≤ _; exact Nat.le_of_eq rfl) (hb hby d7_14) (fun _ _ => ⟨rfl, e3, (by decide : 0 + 0 ≤ _), (by decide : 0 + 0 ≤ _)⟩)
  dsimp only [Pt.U, Pt.locs, Pt.cells, Pt.slots] at X5 l5 y5 z5 st5 hQ5
  subst l5 y5 z5
  obtain ⟨rfl, Nq5, e5⟩ := hQ5
  have N6 := Fr.app N2 Nq5
  obtain ⟨_, T7, Lc7, X7, hS, hk, hZ', hown', hQ7, CR7, st7⟩ := own_initW X5 hx (W := 0) (rm_s5 l Z a0 hw [] a1 a5 a2 p3 h0 n0 Z0 E_a1 F_value_a1 g_a1 F_coder_a1) hZ hown rfl (by decide) (hw _ (List.mem_of_getElem? (i := 61) rfl)) (hw _ (List.mem_of_getElem? (i := 62) rfl)) (hw _ (List.mem_of_getElem? (i := 64) rfl)) (hw _ (List.mem_of_getElem? (i := 12) rfl)) (by decide) (by decide) (by decide : 0 + 4 ≤ _) (by decide : 0 + 8 ≤ _) hEW CR.1 e5 (g := (mkF m 18 #[.val (.ref a1), .val (.ref a2), .val (.int p3), .val (.int (0 : Int32)), .val (.ref a5)] [(.int (0 : Int32)), (.int p3), (.ref a2), (.ref a5), (.ref a1)])) rfl (by rw [hml]; rfl) (lenOf pd_5 rfl) (rest := []) rfl (by show 2 * 0 + _ ≤ _; exact Nat.le_of_eq rfl) (hb hby d7_18) hS hk
  have hZ := hZ'
  have hown := hown'
  have hZ7 := hZ
  have hown7 := hown
  have hk : _ ≤ T7.heap.size := Nat.le_refl _
  have CR := CR.trans CR7
  obtain ⟨rfl, Nq7, Kc7, fq7_0⟩ := hQ7
  have ne_a5_a1 : a5 ≠ a1 := ne_exa E_a5 E_a1 (by decide)
  have f9 : Sta Z T7.heap "jdk/internal/util/Preconditions" "SIOOBE_FORMATTER" "Ljava/util/function/BiFunction;" s_F := own_sta_keep S_SIOOBE_FORMATTER Kc7 (allS (own_plain_cell E_a1) all0)
  have f10 : Exa Z T7.heap a5 "sun/nio/cs/ISO_8859_1" := E_a5.keep Kc7
  have f11 : Arv Z T7.heap a2 k_a2 .byte n_a2 vs_a2 (.int (0 : Int32)) := V_a2.keep Kc7 (ninS ne_a2_a1 nin0)
  have K12 : Keep h0 T7.heap [a1] := (Keep.refl h0 [a1]).trans Kc7 (allS (Or.inl (List.mem_of_getElem? (i := 0) rfl)) all0)
  have Zs13 : n0 ≤ T7.heap.size := Nat.le_trans Z0 Kc7.1
  have N8 := Fr.app N6 Nq7
  obtain ⟨fs, hr, hrun, hended, hRE⟩ := X7.leaveW hS hk (v := none) (fun _ => rfl) Bd.notSynchronized
  refine ⟨_, _, pre0 _ ?_, hrun, hended, _, _, rfl, ?_, ?_, hRE.1, hRE.2.1, hRE.2.2.1, hRE.2.2.2.mono (by decide) (by decide)⟩
  · show Steps p.tables e below (s₁.setTop (mkF m 0 #[.val (.ref a1), .val (.ref a2), .val (.int p3), .val (.int (0 : Int32)), .val (.ref a5)] [])) _
    refine XS.aloadN X0.here hx rfl (hb hby d7_0) rfl rfl ?_
    refine XS.aload X0.here hx rfl (hb hby d7_1) rfl rfl ?_
    show Steps p.tables e below (s₁.setTop (mkF m 3 #[.val (.ref a1), .val (.ref a2), .val (.int p3), .val (.int (0 : Int32)), .val (.ref a5)] [(.ref a5), (.ref a1)])) _
    refine st1 _ ?_
    show Steps p.tables e below (T1.setTop (mkF m 6 #[.val (.ref a1), .val (.ref a2), .val (.int p3), .val (.int (0 : Int32)), .val (.ref a5)] [(.ref a5), (.ref a1)])) _
    refine st3 _ ?_
    show Steps p.tables e below (T3.setTop (mkF m 9 #[.val (.ref a1), .val (.ref a2), .val (.int p3), .val (.int (0 : Int32)), .val (.ref a5)] [(.ref a5), (.ref a1)])) _
    refine XS.aloadN X3.here hx rfl (hb hby d7_9) rfl rfl ?_
    refine XS.iloadN X3.here hx rfl (hb hby d7_10) rfl ?_
    refine XS.iloadN X3.here hx rfl (hb hby d7_11) rfl ?_
    refine XS.aloadN X3.here hx rfl (hb hby d7_12) rfl rfl ?_
    show Steps p.tables e below (T3.setTop (mkF m 13 #[.val (.ref a1), .val (.ref a2), .val (.int p3), .val (.int (0 : Int32)), .val (.ref a5)] [(.ref a2), (.int (0 : Int32)), (.int p3), (.ref a2), (.ref a5), (.ref a1)])) _
    refine X3.arraylength hx (by rw [e3]; exact Aro4.1) (State.isArrayOf_alike hZ0.alike Aro4.2.1) (g := (mkF m 13 #[.val (.ref a1), .val (.ref a2), .val (.int p3), .val (.int (0 : Int32)), .val (.ref a5)] [(.ref a2), (.int (0 : Int32)), (.int p3), (.ref a2), (.ref a5), (.ref a1)])) rfl rfl (hb hby d7_13) _ ?_
    rw [len_of So4 No4]
    show Steps p.tables e below (T3.setTop (mkF m 14 #[.val (.ref a1), .val (.ref a2), .val (.int p3), .val (.int (0 : Int32)), .val (.ref a5)] [(.int n_a2), (.int (0 : Int32)), (.int p3), (.ref a2), (.ref a5), (.ref a1)])) _
    refine st5 _ ?_
    show Steps p.tables e below (T5.setTop (mkF m 17 #[.val (.ref a1), .val (.ref a2), .val (.int p3), .val (.int (0 : Int32)), .val (.ref a5)] [(.int p3), (.ref a2), (.ref a5), (.ref a1)])) _
    refine XS.iloadN X5.here hx rfl (hb hby d7_17) rfl ?_
    show Steps p.tables e below (T5.setTop (mkF m 18 #[.val (.ref a1), .val (.ref a2), .val (.int p3), .val (.int (0 : Int32)), .val (.ref a5)] [(.int (0 : Int32)), (.int p3), (.ref a2), (.ref a5), (.ref a1)])) _
    refine st7.trans ?_
    show Steps p.tables e below (T7.setTop (mkF m 21 #[.val (.ref a1), .val (.ref a2), .val (.int p3), .val (.int (0 : Int32)), .val (.ref a5)] [])) _
    exact X7.returnOut hx Bd.returns (hb hby d7_21) hr
  · show Q_s4 Z a1 a2 p3 a5 s_F k_a2 n_a2 vs_a2 h0 n0 _ T7.heap _
    exact ⟨rfl, N8, K12, fq7_0⟩
  · show CHr Z consts_1 s.vm s.heap T7.vm T7.heap
    rw [hh]
    exact CR.trans (CHv.at X7 hZ hEW CR.1)
theorem pd_6 : parseMethodDescriptor "([BIILjava/nio/charset/Charset;)V" = some ⟨[(.array .byte), .int, .int, (.object "java/nio/charset/Charset")], none⟩ := by decide +kernel
theorem d6_0 : decode prog_48_method_2_code 0 = .ok (.aload_n 0, 1) := by decide +kernel
theorem d6_1 : decode prog_48_method_2_code 1 = .ok (.getfield 21, 3) := by decide +kernel
theorem d6_4 : decode prog_48_method_2_code 4 = .ok (.istore_n 1, 1) := by decide +kernel
theorem d6_5 : decode prog_48_method_2_code 5 = .ok (.iload_n 1, 1) := by decide +kernel
theorem d6_6 : decode prog_48_method_2_code 6 = .ok (.aload_n 0, 1) := by decide +kernel
theorem d6_7 : decode prog_48_method_2_code 7 = .ok (.getfield 17, 3) := by decide +kernel
theorem d6_10 : decode prog_48_method_2_code 10 = .ok (.arraylength, 1) := by decide +kernel
theorem d6_11 : decode prog_48_method_2_code 11 = .ok (.if_icmp .ge 18, 3) := by decide +kernel
theorem d6_14 : decode prog_48_method_2_code 14 = .ok (.aload_n 0, 1) := by decide +kernel
theorem d6_15 : decode prog_48_method_2_code 15 = .ok (.getfield 17, 3) := by decide +kernel
theorem d6_18 : decode prog_48_method_2_code 18 = .ok (.iload_n 1, 1) := by decide +kernel
theorem d6_19 : decode prog_48_method_2_code 19 = .ok (.baload, 1) := by decide +kernel
theorem d6_20 : decode prog_48_method_2_code 20 = .ok (.ifCond .le 9, 3) := by decide +kernel
theorem d6_29 : decode prog_48_method_2_code 29 = .ok (.iload_n 1, 1) := by decide +kernel
theorem d6_30 : decode prog_48_method_2_code 30 = .ok (.iconst 1, 1) := by decide +kernel
theorem d6_31 : decode prog_48_method_2_code 31 = .ok (.iadd, 1) := by decide +kernel
theorem d6_32 : decode prog_48_method_2_code 32 = .ok (.aload_n 0, 1) := by decide +kernel
theorem d6_33 : decode prog_48_method_2_code 33 = .ok (.getfield 17, 3) := by decide +kernel
theorem d6_36 : decode prog_48_method_2_code 36 = .ok (.arraylength, 1) := by decide +kernel
theorem d6_37 : decode prog_48_method_2_code 37 = .ok (.if_icmp .ge 58, 3) := by decide +kernel
theorem d6_40 : decode prog_48_method_2_code 40 = .ok (.aload_n 0, 1) := by decide +kernel
theorem d6_41 : decode prog_48_method_2_code 41 = .ok (.getfield 17, 3) := by decide +kernel
theorem d6_44 : decode prog_48_method_2_code 44 = .ok (.iload_n 1, 1) := by decide +kernel
theorem d6_45 : decode prog_48_method_2_code 45 = .ok (.baload, 1) := by decide +kernel
theorem d6_46 : decode prog_48_method_2_code 46 = .ok (.ifCond .ne 49, 3) := by decide +kernel
theorem d6_49 : decode prog_48_method_2_code 49 = .ok (.aload_n 0, 1) := by decide +kernel
theorem d6_50 : decode prog_48_method_2_code 50 = .ok (.getfield 17, 3) := by decide +kernel
theorem d6_53 : decode prog_48_method_2_code 53 = .ok (.iload_n 1, 1) := by decide +kernel
theorem d6_54 : decode prog_48_method_2_code 54 = .ok (.iconst 1, 1) := by decide +kernel
theorem d6_55 : decode prog_48_method_2_code 55 = .ok (.iadd, 1) := by decide +kernel
theorem d6_56 : decode prog_48_method_2_code 56 = .ok (.baload, 1) := by decide +kernel
theorem d6_57 : decode prog_48_method_2_code 57 = .ok (.ifCond .ne 38, 3) := by decide +kernel
theorem d6_60 : decode prog_48_method_2_code 60 = .ok (.new 25, 3) := by decide +kernel
theorem d6_63 : decode prog_48_method_2_code 63 = .ok (.dup, 1) := by decide +kernel
theorem d6_64 : decode prog_48_method_2_code 64 = .ok (.aload_n 0, 1) := by decide +kernel
theorem d6_65 : decode prog_48_method_2_code 65 = .ok (.getfield 17, 3) := by decide +kernel
theorem d6_68 : decode prog_48_method_2_code 68 = .ok (.aload_n 0, 1) := by decide +kernel
theorem d6_69 : decode prog_48_method_2_code 69 = .ok (.getfield 21, 3) := by decide +kernel
theorem d6_72 : decode prog_48_method_2_code 72 = .ok (.iload_n 1, 1) := by decide +kernel
theorem d6_73 : decode prog_48_method_2_code 73 = .ok (.aload_n 0, 1) := by decide +kernel
theorem d6_74 : decode prog_48_method_2_code 74 = .ok (.getfield 21, 3) := by decide +kernel
theorem d6_77 : decode prog_48_method_2_code 77 = .ok (.isub, 1) := by decide +kernel
theorem d6_78 : decode prog_48_method_2_code 78 = .ok (.getstatic 27, 3) := by decide +kernel
theorem d6_81 : decode prog_48_method_2_code 81 = .ok (.invokespecial 33, 3) := by decide +kernel
theorem d6_84 : decode prog_48_method_2_code 84 = .ok (.astore_n 2, 1) := by decide +kernel
theorem d6_85 : decode prog_48_method_2_code 85 = .ok (.aload_n 0, 1) := by decide +kernel
theorem d6_86 : decode prog_48_method_2_code 86 = .ok (.iload_n 1, 1) := by decide +kernel
theorem d6_87 : decode prog_48_method_2_code 87 = .ok (.iconst 2, 1) := by decide +kernel
theorem d6_88 : decode prog_48_method_2_code 88 = .ok (.iadd, 1) := by decide +kernel
theorem d6_89 : decode prog_48_method_2_code 89 = .ok (.putfield 21, 3) := by decide +kernel
theorem d6_92 : decode prog_48_method_2_code 92 = .ok (.goto 8, 3) := by decide +kernel
theorem d6_100 : decode prog_48_method_2_code 100 = .ok (.aload_n 2, 1) := by decide +kernel
theorem d6_101 : decode prog_48_method_2_code 101 = .ok (.areturn, 1) := by decide +kernel
theorem ef_6_R (m : MethodId) (x0 : Addr) : entryFrame m #[(.ref x0)] 3 = mkF m 0 #[.val (.ref x0), .unset, .unset] [] := by first | (simp [entryFrame, mkF, argsToLocals, Value.category]; done) | rfl
def Q_rstr (Z : State) (a1 : Addr) (s_F : Value) (s_C : Addr) (w_position_a1 : Int32) (w_key_a1 : Addr) (k_w_key_a1 : ClassId) (n_w_key_a1 : Int32) (vs_w_key_a1 : List Value) (h0 : Heap) (n0 : Nat) (v : Option Value) (h : Heap) (L : List Loc) : Prop := ∃ (o1 : Addr), v = some (.ref o1) ∧ Fr n0 L ∧ n0 ≤ o1 ∧ h0.size ≤ o1 ∧ Keep h0 h [a1] ∧ Fld Z h a1 "com/example/fieldstone/fieldstone/core/KeyReader" "position" "I" (.int (w_position_a1 + (2 : Int32))) ∧ Fld Z h a1 "com/example/fieldstone/fieldstone/core/KeyReader" "key" "[B" (.ref w_key_a1) ∧ Exa Z h a1 "com/example/fieldstone/fieldstone/core/KeyReader" ∧ Exa Z h o1 "java/lang/String"
set_option maxRecDepth 65536 in
set_option maxHeartbeats 40000000 in
theorem rm_rstr (l : Launch) (Z : State) (a0 : Array Value) (hw : ∀ d ∈ tables_1, d.before a0 Z = true) (ws : List Jvm.Cond) (a1 : Addr) (s_F : Value) (s_C : Addr) (w_position_a1 : Int32) (w_key_a1 : Addr) (k_w_key_a1 : ClassId) (n_w_key_a1 : Int32) (vs_w_key_a1 : List Value) (h0 : Heap) (n0 : Nat) (Z0 : n0 ≤ h0.size) (S_SIOOBE_FORMATTER : Sta Z h0 "jdk/internal/util/Preconditions" "SIOOBE_FORMATTER" "Ljava/util/function/BiFunction;" s_F) (hsr : s_F.isRef = true) (S_ISO_8859_1 : Sta Z h0 "java/nio/charset/StandardCharsets" "ISO_8859_1" "Ljava/nio/charset/Charset;" (.ref s_C)) (E_s_C : Exa Z h0 s_C "sun/nio/cs/ISO_8859_1") (F_position_a1 : Fld Z h0 a1 "com/example/fieldstone/fieldstone/core/KeyReader" "position" "I" (.int w_position_a1)) (F_key_a1 : Fld Z h0 a1 "com/example/fieldstone/fieldstone/core/KeyReader" "key" "[B" (.ref w_key_a1)) (V_w_key_a1 : Arv Z h0 w_key_a1 k_w_key_a1 .byte n_w_key_a1 vs_w_key_a1 (.int (0 : Int32))) (E_a1 : Exa Z h0 a1 "com/example/fieldstone/fieldstone/core/KeyReader") (g_a1 : n0 ≤ a1) (ne_w_key_a1_a1 : w_key_a1 ≠ a1) (hp1 : w_position_a1 < n_w_key_a1) (hp2 : ¬ (w_position_a1 < (0 : Int32))) (hp3 : ¬ ((0 : Int32) < (own_at vs_w_key_a1 (w_position_a1).toNatClampNeg (.int (0 : Int32))))) (hp4 : (w_position_a1 + (1 : Int32)) < n_w_key_a1) (hp5 : (own_at vs_w_key_a1 (w_position_a1).toNatClampNeg (.int (0 : Int32))) = (0 : Int32)) (hp6 : ¬ ((w_position_a1 + (1 : Int32)) < (0 : Int32))) (hp7 : (own_at vs_w_key_a1 ((w_position_a1 + (1 : Int32))).toNatClampNeg (.int (0 : Int32))) = (0 : Int32)) (hw_8 : (w_position_a1 - w_position_a1) = (0 : Int32)) (hp9 : ¬ (((n_w_key_a1 ||| w_position_a1) ||| (0 : Int32)) < (0 : Int32))) (hp10 : ¬ ((n_w_key_a1 - w_position_a1) < (0 : Int32))) :
    MetFree l (⟨"com/example/fieldstone/fieldstone/core/KeyReader", "readString", "()Ljava/lang/String;"⟩ : MethodName) (head1 (Jvm.Cond.code (⟨"com/example/fieldstone/fieldstone/core/KeyReader", "readString", "()Ljava/lang/String;"⟩ : MethodName) prog_48_method_2_code 3 (some (.object "java/lang/String")) :: ws) ({ frames := 3, cells := 5, slots := 12, locals := 51 } : Room)) (fun a U => a = #[(.ref a1)] ∧ Z.Warmed39 U.vm ∧ U.heap = h0 ∧ CHv Z consts_1 U.vm h0) (fun _ _ _ _ _ => True) (fun _ U o U' => ∃ v L, o = .returned v ∧ Q_rstr Z a1 s_F s_C w_position_a1 w_key_a1 k_w_key_a1 n_w_key_a1 vs_w_key_a1 h0 n0 v U'.heap L ∧ CHr Z consts_1 U.vm U.heap U'.vm U'.heap ∧ ReturnedEndW U o U' L ({ frames := 3, cells := 5, slots := 12, locals := 51 } : Room).cells ({ frames := 3, cells := 5, slots := 12, locals := 51 } : Room).slots) := by
  refine MetFree.of_bodySF (plainFor_of_name pn_com_example_fieldstone_fieldstone_core_KeyReader) hisR ?_
  intro p e s m args below meth c s₁ Bd hml0 hP hK
  obtain ⟨rfl, hZ, hh, CH0⟩ := hP
  have hx := Bd.exec
  have hby := Bd.bytes
  have hml : c.maxLocals = 3 := hml0
  have hown : s.vm.findClass "com/example/fieldstone/fieldstone/core/KeyReader" = some m.cls := findClass_of_methodNamed Bd.named
  have hnm := (name_of_methodNamed Bd.named Bd.method).1
  have X0 : Stand p l e ({ frames := 3, cells := 5, slots := 12, locals := 51 } : Room) s m #[(.ref a1)] below meth c s₁ [] 0 0 := Stand.of_body Bd
  have e0 : s₁.heap = h0 := by rw [← hh, Bd.state]; rfl
  have N0 := Fr.nil n0
  have hZ : Z.Warmed39 (s.setVm s.vm).vm := hZ
  have hown : (s.setVm s.vm).vm.findClass "com/example/fieldstone/fieldstone/core/KeyReader" = some m.cls := hown
  have hZ0 := hZ
  have hown0 := hown
  have X0 : Stand p l e ({ frames := 3, cells := 5, slots := 12, locals := 51 } : Room) (s.setVm s.vm) m #[(.ref a1)] below meth c s₁ [] 0 0 := X0
  have hS : s.Since s.vm h0.size := own_since s _
  have hk : h0.size ≤ h0.size := Nat.le_refl _
  have hEW := own_EW hw
  have CR : CHr Z consts_1 s.vm h0 s.vm h0 := CHr.refl CH0
  have S0_a1 : Safe Z consts_1 s.vm h0 a1 := Safe.exa hZ.alike E_a1 (by decide) (by decide)
  have pre0 : ∀ t, Steps p.tables e below (s₁.setTop (mkF m 0 #[.val (.ref a1), .unset, .unset] [])) t → Steps p.tables e below (s₁.setTop (entryFrame m #[(.ref a1)] 3)) t := fun t k => castTop (ef_6_R m a1) k
  obtain ⟨T1, X1, e1, st1⟩ := getF X0 hx hZ hown (host := "") (Or.inl (hw _ (List.mem_of_getElem? (i := 31) rfl))) Via.refl e0 F_position_a1 (g := (mkF m 1 #[.val (.ref a1), .unset, .unset] [(.ref a1)])) rfl rfl (hb hby d6_1)
  obtain ⟨T2, X2, e2, st2⟩ := getF X1 hx hZ hown (host := "") (Or.inl (hw _ (List.mem_of_getElem? (i := 24) rfl))) Via.refl e1 F_key_a1 (g := (mkF m 7 #[.val (.ref a1), .val (.int w_position_a1), .unset] [(.ref a1), (.int w_position_a1)])) rfl rfl (hb hby d6_7)
  obtain ⟨clo3, Aro3, -, So3, No3, -, -⟩ := id V_w_key_a1
  obtain ⟨T4, X4, e4, st4⟩ := getF X2 hx hZ hown (host := "") (Or.inl (hw _ (List.mem_of_getElem? (i := 24) rfl))) Via.refl e2 F_key_a1 (g := (mkF m 15 #[.val (.ref a1), .val (.int w_position_a1), .unset] [(.ref a1)])) rfl rfl (hb hby d6_15)
  obtain ⟨clo5, Aro5, qo5, So5, No5, Ho5, Go5⟩ := id V_w_key_a1
  have hino5 : ¬ (w_position_a1 < 0 ∨ clo5.slots.size ≤ (w_position_a1).toNatClampNeg) := inb_of So5 ⟨hp2, hp1⟩
  obtain ⟨T6, X6, e6, st6⟩ := getF X4 hx hZ hown (host := "") (Or.inl (hw _ (List.mem_of_getElem? (i := 24) rfl))) Via.refl e4 F_key_a1 (g := (mkF m 33 #[.val (.ref a1), .val (.int w_position_a1), .unset] [(.ref a1), (.int (w_position_a1 + (1 : Int32)))])) rfl rfl (hb hby d6_33)
  obtain ⟨clo7, Aro7, -, So7, No7, -, -⟩ := id V_w_key_a1
  obtain ⟨T8, X8, e8, st8⟩ := getF X6 hx hZ hown (host := "") (Or.inl (hw _ (List.mem_of_getElem? (i := 24) rfl))) Via.refl e6 F_key_a1 (g := (mkF m 41 #[.val (.ref a1), .val (.int w_position_a1), .unset] [(.ref a1)])) rfl rfl (hb hby d6_41)
  obtain ⟨clo9, Aro9, qo9, So9, No9, Ho9, Go9⟩ := id V_w_key_a1
  have hino9 : ¬ (w_position_a1 < 0 ∨ clo9.slots.size ≤ (w_position_a1).toNatClampNeg) := inb_of So9 ⟨hp2, hp1⟩
  obtain ⟨T10, X10, e10, st10⟩ := getF X8 hx hZ hown (host := "") (Or.inl (hw _ (List.mem_of_getElem? (i := 24) rfl))) Via.refl e8 F_key_a1 (g := (mkF m 50 #[.val (.ref a1), .val (.int w_position_a1), .unset] [(.ref a1)])) rfl rfl (hb hby d6_50)
  obtain ⟨clo11, Aro11, qo11, So11, No11, Ho11, Go11⟩ := id V_w_key_a1
  have hino11 : ¬ ((w_position_a1 + (1 : Int32)) < 0 ∨ clo11.slots.size ≤ ((w_position_a1 + (1 : Int32))).toNatClampNeg) := inb_of So11 ⟨hp6, hp4⟩
  obtain ⟨T12, h12, X12, e12, E12, A12, D12, -, st12⟩ := newO X10 hx hZ hown (hw _ (List.mem_of_getElem? (i := 42) rfl)) (hw _ (List.mem_of_getElem? (i := 13) rfl)) (hw _ (List.mem_of_getElem? (i := 12) rfl)) e10 (g := (mkF m 60 #[.val (.ref a1), .val (.int w_position_a1), .unset] [])) rfl (hb hby d6_60) (by decide) (by decide)
  obtain ⟨b12, g12⟩ : ∃ z, z = h0.size := ⟨_, rfl⟩
  rw [← g12] at A12 D12 st12
  have g_b12 : n0 ≤ b12 := Nat.le_trans Z0 (Nat.le_of_eq g12.symm)
  have sz_b12 : h0.size ≤ b12 := Nat.le_trans (Keep.refl h0 [a1]).1 (Nat.le_of_eq g12.symm)
  have ne_s_C_b12 : s_C ≠ b12 := Nat.ne_of_lt (Nat.lt_of_lt_of_le E_s_C.lt (Nat.le_of_eq g12.symm))
  have ne_a1_b12 : a1 ≠ b12 := Nat.ne_of_lt (Nat.lt_of_lt_of_le F_position_a1.lt (Nat.le_of_eq g12.symm))
  have ne_w_key_a1_b12 : w_key_a1 ≠ b12 := Nat.ne_of_lt (Nat.lt_of_lt_of_le V_w_key_a1.lt (Nat.le_of_eq g12.symm))
  have CR := CR.trans (CHr.ext E12 CR.1)
  have ne_s_C_a1 : s_C ≠ a1 := ne_exa E_s_C E_a1 (by decide)
  have f13 : Sta Z h12 "jdk/internal/util/Preconditions" "SIOOBE_FORMATTER" "Ljava/util/function/BiFunction;" s_F := S_SIOOBE_FORMATTER.ext E12
  have f14 : Sta Z h12 "java/nio/charset/StandardCharsets" "ISO_8859_1" "Ljava/nio/charset/Charset;" (.ref s_C) := S_ISO_8859_1.ext E12
  have f15 : Exa Z h12 s_C "sun/nio/cs/ISO_8859_1" := E_s_C.ext E12
  have f16 : Fld Z h12 a1 "com/example/fieldstone/fieldstone/core/KeyReader" "position" "I" (.int w_position_a1) := F_position_a1.ext E12
  have f17 : Fld Z h12 a1 "com/example/fieldstone/fieldstone/core/KeyReader" "key" "[B" (.ref w_key_a1) := F_key_a1.ext E12
  have f18 : Arv Z h12 w_key_a1 k_w_key_a1 .byte n_w_key_a1 vs_w_key_a1 (.int (0 : Int32)) := V_w_key_a1.ext E12
  have f19 : Exa Z h12 a1 "com/example/fieldstone/fieldstone/core/KeyReader" := E_a1.ext E12
  have K20 : Keep h0 h12 [a1] := (Keep.refl h0 [a1]).ext E12
  have hk : _ ≤ h12.size := Nat.le_trans hk E12.1
  have Zs21 : n0 ≤ h12.size := Nat.le_trans Z0 E12.1
  have f22 : Fld Z h12 b12 "java/lang/String" "value" "[B" .null := D12 (Or.inr (hw _ (List.mem_of_getElem? (i := 14) rfl))) (ty := (.array .byte)) (by decide)
  have f23 : Fld Z h12 b12 "java/lang/String" "coder" "B" (.int (0 : Int32)) := D12 (Or.inr (hw _ (List.mem_of_getElem? (i := 15) rfl))) (ty := .byte) (by decide)
  obtain ⟨T24, X24, e24, st24⟩ := getF X12 hx hZ hown (host := "") (Or.inl (hw _ (List.mem_of_getElem? (i := 24) rfl))) Via.refl e12 f17 (g := (mkF m 65 #[.val (.ref a1), .val (.int w_position_a1), .unset] [(.ref a1), (.ref b12), (.ref b12)])) rfl rfl (hb hby d6_65)
  obtain ⟨T25, X25, e25, st25⟩ := getF X24 hx hZ hown (host := "") (Or.inl (hw _ (List.mem_of_getElem? (i := 31) rfl))) Via.refl e24 f16 (g := (mkF m 69 #[.val (.ref a1), .val (.int w_position_a1), .unset] [(.ref a1), (.ref w_key_a1), (.ref b12), (.ref b12)])) rfl rfl (hb hby d6_69)
  obtain ⟨T26, X26, e26, st26⟩ := getF X25 hx hZ hown (host := "") (Or.inl (hw _ (List.mem_of_getElem? (i := 31) rfl))) Via.refl e25 f16 (g := (mkF m 74 #[.val (.ref a1), .val (.int w_position_a1), .unset] [(.ref a1), (.int w_position_a1), (.int w_position_a1), (.ref w_key_a1), (.ref b12), (.ref b12)])) rfl rfl (hb hby d6_74)
  obtain ⟨T27, X27, e27, st27⟩ := getS2 X26 hx hZ hown (host := "") (Or.inl (hw _ (List.mem_of_getElem? (i := 43) rfl))) Via.refl e26 f14 (g := (mkF m 78 #[.val (.ref a1), .val (.int w_position_a1), .unset] [(.int (0 : Int32)), (.int w_position_a1), (.ref w_key_a1), (.ref b12), (.ref b12)])) rfl (hb hby d6_78)
  obtain ⟨_, _, ⟨T28, L28, k28, n28⟩, -, X28, hS28, hg28, ⟨Lc28, hQ28, l28, y28, z28, CR28⟩, st28⟩ := X27.specialBackS hx (y := (⟨"java/lang/String", "<init>", "([BIILjava/nio/charset/Charset;)V"⟩ : MethodName)) rfl hown (mvT hZ (hw _ (List.mem_of_getElem? (i := 45) rfl))) (mvT hZ (hw _ (List.mem_of_getElem? (i := 46) rfl))) (mvT hZ (hw _ (List.mem_of_getElem? (i := 47) rfl))) (by decide) (backOfSH (W := 1) (rm_s4 l Z a0 hw [] b12 w_key_a1 w_position_a1 s_C s_F k_w_key_a1 n_w_key_a1 vs_w_key_a1 h12 n0 Zs21 f13 hsr f15 f18 A12 f22 g_b12 f23 ne_w_key_a1_b12 hp9 hp10) hZ (hw _ (List.mem_of_getElem? (i := 47) rfl)) (hw _ (List.mem_of_getElem? (i := 12) rfl)) (by decide) (by decide) hEW CR.1) (g := (mkF m 81 #[.val (.ref a1), .val (.int w_position_a1), .unset] [(.ref s_C), (.int (0 : Int32)), (.int w_position_a1), (.ref w_key_a1), (.ref b12), (.ref b12)])) rfl (by rw [hml]; rfl) (Steps.refl _) (a := b12) (argsL := [(.ref w_key_a1), (.int w_position_a1), (.int (0 : Int32)), (.ref s_C)]) (rest := [(.ref b12)]) (lenOf pd_6 rfl) rfl (by show 2 * 0 + _ ≤ _; exact Nat.le_of_eq rfl) (hb hby d6_81) (fun _ _ => ⟨rfl, e27, (by decide : 1 + 4 ≤ _), (by decide : 4 + 8 ≤ _)⟩)
  dsimp only [Pt.U, Pt.locs, Pt.cells, Pt.slots] at X28 l28 y28 z28 st28 hQ28 hS28 hg28 CR28
  subst l28 y28 z28
  rw [e27] at hg28
  obtain ⟨X28, hS, hZ, hown⟩ := rebS hS hk X28 hS28 hg28 hZ hown
  have hZ28 := hZ
  have hown28 := hown
  have hk : _ ≤ T28.heap.size := Nat.le_refl _
  have CR := CR.trans CR28
  obtain ⟨rfl, Nq28, Kc28, fq28_0⟩ := hQ28
  have f30 : Sta Z T28.heap "jdk/internal/util/Preconditions" "SIOOBE_FORMATTER" "Ljava/util/function/BiFunction;" s_F := own_sta_keep f13 Kc28 (allS (own_plain_cell A12) all0)
  have f31 : Sta Z T28.heap "java/nio/charset/StandardCharsets" "ISO_8859_1" "Ljava/nio/charset/Charset;" (.ref s_C) := own_sta_keep f14 Kc28 (allS (own_plain_cell A12) all0)
  have f32 : Exa Z T28.heap s_C "sun/nio/cs/ISO_8859_1" := f15.keep Kc28
  have f33 : Fld Z T28.heap a1 "com/example/fieldstone/fieldstone/core/KeyReader" "position" "I" (.int w_position_a1) := f16.keep Kc28 (ninS ne_a1_b12 nin0)
  have f34 : Fld Z T28.heap a1 "com/example/fieldstone/fieldstone/core/KeyReader" "key" "[B" (.ref w_key_a1) := f17.keep Kc28 (ninS ne_a1_b12 nin0)
  have f35 : Arv Z T28.heap w_key_a1 k_w_key_a1 .byte n_w_key_a1 vs_w_key_a1 (.int (0 : Int32)) := f18.keep Kc28 (ninS ne_w_key_a1_b12 nin0)
  have f36 : Exa Z T28.heap a1 "com/example/fieldstone/fieldstone/core/KeyReader" := f19.keep Kc28
  have K37 : Keep h0 T28.heap [a1] := K20.trans Kc28 (allS (Or.inr sz_b12) all0)
  have Zs38 : n0 ≤ T28.heap.size := Nat.le_trans Zs21 Kc28.1
  have N29 := Fr.app N0 Nq28
  obtain ⟨T39, h39, X39, e39, W39, st39⟩ := putF X28 hx hZ hown (host := "") (Or.inl (hw _ (List.mem_of_getElem? (i := 31) rfl))) Via.refl rfl f33 f36 (Or.inl (hw _ (List.mem_of_getElem? (i := 32) rfl))) (hw _ (List.mem_of_getElem? (i := 3) rfl)) (ty := .int) (by decide) rfl rfl (g := (mkF m 89 #[.val (.ref a1), .val (.int w_position_a1), .val (.ref b12)] [(.int (w_position_a1 + (2 : Int32))), (.ref a1)])) rfl rfl (hb hby d6_89)
  have f40 : Sta Z h39 "jdk/internal/util/Preconditions" "SIOOBE_FORMATTER" "Ljava/util/function/BiFunction;" s_F := f30.wr W39
  have f41 : Sta Z h39 "java/nio/charset/StandardCharsets" "ISO_8859_1" "Ljava/nio/charset/Charset;" (.ref s_C) := f31.wr W39
  have f42 : Exa Z h39 s_C "sun/nio/cs/ISO_8859_1" := f32.wr W39
  have f43 : Fld Z h39 a1 "com/example/fieldstone/fieldstone/core/KeyReader" "position" "I" (.int (w_position_a1 + (2 : Int32))) := f33.same W39
  have f44 : Fld Z h39 a1 "com/example/fieldstone/fieldstone/core/KeyReader" "key" "[B" (.ref w_key_a1) := f34.other W39 (Or.inr (slot_ne (Or.inr (hw _ (List.mem_of_getElem? (i := 25) rfl))) (Or.inl (hw _ (List.mem_of_getElem? (i := 32) rfl))) (by decide) (t := (.array .byte)) (t' := .int) (by decide) (by decide)))
  have f45 : Arv Z h39 w_key_a1 k_w_key_a1 .byte n_w_key_a1 vs_w_key_a1 (.int (0 : Int32)) := f35.other W39 ne_w_key_a1_a1
  have f46 : Exa Z h39 a1 "com/example/fieldstone/fieldstone/core/KeyReader" := f36.wr W39
  have f47 : Exa Z h39 b12 "java/lang/String" := fq28_0.wr W39
  have K48 : Keep h0 h39 [a1] := K37.wr W39 (Or.inl (List.mem_of_getElem? (i := 0) rfl))
  have N49 := Fr.snoc X39 N29 g_a1
  have CR := CR.trans (CHr.wr W39 (CR.safe E_a1.lt S0_a1) CR.1)
  have hk : _ ≤ h39.size := Nat.le_trans hk (Keep.of_wr W39).1
  have Zs50 : n0 ≤ h39.size := Nat.le_trans Zs38 (Keep.of_wr W39).1
  obtain ⟨fs, hr, hrun, hended, hRE⟩ := X39.leaveW hS (by rw [e39]; exact hk) (v := some (.ref b12)) (fun h => by rw [Bd.returns] at h; cases h) Bd.notSynchronized
  refine ⟨_, _, pre0 _ ?_, hrun, hended, _, _, rfl, ?_, ?_, hRE.1, hRE.2.1, hRE.2.2.1, hRE.2.2.2.mono (by decide) (by decide)⟩
  · show Steps p.tables e below (s₁.setTop (mkF m 0 #[.val (.ref a1), .unset, .unset] [])) _
    refine XS.aloadN X0.here hx rfl (hb hby d6_0) rfl rfl ?_
    show Steps p.tables e below (s₁.setTop (mkF m 1 #[.val (.ref a1), .unset, .unset] [(.ref a1)])) _
    refine st1 _ ?_
    show Steps p.tables e below (T1.setTop (mkF m 4 #[.val (.ref a1), .unset, .unset] [(.int w_position_a1)])) _
    refine XS.istoreN X1.here hx rfl (hb hby d6_4) rfl (l' := #[.val (.ref a1), .val (.int w_position_a1), .unset]) rfl ?_
    show Steps p.tables e below (T1.setTop (mkF m 5 #[.val (.ref a1), .val (.int w_position_a1), .unset] [])) _
    refine XS.iloadN X1.here hx rfl (hb hby d6_5) rfl ?_
    refine XS.aloadN X1.here hx rfl (hb hby d6_6) rfl rfl ?_
    show Steps p.tables e below (T1.setTop (mkF m 7 #[.val (.ref a1), .val (.int w_position_a1), .unset] [(.ref a1), (.int w_position_a1)])) _
    refine st2 _ ?_
    show Steps p.tables e below (T2.setTop (mkF m 10 #[.val (.ref a1), .val (.int w_position_a1), .unset] [(.ref w_key_a1), (.int w_position_a1)])) _
    refine X2.arraylength hx (by rw [e2]; exact Aro3.1) (State.isArrayOf_alike hZ0.alike Aro3.2.1) (g := (mkF m 10 #[.val (.ref a1), .val (.int w_position_a1), .unset] [(.ref w_key_a1), (.int w_position_a1)])) rfl rfl (hb hby d6_10) _ ?_
    rw [len_of So3 No3]
    show Steps p.tables e below (T2.setTop (mkF m 11 #[.val (.ref a1), .val (.int w_position_a1), .unset] [(.int n_w_key_a1), (.int w_position_a1)])) _
    refine XS.icmpNo X2.here hx rfl (hb hby d6_11) rfl (tlt hp1).2.1 ?_
    show Steps p.tables e below (T2.setTop (mkF m 14 #[.val (.ref a1), .val (.int w_position_a1), .unset] [])) _
    refine XS.aloadN X2.here hx rfl (hb hby d6_14) rfl rfl ?_
    show Steps p.tables e below (T2.setTop (mkF m 15 #[.val (.ref a1), .val (.int w_position_a1), .unset] [(.ref a1)])) _
    refine st4 _ ?_
    show Steps p.tables e below (T4.setTop (mkF m 18 #[.val (.ref a1), .val (.int w_position_a1), .unset] [(.ref w_key_a1)])) _
    refine XS.iloadN X4.here hx rfl (hb hby d6_18) rfl ?_
    show Steps p.tables e below (T4.setTop (mkF m 19 #[.val (.ref a1), .val (.int w_position_a1), .unset] [(.int w_position_a1), (.ref w_key_a1)])) _
    refine X4.baloadBytes hx (j := w_position_a1) (v := (.int (own_at vs_w_key_a1 (w_position_a1).toNatClampNeg (.int (0 : Int32))))) (by rw [e4]; exact Aro5.1) (State.isArrayOf_alike hZ0.alike Aro5.2.1) Aro5.2.2 hino5 (Ho5.at hino5 (own_at_eq (Go5 _ (Nat.lt_of_not_le fun y => hino5 (Or.inr y))) (by simp))) (g := (mkF m 19 #[.val (.ref a1), .val (.int w_position_a1), .unset] [(.int w_position_a1), (.ref w_key_a1)])) rfl rfl (hb hby d6_19) _ ?_
    show Steps p.tables e below (T4.setTop (mkF m 20 #[.val (.ref a1), .val (.int w_position_a1), .unset] [(.int (own_at vs_w_key_a1 (w_position_a1).toNatClampNeg (.int (0 : Int32))))])) _
    refine XS.ifYes X4.here hx rfl (pc0 := 20) (pc' := 29) rfl (hb hby d6_20) rfl ((if0 _ _).trans (flt hp3).2.2.2) (by decide) (by decide) ?_
    show Steps p.tables e below (T4.setTop (mkF m 29 #[.val (.ref a1), .val (.int w_position_a1), .unset] [])) _
    refine XS.iloadN X4.here hx rfl (hb hby d6_29) rfl ?_
    refine XS.iconst X4.here hx rfl (hb hby d6_30) ?_
    show Steps p.tables e below (T4.setTop (mkF m 31 #[.val (.ref a1), .val (.int w_position_a1), .unset] [(.int (1 : Int32)), (.int w_position_a1)])) _
    refine XS.iadd X4.here hx rfl (hb hby d6_31) rfl ?_
    show Steps p.tables e below (T4.setTop (mkF m 32 #[.val (.ref a1), .val (.int w_position_a1), .unset] [(.int (w_position_a1 + (1 : Int32)))])) _
    refine XS.aloadN X4.here hx rfl (hb hby d6_32) rfl rfl ?_
    show Steps p.tables e below (T4.setTop (mkF m 33 #[.val (.ref a1), .val (.int w_position_a1), .unset] [(.ref a1), (.int (w_position_a1 + (1 : Int32)))])) _
    refine st6 _ ?_
    show Steps p.tables e below (T6.setTop (mkF m 36 #[.val (.ref a1), .val (.int w_position_a1), .unset] [(.ref w_key_a1), (.int (w_position_a1 + (1 : Int32)))])) _
    refine X6.arraylength hx (by rw [e6]; exact Aro7.1) (State.isArrayOf_alike hZ0.alike Aro7.2.1) (g := (mkF m 36 #[.val (.ref a1), .val (.int w_position_a1), .unset] [(.ref w_key_a1), (.int (w_position_a1 + (1 : Int32)))])) rfl rfl (hb hby d6_36) _ ?_
    rw [len_of So7 No7]
    show Steps p.tables e below (T6.setTop (mkF m 37 #[.val (.ref a1), .val (.int w_position_a1), .unset] [(.int n_w_key_a1), (.int (w_position_a1 + (1 : Int32)))])) _
    refine XS.icmpNo X6.here hx rfl (hb hby d6_37) rfl (tlt hp4).2.1 ?_
    show Steps p.tables e below (T6.setTop (mkF m 40 #[.val (.ref a1), .val (.int w_position_a1), .unset] [])) _
    refine XS.aloadN X6.here hx rfl (hb hby d6_40) rfl rfl ?_
    show Steps p.tables e below (T6.setTop (mkF m 41 #[.val (.ref a1), .val (.int w_position_a1), .unset] [(.ref a1)])) _
    refine st8 _ ?_
    show Steps p.tables e below (T8.setTop (mkF m 44 #[.val (.ref a1), .val (.int w_position_a1), .unset] [(.ref w_key_a1)])) _
    refine XS.iloadN X8.here hx rfl (hb hby d6_44) rfl ?_
    show Steps p.tables e below (T8.setTop (mkF m 45 #[.val (.ref a1), .val (.int w_position_a1), .unset] [(.int w_position_a1), (.ref w_key_a1)])) _
    refine X8.baloadBytes hx (j := w_position_a1) (v := (.int (own_at vs_w_key_a1 (w_position_a1).toNatClampNeg (.int (0 : Int32))))) (by rw [e8]; exact Aro9.1) (State.isArrayOf_alike hZ0.alike Aro9.2.1) Aro9.2.2 hino9 (Ho9.at hino9 (own_at_eq (Go9 _ (Nat.lt_of_not_le fun y => hino9 (Or.inr y))) (by simp))) (g := (mkF m 45 #[.val (.ref a1), .val (.int w_position_a1), .unset] [(.int w_position_a1), (.ref w_key_a1)])) rfl rfl (hb hby d6_45) _ ?_
    show Steps p.tables e below (T8.setTop (mkF m 46 #[.val (.ref a1), .val (.int w_position_a1), .unset] [(.int (own_at vs_w_key_a1 (w_position_a1).toNatClampNeg (.int (0 : Int32))))])) _
    refine XS.ifNo X8.here hx rfl (hb hby d6_46) rfl ((if0 _ _).trans (teq hp5).2) ?_
    show Steps p.tables e below (T8.setTop (mkF m 49 #[.val (.ref a1), .val (.int w_position_a1), .unset] [])) _
    refine XS.aloadN X8.here hx rfl (hb hby d6_49) rfl rfl ?_
    show Steps p.tables e below (T8.setTop (mkF m 50 #[.val (.ref a1), .val (.int w_position_a1), .unset] [(.ref a1)])) _
    refine st10 _ ?_
    show Steps p.tables e below (T10.setTop (mkF m 53 #[.val (.ref a1), .val (.int w_position_a1), .unset] [(.ref w_key_a1)])) _
    refine XS.iloadN X10.here hx rfl (hb hby d6_53) rfl ?_
    refine XS.iconst X10.here hx rfl (hb hby d6_54) ?_
    show Steps p.tables e below (T10.setTop (mkF m 55 #[.val (.ref a1), .val (.int w_position_a1), .unset] [(.int (1 : Int32)), (.int w_position_a1), (.ref w_key_a1)])) _
    refine XS.iadd X10.here hx rfl (hb hby d6_55) rfl ?_
    show Steps p.tables e below (T10.setTop (mkF m 56 #[.val (.ref a1), .val (.int w_position_a1), .unset] [(.int (w_position_a1 + (1 : Int32))), (.ref w_key_a1)])) _
    refine X10.baloadBytes hx (j := (w_position_a1 + (1 : Int32))) (v := (.int (own_at vs_w_key_a1 ((w_position_a1 + (1 : Int32))).toNatClampNeg (.int (0 : Int32))))) (by rw [e10]; exact Aro11.1) (State.isArrayOf_alike hZ0.alike Aro11.2.1) Aro11.2.2 hino11 (Ho11.at hino11 (own_at_eq (Go11 _ (Nat.lt_of_not_le fun y => hino11 (Or.inr y))) (by simp))) (g := (mkF m 56 #[.val (.ref a1), .val (.int w_position_a1), .unset] [(.int (w_position_a1 + (1 : Int32))), (.ref w_key_a1)])) rfl rfl (hb hby d6_56) _ ?_
    show Steps p.tables e below (T10.setTop (mkF m 57 #[.val (.ref a1), .val (.int w_position_a1), .unset] [(.int (own_at vs_w_key_a1 ((w_position_a1 + (1 : Int32))).toNatClampNeg (.int (0 : Int32))))])) _
    refine XS.ifNo X10.here hx rfl (hb hby d6_57) rfl ((if0 _ _).trans (teq hp7).2) ?_
    show Steps p.tables e below (T10.setTop (mkF m 60 #[.val (.ref a1), .val (.int w_position_a1), .unset] [])) _
    refine st12 _ ?_
    show Steps p.tables e below (T12.setTop (mkF m 63 #[.val (.ref a1), .val (.int w_position_a1), .unset] [(.ref b12)])) _
    refine XS.dup X12.here hx rfl (hb hby d6_63) rfl rfl ?_
    show Steps p.tables e below (T12.setTop (mkF m 64 #[.val (.ref a1), .val (.int w_position_a1), .unset] [(.ref b12), (.ref b12)])) _
    refine XS.aloadN X12.here hx rfl (hb hby d6_64) rfl rfl ?_
    show Steps p.tables e below (T12.setTop (mkF m 65 #[.val (.ref a1), .val (.int w_position_a1), .unset] [(.ref a1), (.ref b12), (.ref b12)])) _
    refine st24 _ ?_
    show Steps p.tables e below (T24.setTop (mkF m 68 #[.val (.ref a1), .val (.int w_position_a1), .unset] [(.ref w_key_a1), (.ref b12), (.ref b12)])) _
    refine XS.aloadN X24.here hx rfl (hb hby d6_68) rfl rfl ?_
    show Steps p.tables e below (T24.setTop (mkF m 69 #[.val (.ref a1), .val (.int w_position_a1), .unset] [(.ref a1), (.ref w_key_a1), (.ref b12), (.ref b12)])) _
    refine st25 _ ?_
    show Steps p.tables e below (T25.setTop (mkF m 72 #[.val (.ref a1), .val (.int w_position_a1), .unset] [(.int w_position_a1), (.ref w_key_a1), (.ref b12), (.ref b12)])) _
    refine XS.iloadN X25.here hx rfl (hb hby d6_72) rfl ?_
    refine XS.aloadN X25.here hx rfl (hb hby d6_73) rfl rfl ?_
    show Steps p.tables e below (T25.setTop (mkF m 74 #[.val (.ref a1), .val (.int w_position_a1), .unset] [(.ref a1), (.int w_position_a1), (.int w_position_a1), (.ref w_key_a1), (.ref b12), (.ref b12)])) _
    refine st26 _ ?_
    show Steps p.tables e below (T26.setTop (mkF m 77 #[.val (.ref a1), .val (.int w_position_a1), .unset] [(.int w_position_a1), (.int w_position_a1), (.int w_position_a1), (.ref w_key_a1), (.ref b12), (.ref b12)])) _
    refine XS.isub X26.here hx rfl (hb hby d6_77) rfl ?_
    show Steps p.tables e below (T26.setTop (mkF m 78 #[.val (.ref a1), .val (.int w_position_a1), .unset] [(.int (w_position_a1 - w_position_a1)), (.int w_position_a1), (.ref w_key_a1), (.ref b12), (.ref b12)])) _
    rw [hw_8]
    show Steps p.tables e below (T26.setTop (mkF m 78 #[.val (.ref a1), .val (.int w_position_a1), .unset] [(.int (0 : Int32)), (.int w_position_a1), (.ref w_key_a1), (.ref b12), (.ref b12)])) _
    refine st27 _ ?_
    show Steps p.tables e below (T27.setTop (mkF m 81 #[.val (.ref a1), .val (.int w_position_a1), .unset] [(.ref s_C), (.int (0 : Int32)), (.int w_position_a1), (.ref w_key_a1), (.ref b12), (.ref b12)])) _
    refine st28.trans ?_
    show Steps p.tables e below (T28.setTop (mkF m 84 #[.val (.ref a1), .val (.int w_position_a1), .unset] [(.ref b12)])) _
    refine XS.astoreN X28.here hx rfl (hb hby d6_84) rfl rfl (l' := #[.val (.ref a1), .val (.int w_position_a1), .val (.ref b12)]) rfl ?_
    show Steps p.tables e below (T28.setTop (mkF m 85 #[.val (.ref a1), .val (.int w_position_a1), .val (.ref b12)] [])) _
    refine XS.aloadN X28.here hx rfl (hb hby d6_85) rfl rfl ?_
    refine XS.iloadN X28.here hx rfl (hb hby d6_86) rfl ?_
    refine XS.iconst X28.here hx rfl (hb hby d6_87) ?_
    show Steps p.tables e below (T28.setTop (mkF m 88 #[.val (.ref a1), .val (.int w_position_a1), .val (.ref b12)] [(.int (2 : Int32)), (.int w_position_a1), (.ref a1)])) _
    refine XS.iadd X28.here hx rfl (hb hby d6_88) rfl ?_
    show Steps p.tables e below (T28.setTop (mkF m 89 #[.val (.ref a1), .val (.int w_position_a1), .val (.ref b12)] [(.int (w_position_a1 + (2 : Int32))), (.ref a1)])) _
    refine st39 _ ?_
    show Steps p.tables e below (T39.setTop (mkF m 92 #[.val (.ref a1), .val (.int w_position_a1), .val (.ref b12)] [])) _
    refine XS.goto X39.here hx rfl (pc0 := 92) (pc' := 100) rfl (hb hby d6_92) (by decide) (by decide) ?_
    show Steps p.tables e below (T39.setTop (mkF m 100 #[.val (.ref a1), .val (.int w_position_a1), .val (.ref b12)] [])) _
    refine XS.aloadN X39.here hx rfl (hb hby d6_100) rfl rfl ?_
    show Steps p.tables e below (T39.setTop (mkF m 101 #[.val (.ref a1), .val (.int w_position_a1), .val (.ref b12)] [(.ref b12)])) _
    exact retOut X39 hx (t := (.object "java/lang/String")) (i := .areturn) Bd.returns rfl (Or.inr (Or.inr (Or.inr (Or.inr ⟨rfl, rfl, rfl⟩)))) (hb hby d6_101) hr
  · show Q_rstr Z a1 s_F s_C w_position_a1 w_key_a1 k_w_key_a1 n_w_key_a1 vs_w_key_a1 h0 n0 _ T39.heap _
    rw [e39]
    exact ⟨b12, rfl, N49, g_b12, sz_b12, K48, f43, f44, f46, f47⟩
  · show CHr Z consts_1 s.vm s.heap T39.vm T39.heap
    rw [hh, e39]
    exact CR.trans (CHv.at X39 hZ hEW CR.1)
theorem pd_7 : parseMethodDescriptor "()Z" = some ⟨[], some .boolean⟩ := by decide +kernel
theorem d5_0 : decode method_3_code 0 = .ok (.iload_n 3, 1) := by decide +kernel
theorem d5_1 : decode method_3_code 1 = .ok (.ifCond .ne 9, 3) := by decide +kernel
theorem d5_4 : decode method_3_code 4 = .ok (.iconst 1, 1) := by decide +kernel
theorem d5_5 : decode method_3_code 5 = .ok (.istore 4, 2) := by decide +kernel
theorem d5_7 : decode method_3_code 7 = .ok (.goto 29, 3) := by decide +kernel
theorem d5_36 : decode method_3_code 36 = .ok (.iload_n 1, 1) := by decide +kernel
theorem d5_37 : decode method_3_code 37 = .ok (.iload_n 2, 1) := by decide +kernel
theorem d5_38 : decode method_3_code 38 = .ok (.isub, 1) := by decide +kernel
theorem d5_39 : decode method_3_code 39 = .ok (.iload 4, 2) := by decide +kernel
theorem d5_41 : decode method_3_code 41 = .ok (.if_icmp .ge 5, 3) := by decide +kernel
theorem d5_46 : decode method_3_code 46 = .ok (.iload_n 3, 1) := by decide +kernel
theorem d5_47 : decode method_3_code 47 = .ok (.ifCond .ne 11, 3) := by decide +kernel
theorem d5_50 : decode method_3_code 50 = .ok (.aload_n 0, 1) := by decide +kernel
theorem d5_51 : decode method_3_code 51 = .ok (.invokevirtual 23, 3) := by decide +kernel
theorem d5_54 : decode method_3_code 54 = .ok (.pop, 1) := by decide +kernel
theorem d5_55 : decode method_3_code 55 = .ok (.goto 34, 3) := by decide +kernel
theorem d5_89 : decode method_3_code 89 = .ok (.iload_n 2, 1) := by decide +kernel
theorem d5_90 : decode method_3_code 90 = .ok (.iload 4, 2) := by decide +kernel
theorem d5_92 : decode method_3_code 92 = .ok (.iadd, 1) := by decide +kernel
theorem d5_93 : decode method_3_code 93 = .ok (.ireturn, 1) := by decide +kernel
theorem pn_com_example_fieldstone_fieldstone_core_KeyReaderHasRemainingPinLaw : plainName "com/example/fieldstone/fieldstone/core/KeyReaderHasRemainingPinLaw" = true := by first | (simp [plainName, overriddenIn]; done) | decide +kernel
theorem ef_5_RIII (m : MethodId) (x0 : Addr) (x1 : Int32) (x2 : Int32) (x3 : Int32) : entryFrame m #[(.ref x0), (.int x1), (.int x2), (.int x3)] 5 = mkF m 0 #[.val (.ref x0), .val (.int x1), .val (.int x2), .val (.int x3), .unset] [] := by first | (simp [entryFrame, mkF, argsToLocals, Value.category]; done) | rfl
def Q_st0y (Z : State) (a1 : Addr) (p2 : Int32) (p3 : Int32) (w_key_a1 : Addr) (k_w_key_a1 : ClassId) (s_F : Value) (s_C : Addr) (h0 : Heap) (n0 : Nat) (v : Option Value) (h : Heap) (L : List Loc) : Prop := v = some (.int (p3 + (1 : Int32))) ∧ Fr n0 L ∧ Keep h0 h [a1] ∧ Fld Z h a1 "com/example/fieldstone/fieldstone/core/KeyReader" "key" "[B" (.ref w_key_a1) ∧ Fld Z h a1 "com/example/fieldstone/fieldstone/core/KeyReader" "position" "I" (.int (p3 + (1 : Int32))) ∧ Exa Z h a1 "com/example/fieldstone/fieldstone/core/KeyReader"
set_option maxRecDepth 65536 in
set_option maxHeartbeats 40000000 in
theorem rm_st0y (l : Launch) (Z : State) (a0 : Array Value) (hw : ∀ d ∈ tables_1, d.before a0 Z = true) (ws : List Jvm.Cond) (a1 : Addr) (p2 : Int32) (p3 : Int32) (w_key_a1 : Addr) (k_w_key_a1 : ClassId) (s_F : Value) (s_C : Addr) (h0 : Heap) (n0 : Nat) (Z0 : n0 ≤ h0.size) (F_key_a1 : Fld Z h0 a1 "com/example/fieldstone/fieldstone/core/KeyReader" "key" "[B" (.ref w_key_a1)) (E_w_key_a1 : Exa Z h0 w_key_a1 "[B") (V_w_key_a1 : Arv Z h0 w_key_a1 k_w_key_a1 .byte p2 (List.replicate 16 (Value.int (0 : Int32))) (.int (0 : Int32))) (F_position_a1 : Fld Z h0 a1 "com/example/fieldstone/fieldstone/core/KeyReader" "position" "I" (.int p3)) (E_a1 : Exa Z h0 a1 "com/example/fieldstone/fieldstone/core/KeyReader") (g_a1 : n0 ≤ a1) (S_SIOOBE_FORMATTER : Sta Z h0 "jdk/internal/util/Preconditions" "SIOOBE_FORMATTER" "Ljava/util/function/BiFunction;" s_F) (hsr : s_F.isRef = true) (S_ISO_8859_1 : Sta Z h0 "java/nio/charset/StandardCharsets" "ISO_8859_1" "Ljava/nio/charset/Charset;" (.ref s_C)) (E_s_C : Exa Z h0 s_C "sun/nio/cs/ISO_8859_1") (hp1 : ¬ ((p2 - p3) < (1 : Int32))) (hp2 : p3 < p2) (hp3 : ¬ (p3 < (0 : Int32))) (hp4 : (own_at (List.replicate 16 (Value.int (0 : Int32))) (p3).toNatClampNeg (.int (0 : Int32))) = (0 : Int32)) (hp5 : ¬ ((own_at (List.replicate 16 (Value.int (0 : Int32))) (p3).toNatClampNeg (.int (0 : Int32))) = (1 : Int32))) :
    MetFree l (⟨"com/example/fieldstone/fieldstone/core/KeyReaderHasRemainingPinLaw", "step", "(Lcom/example/fieldstone/fieldstone/core/KeyReader;III)I"⟩ : MethodName) (head1 (Jvm.Cond.code (⟨"com/example/fieldstone/fieldstone/core/KeyReaderHasRemainingPinLaw", "step", "(Lcom/example/fieldstone/fieldstone/core/KeyReader;III)I"⟩ : MethodName) method_3_code 5 (some .int) :: ws) ({ frames := 4, cells := 5, slots := 12, locals := 65 } : Room)) (fun a U => a = #[(.ref a1), (.int p2), (.int p3), (.int (0 : Int32))] ∧ Z.Warmed39 U.vm ∧ U.heap = h0 ∧ CHv Z consts_1 U.vm h0) (fun _ _ _ _ _ => True) (fun _ U o U' => ∃ v L, o = .returned v ∧ Q_st0y Z a1 p2 p3 w_key_a1 k_w_key_a1 s_F s_C h0 n0 v U'.heap L ∧ CHr Z consts_1 U.vm U.heap U'.vm U'.heap ∧ ReturnedEndW U o U' L ({ frames := 4, cells := 5, slots := 12, locals := 65 } : Room).cells ({ frames := 4, cells := 5, slots := 12, locals := 65 } : Room).slots) := by
  refine MetFree.of_bodySF (plainFor_of_name pn_com_example_fieldstone_fieldstone_core_KeyReaderHasRemainingPinLaw) hisR ?_
  intro p e s m args below meth c s₁ Bd hml0 hP hK
  obtain ⟨rfl, hZ, hh, CH0⟩ := hP
  have hx := Bd.exec
  have hby := Bd.bytes
  have hml : c.maxLocals = 5 := hml0
  have hown : s.vm.findClass "com/example/fieldstone/fieldstone/core/KeyReaderHasRemainingPinLaw" = some m.cls := findClass_of_methodNamed Bd.named
  have hnm := (name_of_methodNamed Bd.named Bd.method).1
  have X0 : Stand p l e ({ frames := 4, cells := 5, slots := 12, locals := 65 } : Room) s m #[(.ref a1), (.int p2), (.int p3), (.int (0 : Int32))] below meth c s₁ [] 0 0 := Stand.of_body Bd
  have e0 : s₁.heap = h0 := by rw [← hh, Bd.state]; rfl
  have N0 := Fr.nil n0
  have hZ : Z.Warmed39 (s.setVm s.vm).vm := hZ
  have hown : (s.setVm s.vm).vm.findClass "com/example/fieldstone/fieldstone/core/KeyReaderHasRemainingPinLaw" = some m.cls := hown
  have hZ0 := hZ
  have hown0 := hown
  have X0 : Stand p l e ({ frames := 4, cells := 5, slots := 12, locals := 65 } : Room) (s.setVm s.vm) m #[(.ref a1), (.int p2), (.int p3), (.int (0 : Int32))] below meth c s₁ [] 0 0 := X0
  have hS : s.Since s.vm h0.size := own_since s _
  have hk : h0.size ≤ h0.size := Nat.le_refl _
  have hEW := own_EW hw
  have CR : CHr Z consts_1 s.vm h0 s.vm h0 := CHr.refl CH0
  have S0_a1 : Safe Z consts_1 s.vm h0 a1 := Safe.exa hZ.alike E_a1 (by decide) (by decide)
  have pre0 : ∀ t, Steps p.tables e below (s₁.setTop (mkF m 0 #[.val (.ref a1), .val (.int p2), .val (.int p3), .val (.int (0 : Int32)), .unset] [])) t → Steps p.tables e below (s₁.setTop (entryFrame m #[(.ref a1), (.int p2), (.int p3), (.int (0 : Int32))] 5)) t := fun t k => castTop (ef_5_RIII m a1 p2 p3 (0 : Int32)) k
  obtain ⟨cq1, kq1, q1a, q1b, q1c⟩ := isOf hZ e0 E_a1
  obtain ⟨_, _, ⟨T1, L1, k1, n1⟩, -, X1, ⟨Lc1, hQ1, l1, y1, z1⟩, st1⟩ := X0.virtualBack hx (y := (⟨"com/example/fieldstone/fieldstone/core/KeyReader", "readBoolean", "()Z"⟩ : MethodName)) (z := (⟨"com/example/fieldstone/fieldstone/core/KeyReader", "readBoolean", "()Z"⟩ : MethodName)) hown (mvT hZ (hw _ (List.mem_of_getElem? (i := 69) rfl))) (mvT hZ (hw _ (List.mem_of_getElem? (i := 70) rfl))) (notFace_of_selects (args := #[]) (mvT hZ (hw _ (List.mem_of_getElem? (i := 72) rfl)))) (mvT hZ (hw _ (List.mem_of_getElem? (i := 72) rfl))) (mvT hZ (hw _ (List.mem_of_getElem? (i := 71) rfl))) (by decide) (backOf (W := 0) (rm_rbool l Z a0 hw [] a1 p3 w_key_a1 k_w_key_a1 p2 (List.replicate 16 (Value.int (0 : Int32))) h0 n0 Z0 F_position_a1 F_key_a1 V_w_key_a1 E_a1 g_a1 (ne_exa E_w_key_a1 E_a1 (by decide)) hp2 hp3 hp4 hp5) hZ (hw _ (List.mem_of_getElem? (i := 73) rfl)) (hw _ (List.mem_of_getElem? (i := 4) rfl)) (by decide) (by decide)) q1a q1c (g := (mkF m 51 #[.val (.ref a1), .val (.int p2), .val (.int p3), .val (.int (0 : Int32)), .val (.int (1 : Int32))] [(.ref a1)])) rfl (by rw [hml]; rfl) (Steps.refl _) (argsL := []) (rest := []) (lenOf pd_7 rfl) rfl (by show 2 * 0 + _ ≤ _; exact Nat.le_of_eq rfl) (hb hby d5_51) (fun _ _ => ⟨rfl, e0, (by decide : 0 + 0 ≤ _), (by decide : 0 + 0 ≤ _)⟩)
  dsimp only [Pt.U, Pt.locs, Pt.cells, Pt.slots] at X1 l1 y1 z1 st1 hQ1
  subst l1 y1 z1
  obtain ⟨rfl, Nq1, Kc1, fq1_0, fq1_1, fq1_2⟩ := hQ1
  have ne_w_key_a1_a1 : w_key_a1 ≠ a1 := ne_exa E_w_key_a1 E_a1 (by decide)
  have ne_w_key_a1_s_C : w_key_a1 ≠ s_C := ne_exa E_w_key_a1 E_s_C (by decide)
  have ne_a1_s_C : a1 ≠ s_C := ne_exa E_a1 E_s_C (by decide)
  have f3 : Exa Z T1.heap w_key_a1 "[B" := E_w_key_a1.keep Kc1
  have f4 : Arv Z T1.heap w_key_a1 k_w_key_a1 .byte p2 (List.replicate 16 (Value.int (0 : Int32))) (.int (0 : Int32)) := V_w_key_a1.keep Kc1 (ninS ne_w_key_a1_a1 nin0)
  have f5 : Sta Z T1.heap "jdk/internal/util/Preconditions" "SIOOBE_FORMATTER" "Ljava/util/function/BiFunction;" s_F := own_sta_keep S_SIOOBE_FORMATTER Kc1 (allS (own_plain_cell E_a1) all0)
  have f6 : Sta Z T1.heap "java/nio/charset/StandardCharsets" "ISO_8859_1" "Ljava/nio/charset/Charset;" (.ref s_C) := own_sta_keep S_ISO_8859_1 Kc1 (allS (own_plain_cell E_a1) all0)
  have f7 : Exa Z T1.heap s_C "sun/nio/cs/ISO_8859_1" := E_s_C.keep Kc1
  have f8 : Fld Z T1.heap a1 "com/example/fieldstone/fieldstone/core/KeyReader" "position" "I" (.int (p3 + (1 : Int32))) := fq1_0
  have f9 : Fld Z T1.heap a1 "com/example/fieldstone/fieldstone/core/KeyReader" "key" "[B" (.ref w_key_a1) := fq1_1
  have CR := CR.trans (CHr.keep Kc1 (allS (CR.safe E_a1.lt S0_a1) all0) CR.1)
  have K10 : Keep h0 T1.heap [a1] := (Keep.refl h0 [a1]).trans Kc1 (allS (Or.inl (List.mem_of_getElem? (i := 0) rfl)) all0)
  have hk : _ ≤ T1.heap.size := Nat.le_trans hk Kc1.1
  have Zs11 : n0 ≤ T1.heap.size := Nat.le_trans Z0 Kc1.1
  have N2 := Fr.app N0 Nq1
  obtain ⟨fs, hr, hrun, hended, hRE⟩ := X1.leaveW hS hk (v := some (.int (p3 + (1 : Int32)))) (fun h => by rw [Bd.returns] at h; cases h) Bd.notSynchronized
  refine ⟨_, _, pre0 _ ?_, hrun, hended, _, _, rfl, ?_, ?_, hRE.1, hRE.2.1, hRE.2.2.1, hRE.2.2.2.mono (by decide) (by decide)⟩
  · show Steps p.tables e below (s₁.setTop (mkF m 0 #[.val (.ref a1), .val (.int p2), .val (.int p3), .val (.int (0 : Int32)), .unset] [])) _
    refine XS.iloadN X0.here hx rfl (hb hby d5_0) rfl ?_
    show Steps p.tables e below (s₁.setTop (mkF m 1 #[.val (.ref a1), .val (.int p2), .val (.int p3), .val (.int (0 : Int32)), .unset] [(.int (0 : Int32))])) _
    refine XS.ifNo X0.here hx rfl (hb hby d5_1) rfl ((if0 _ _).trans (teq (by decide : (0 : Int32) = (0 : Int32))).2) ?_
    show Steps p.tables e below (s₁.setTop (mkF m 4 #[.val (.ref a1), .val (.int p2), .val (.int p3), .val (.int (0 : Int32)), .unset] [])) _
    refine XS.iconst X0.here hx rfl (hb hby d5_4) ?_
    show Steps p.tables e below (s₁.setTop (mkF m 5 #[.val (.ref a1), .val (.int p2), .val (.int p3), .val (.int (0 : Int32)), .unset] [(.int (1 : Int32))])) _
    refine XS.istore X0.here hx rfl (hb hby d5_5) rfl (l' := #[.val (.ref a1), .val (.int p2), .val (.int p3), .val (.int (0 : Int32)), .val (.int (1 : Int32))]) rfl ?_
    show Steps p.tables e below (s₁.setTop (mkF m 7 #[.val (.ref a1), .val (.int p2), .val (.int p3), .val (.int (0 : Int32)), .val (.int (1 : Int32))] [])) _
    refine XS.goto X0.here hx rfl (pc0 := 7) (pc' := 36) rfl (hb hby d5_7) (by decide) (by decide) ?_
    show Steps p.tables e below (s₁.setTop (mkF m 36 #[.val (.ref a1), .val (.int p2), .val (.int p3), .val (.int (0 : Int32)), .val (.int (1 : Int32))] [])) _
    refine XS.iloadN X0.here hx rfl (hb hby d5_36) rfl ?_
    refine XS.iloadN X0.here hx rfl (hb hby d5_37) rfl ?_
    show Steps p.tables e below (s₁.setTop (mkF m 38 #[.val (.ref a1), .val (.int p2), .val (.int p3), .val (.int (0 : Int32)), .val (.int (1 : Int32))] [(.int p3), (.int p2)])) _
    refine XS.isub X0.here hx rfl (hb hby d5_38) rfl ?_
    show Steps p.tables e below (s₁.setTop (mkF m 39 #[.val (.ref a1), .val (.int p2), .val (.int p3), .val (.int (0 : Int32)), .val (.int (1 : Int32))] [(.int (p2 - p3))])) _
    refine XS.iload X0.here hx rfl (hb hby d5_39) rfl ?_
    show Steps p.tables e below (s₁.setTop (mkF m 41 #[.val (.ref a1), .val (.int p2), .val (.int p3), .val (.int (0 : Int32)), .val (.int (1 : Int32))] [(.int (1 : Int32)), (.int (p2 - p3))])) _
    refine XS.icmpYes X0.here hx rfl (pc0 := 41) (pc' := 46) rfl (hb hby d5_41) rfl (flt hp1).2.1 (by decide) (by decide) ?_
    show Steps p.tables e below (s₁.setTop (mkF m 46 #[.val (.ref a1), .val (.int p2), .val (.int p3), .val (.int (0 : Int32)), .val (.int (1 : Int32))] [])) _
    refine XS.iloadN X0.here hx rfl (hb hby d5_46) rfl ?_
    show Steps p.tables e below (s₁.setTop (mkF m 47 #[.val (.ref a1), .val (.int p2), .val (.int p3), .val (.int (0 : Int32)), .val (.int (1 : Int32))] [(.int (0 : Int32))])) _
    refine XS.ifNo X0.here hx rfl (hb hby d5_47) rfl ((if0 _ _).trans (teq (by decide : (0 : Int32) = (0 : Int32))).2) ?_
    show Steps p.tables e below (s₁.setTop (mkF m 50 #[.val (.ref a1), .val (.int p2), .val (.int p3), .val (.int (0 : Int32)), .val (.int (1 : Int32))] [])) _
    refine XS.aloadN X0.here hx rfl (hb hby d5_50) rfl rfl ?_
    show Steps p.tables e below (s₁.setTop (mkF m 51 #[.val (.ref a1), .val (.int p2), .val (.int p3), .val (.int (0 : Int32)), .val (.int (1 : Int32))] [(.ref a1)])) _
    refine st1.trans ?_
    show Steps p.tables e below (T1.setTop (mkF m 54 #[.val (.ref a1), .val (.int p2), .val (.int p3), .val (.int (0 : Int32)), .val (.int (1 : Int32))] [(.int (0 : Int32))])) _
    refine XS.pop X1.here hx rfl (hb hby d5_54) rfl rfl ?_
    show Steps p.tables e below (T1.setTop (mkF m 55 #[.val (.ref a1), .val (.int p2), .val (.int p3), .val (.int (0 : Int32)), .val (.int (1 : Int32))] [])) _
    refine XS.goto X1.here hx rfl (pc0 := 55) (pc' := 89) rfl (hb hby d5_55) (by decide) (by decide) ?_
    show Steps p.tables e below (T1.setTop (mkF m 89 #[.val (.ref a1), .val (.int p2), .val (.int p3), .val (.int (0 : Int32)), .val (.int (1 : Int32))] [])) _
    refine XS.iloadN X1.here hx rfl (hb hby d5_89) rfl ?_
    refine XS.iload X1.here hx rfl (hb hby d5_90) rfl ?_
    show Steps p.tables e below (T1.setTop (mkF m 92 #[.val (.ref a1), .val (.int p2), .val (.int p3), .val (.int (0 : Int32)), .val (.int (1 : Int32))] [(.int (1 : Int32)), (.int p3)])) _
    refine XS.iadd X1.here hx rfl (hb hby d5_92) rfl ?_
    show Steps p.tables e below (T1.setTop (mkF m 93 #[.val (.ref a1), .val (.int p2), .val (.int p3), .val (.int (0 : Int32)), .val (.int (1 : Int32))] [(.int (p3 + (1 : Int32)))])) _
    exact retI X1 hx Bd.returns (hb hby d5_93) hr
  · show Q_st0y Z a1 p2 p3 w_key_a1 k_w_key_a1 s_F s_C h0 n0 _ T1.heap _
    exact ⟨rfl, N2, K10, f9, f8, fq1_2⟩
  · show CHr Z consts_1 s.vm s.heap T1.vm T1.heap
    rw [hh]
    exact CR.trans (CHv.at X1 hZ hEW CR.1)
theorem d5_44 : decode method_3_code 44 = .ok (.iload_n 2, 1) := by decide +kernel
theorem d5_45 : decode method_3_code 45 = .ok (.ireturn, 1) := by decide +kernel
def Q_st0n (Z : State) (a1 : Addr) (p2 : Int32) (p3 : Int32) (w_key_a1 : Addr) (k_w_key_a1 : ClassId) (s_F : Value) (s_C : Addr) (h0 : Heap) (n0 : Nat) (v : Option Value) (h : Heap) (L : List Loc) : Prop := v = some (.int p3) ∧ Fr n0 L ∧ h = h0
set_option maxRecDepth 65536 in
set_option maxHeartbeats 40000000 in
theorem rm_st0n (l : Launch) (Z : State) (a0 : Array Value) (hw : ∀ d ∈ tables_1, d.before a0 Z = true) (ws : List Jvm.Cond) (a1 : Addr) (p2 : Int32) (p3 : Int32) (w_key_a1 : Addr) (k_w_key_a1 : ClassId) (s_F : Value) (s_C : Addr) (h0 : Heap) (n0 : Nat) (Z0 : n0 ≤ h0.size) (F_key_a1 : Fld Z h0 a1 "com/example/fieldstone/fieldstone/core/KeyReader" "key" "[B" (.ref w_key_a1)) (E_w_key_a1 : Exa Z h0 w_key_a1 "[B") (V_w_key_a1 : Arv Z h0 w_key_a1 k_w_key_a1 .byte p2 (List.replicate 16 (Value.int (0 : Int32))) (.int (0 : Int32))) (F_position_a1 : Fld Z h0 a1 "com/example/fieldstone/fieldstone/core/KeyReader" "position" "I" (.int p3)) (E_a1 : Exa Z h0 a1 "com/example/fieldstone/fieldstone/core/KeyReader") (g_a1 : n0 ≤ a1) (S_SIOOBE_FORMATTER : Sta Z h0 "jdk/internal/util/Preconditions" "SIOOBE_FORMATTER" "Ljava/util/function/BiFunction;" s_F) (hsr : s_F.isRef = true) (S_ISO_8859_1 : Sta Z h0 "java/nio/charset/StandardCharsets" "ISO_8859_1" "Ljava/nio/charset/Charset;" (.ref s_C)) (E_s_C : Exa Z h0 s_C "sun/nio/cs/ISO_8859_1") (hp1 : (p2 - p3) < (1 : Int32)) :
    MetFree l (⟨"com/example/fieldstone/fieldstone/core/KeyReaderHasRemainingPinLaw", "step", "(Lcom/example/fieldstone/fieldstone/core/KeyReader;III)I"⟩ : MethodName) (head1 (Jvm.Cond.code (⟨"com/example/fieldstone/fieldstone/core/KeyReaderHasRemainingPinLaw", "step", "(Lcom/example/fieldstone/fieldstone/core/KeyReader;III)I"⟩ : MethodName) method_3_code 5 (some .int) :: ws) ({ frames := 4, cells := 5, slots := 12, locals := 65 } : Room)) (fun a U => a = #[(.ref a1), (.int p2), (.int p3), (.int (0 : Int32))] ∧ Z.Warmed39 U.vm ∧ U.heap = h0 ∧ CHv Z consts_1 U.vm h0) (fun _ _ _ _ _ => True) (fun _ U o U' => ∃ v L, o = .returned v ∧ Q_st0n Z a1 p2 p3 w_key_a1 k_w_key_a1 s_F s_C h0 n0 v U'.heap L ∧ CHr Z consts_1 U.vm U.heap U'.vm U'.heap ∧ ReturnedEndW U o U' L ({ frames := 4, cells := 5, slots := 12, locals := 65 } : Room).cells ({ frames := 4, cells := 5, slots := 12, locals := 65 } : Room).slots) := by
  refine MetFree.of_bodySF (plainFor_of_name pn_com_example_fieldstone_fieldstone_core_KeyReaderHasRemainingPinLaw) hisR ?_
  intro p e s m args below meth c s₁ Bd hml0 hP hK
  obtain ⟨rfl, hZ, hh, CH0⟩ := hP
  have hx := Bd.exec
  have hby := Bd.bytes
  have hml : c.maxLocals = 5 := hml0
  have hown : s.vm.findClass "com/example/fieldstone/fieldstone/core/KeyReaderHasRemainingPinLaw" = some m.cls := findClass_of_methodNamed Bd.named
  have hnm := (name_of_methodNamed Bd.named Bd.method).1
  have X0 : Stand p l e ({ frames := 4, cells := 5, slots := 12, locals := 65 } : Room) s m #[(.ref a1), (.int p2), (.int p3), (.int (0 : Int32))] below meth c s₁ [] 0 0 := Stand.of_body Bd
  have e0 : s₁.heap = h0 := by rw [← hh, Bd.state]; rfl
  have N0 := Fr.nil n0
  have hZ : Z.Warmed39 (s.setVm s.vm).vm := hZ
  have hown : (s.setVm s.vm).vm.findClass "com/example/fieldstone/fieldstone/core/KeyReaderHasRemainingPinLaw" = some m.cls := hown
  have hZ0 := hZ
  have hown0 := hown
  have X0 : Stand p l e ({ frames := 4, cells := 5, slots := 12, locals := 65 } : Room) (s.setVm s.vm) m #[(.ref a1), (.int p2), (.int p3), (.int (0 : Int32))] below meth c s₁ [] 0 0 := X0
  have hS : s.Since s.vm h0.size := own_since s _
  have hk : h0.size ≤ h0.size := Nat.le_refl _
  have hEW := own_EW hw
  have CR : CHr Z consts_1 s.vm h0 s.vm h0 := CHr.refl CH0
  have pre0 : ∀ t, Steps p.tables e below (s₁.setTop (mkF m 0 #[.val (.ref a1), .val (.int p2), .val (.int p3), .val (.int (0 : Int32)), .unset] [])) t → Steps p.tables e below (s₁.setTop (entryFrame m #[(.ref a1), (.int p2), (.int p3), (.int (0 : Int32))] 5)) t := fun t k => castTop (ef_5_RIII m a1 p2 p3 (0 : Int32)) k
  obtain ⟨fs, hr, hrun, hended, hRE⟩ := X0.leaveW hS (by rw [e0]; exact hk) (v := some (.int p3)) (fun h => by rw [Bd.returns] at h; cases h) Bd.notSynchronized
  refine ⟨_, _, pre0 _ ?_, hrun, hended, _, _, rfl, ?_, ?_, hRE.1, hRE.2.1, hRE.2.2.1, hRE.2.2.2.mono (by decide) (by decide)⟩
  · show Steps p.tables e below (s₁.setTop (mkF m 0 #[.val (.ref a1), .val (.int p2), .val (.int p3), .val (.int (0 : Int32)), .unset] [])) _
    refine XS.iloadN X0.here hx rfl (hb hby d5_0) rfl ?_
    show Steps p.tables e below (s₁.setTop (mkF m 1 #[.val (.ref a1), .val (.int p2), .val (.int p3), .val (.int (0 : Int32)), .unset] [(.int (0 : Int32))])) _
    refine XS.ifNo X0.here hx rfl (hb hby d5_1) rfl ((if0 _ _).trans (teq (by decide : (0 : Int32) = (0 : Int32))).2) ?_
    show Steps p.tables e below (s₁.setTop (mkF m 4 #[.val (.ref a1), .val (.int p2), .val (.int p3), .val (.int (0 : Int32)), .unset] [])) _
    refine XS.iconst X0.here hx rfl (hb hby d5_4) ?_
    show Steps p.tables e below (s₁.setTop (mkF m 5 #[.val (.ref a1), .val (.int p2), .val (.int p3), .val (.int (0 : Int32)), .unset] [(.int (1 : Int32))])) _
    refine XS.istore X0.here hx rfl (hb hby d5_5) rfl (l' := #[.val (.ref a1), .val (.int p2), .val (.int p3), .val (.int (0 : Int32)), .val (.int (1 : Int32))]) rfl ?_
    show Steps p.tables e below (s₁.setTop (mkF m 7 #[.val (.ref a1), .val (.int p2), .val (.int p3), .val (.int (0 : Int32)), .val (.int (1 : Int32))] [])) _
    refine XS.goto X0.here hx rfl (pc0 := 7) (pc' := 36) rfl (hb hby d5_7) (by decide) (by decide) ?_
    show Steps p.tables e below (s₁.setTop (mkF m 36 #[.val (.ref a1), .val (.int p2), .val (.int p3), .val (.int (0 : Int32)), .val (.int (1 : Int32))] [])) _
    refine XS.iloadN X0.here hx rfl (hb hby d5_36) rfl ?_
    refine XS.iloadN X0.here hx rfl (hb hby d5_37) rfl ?_
    show Steps p.tables e below (s₁.setTop (mkF m 38 #[.val (.ref a1), .val (.int p2), .val (.int p3), .val (.int (0 : Int32)), .val (.int (1 : Int32))] [(.int p3), (.int p2)])) _
    refine XS.isub X0.here hx rfl (hb hby d5_38) rfl ?_
    show Steps p.tables e below (s₁.setTop (mkF m 39 #[.val (.ref a1), .val (.int p2), .val (.int p3), .val (.int (0 : Int32)), .val (.int (1 : Int32))] [(.int (p2 - p3))])) _
    refine XS.iload X0.here hx rfl (hb hby d5_39) rfl ?_
    show Steps p.tables e below (s₁.setTop (mkF m 41 #[.val (.ref a1), .val (.int p2), .val (.int p3), .val (.int (0 : Int32)), .val (.int (1 : Int32))] [(.int (1 : Int32)), (.int (p2 - p3))])) _
    refine XS.icmpNo X0.here hx rfl (hb hby d5_41) rfl (tlt hp1).2.1 ?_
    show Steps p.tables e below (s₁.setTop (mkF m 44 #[.val (.ref a1), .val (.int p2), .val (.int p3), .val (.int (0 : Int32)), .val (.int (1 : Int32))] [])) _
    refine XS.iloadN X0.here hx rfl (hb hby d5_44) rfl ?_
    show Steps p.tables e below (s₁.setTop (mkF m 45 #[.val (.ref a1), .val (.int p2), .val (.int p3), .val (.int (0 : Int32)), .val (.int (1 : Int32))] [(.int p3)])) _
    exact retI X0 hx Bd.returns (hb hby d5_45) hr
  · show Q_st0n Z a1 p2 p3 w_key_a1 k_w_key_a1 s_F s_C h0 n0 _ s₁.heap _
    rw [e0]
    exact ⟨rfl, N0, rfl⟩
  · show CHr Z consts_1 s.vm s.heap s₁.vm s₁.heap
    rw [hh, e0]
    exact CR.trans (CHv.at X0 hZ hEW CR.1)
theorem pd_8 : parseMethodDescriptor "()Ljava/lang/String;" = some ⟨[], some (.object "java/lang/String")⟩ := by decide +kernel
theorem d5_10 : decode method_3_code 10 = .ok (.iload_n 3, 1) := by decide +kernel
theorem d5_11 : decode method_3_code 11 = .ok (.iconst 1, 1) := by decide +kernel
theorem d5_12 : decode method_3_code 12 = .ok (.if_icmp .ne 9, 3) := by decide +kernel
theorem d5_15 : decode method_3_code 15 = .ok (.iconst 2, 1) := by decide +kernel
theorem d5_16 : decode method_3_code 16 = .ok (.istore 4, 2) := by decide +kernel
theorem d5_18 : decode method_3_code 18 = .ok (.goto 18, 3) := by decide +kernel
theorem d5_58 : decode method_3_code 58 = .ok (.iload_n 3, 1) := by decide +kernel
theorem d5_59 : decode method_3_code 59 = .ok (.iconst 1, 1) := by decide +kernel
theorem d5_60 : decode method_3_code 60 = .ok (.if_icmp .ne 11, 3) := by decide +kernel
theorem d5_63 : decode method_3_code 63 = .ok (.aload_n 0, 1) := by decide +kernel
theorem d5_64 : decode method_3_code 64 = .ok (.invokevirtual 26, 3) := by decide +kernel
theorem d5_67 : decode method_3_code 67 = .ok (.pop, 1) := by decide +kernel
theorem d5_68 : decode method_3_code 68 = .ok (.goto 21, 3) := by decide +kernel
def Q_st1y (Z : State) (a1 : Addr) (p2 : Int32) (p3 : Int32) (w_key_a1 : Addr) (k_w_key_a1 : ClassId) (s_F : Value) (s_C : Addr) (h0 : Heap) (n0 : Nat) (v : Option Value) (h : Heap) (L : List Loc) : Prop := v = some (.int (p3 + (2 : Int32))) ∧ Fr n0 L ∧ Keep h0 h [a1] ∧ Fld Z h a1 "com/example/fieldstone/fieldstone/core/KeyReader" "key" "[B" (.ref w_key_a1) ∧ Fld Z h a1 "com/example/fieldstone/fieldstone/core/KeyReader" "position" "I" (.int (p3 + (2 : Int32))) ∧ Exa Z h a1 "com/example/fieldstone/fieldstone/core/KeyReader"
set_option maxRecDepth 65536 in
set_option maxHeartbeats 40000000 in
theorem rm_st1y (l : Launch) (Z : State) (a0 : Array Value) (hw : ∀ d ∈ tables_1, d.before a0 Z = true) (ws : List Jvm.Cond) (a1 : Addr) (p2 : Int32) (p3 : Int32) (w_key_a1 : Addr) (k_w_key_a1 : ClassId) (s_F : Value) (s_C : Addr) (h0 : Heap) (n0 : Nat) (Z0 : n0 ≤ h0.size) (F_key_a1 : Fld Z h0 a1 "com/example/fieldstone/fieldstone/core/KeyReader" "key" "[B" (.ref w_key_a1)) (E_w_key_a1 : Exa Z h0 w_key_a1 "[B") (V_w_key_a1 : Arv Z h0 w_key_a1 k_w_key_a1 .byte p2 (List.replicate 16 (Value.int (0 : Int32))) (.int (0 : Int32))) (F_position_a1 : Fld Z h0 a1 "com/example/fieldstone/fieldstone/core/KeyReader" "position" "I" (.int p3)) (E_a1 : Exa Z h0 a1 "com/example/fieldstone/fieldstone/core/KeyReader") (g_a1 : n0 ≤ a1) (S_SIOOBE_FORMATTER : Sta Z h0 "jdk/internal/util/Preconditions" "SIOOBE_FORMATTER" "Ljava/util/function/BiFunction;" s_F) (hsr : s_F.isRef = true) (S_ISO_8859_1 : Sta Z h0 "java/nio/charset/StandardCharsets" "ISO_8859_1" "Ljava/nio/charset/Charset;" (.ref s_C)) (E_s_C : Exa Z h0 s_C "sun/nio/cs/ISO_8859_1") (hp1 : ¬ ((p2 - p3) < (2 : Int32))) (hp2 : p3 < p2) (hp3 : ¬ (p3 < (0 : Int32))) (hp4 : ¬ ((0 : Int32) < (own_at (List.replicate 16 (Value.int (0 : Int32))) (p3).toNatClampNeg (.int (0 : Int32))))) (hp5 : (p3 + (1 : Int32)) < p2) (hp6 : (own_at (List.replicate 16 (Value.int (0 : Int32))) (p3).toNatClampNeg (.int (0 : Int32))) = (0 : Int32)) (hp7 : ¬ ((p3 + (1 : Int32)) < (0 : Int32))) (hp8 : (own_at (List.replicate 16 (Value.int (0 : Int32))) ((p3 + (1 : Int32))).toNatClampNeg (.int (0 : Int32))) = (0 : Int32)) (hp9 : (p3 - p3) = (0 : Int32)) (hp10 : ¬ (((p2 ||| p3) ||| (0 : Int32)) < (0 : Int32))) (hp11 : ¬ ((p2 - p3) < (0 : Int32))) :
    MetFree l (⟨"com/example/fieldstone/fieldstone/core/KeyReaderHasRemainingPinLaw", "step", "(Lcom/example/fieldstone/fieldstone/core/KeyReader;III)I"⟩ : MethodName) (head1 (Jvm.Cond.code (⟨"com/example/fieldstone/fieldstone/core/KeyReaderHasRemainingPinLaw", "step", "(Lcom/example/fieldstone/fieldstone/core/KeyReader;III)I"⟩ : MethodName) method_3_code 5 (some .int) :: ws) ({ frames := 4, cells := 5, slots := 12, locals := 65 } : Room)) (fun a U => a = #[(.ref a1), (.int p2), (.int p3), (.int (1 : Int32))] ∧ Z.Warmed39 U.vm ∧ U.heap = h0 ∧ CHv Z consts_1 U.vm h0) (fun _ _ _ _ _ => True) (fun _ U o U' => ∃ v L, o = .returned v ∧ Q_st1y Z a1 p2 p3 w_key_a1 k_w_key_a1 s_F s_C h0 n0 v U'.heap L ∧ CHr Z consts_1 U.vm U.heap U'.vm U'.heap ∧ ReturnedEndW U o U' L ({ frames := 4, cells := 5, slots := 12, locals := 65 } : Room).cells ({ frames := 4, cells := 5, slots := 12, locals := 65 } : Room).slots) := by
  refine MetFree.of_bodySF (plainFor_of_name pn_com_example_fieldstone_fieldstone_core_KeyReaderHasRemainingPinLaw) hisR ?_
  intro p e s m args below meth c s₁ Bd hml0 hP hK
  obtain ⟨rfl, hZ, hh, CH0⟩ := hP
  have hx := Bd.exec
  have hby := Bd.bytes
  have hml : c.maxLocals = 5 := hml0
  have hown : s.vm.findClass "com/example/fieldstone/fieldstone/core/KeyReaderHasRemainingPinLaw" = some m.cls := findClass_of_methodNamed Bd.named
  have hnm := (name_of_methodNamed Bd.named Bd.method).1
  have X0 : Stand p l e ({ frames := 4, cells := 5, slots := 12, locals := 65 } : Room) s m #[(.ref a1), (.int p2), (.int p3), (.int (1 : Int32))] below meth c s₁ [] 0 0 := Stand.of_body Bd
  have e0 : s₁.heap = h0 := by rw [← hh, Bd.state]; rfl
  have N0 := Fr.nil n0
  have hZ : Z.Warmed39 (s.setVm s.vm).vm := hZ
  have hown : (s.setVm s.vm).vm.findClass "com/example/fieldstone/fieldstone/core/KeyReaderHasRemainingPinLaw" = some m.cls := hown
  have hZ0 := hZ
  have hown0 := hown
  have X0 : Stand p l e ({ frames := 4, cells := 5, slots := 12, locals := 65 } : Room) (s.setVm s.vm) m #[(.ref a1), (.int p2), (.int p3), (.int (1 : Int32))] below meth c s₁ [] 0 0 := X0
  have hS : s.Since s.vm h0.size := own_since s _
  have hk : h0.size ≤ h0.size := Nat.le_refl _
  have hEW := own_EW hw
  have CR : CHr Z consts_1 s.vm h0 s.vm h0 := CHr.refl CH0
  have pre0 : ∀ t, Steps p.tables e below (s₁.setTop (mkF m 0 #[.val (.ref a1), .val (.int p2), .val (.int p3), .val (.int (1 : Int32)), .unset] [])) t → Steps p.tables e below (s₁.setTop (entryFrame m #[(.ref a1), (.int p2), (.int p3), (.int (1 : Int32))] 5)) t := fun t k => castTop (ef_5_RIII m a1 p2 p3 (1 : Int32)) k
  obtain ⟨cq1, kq1, q1a, q1b, q1c⟩ := isOf hZ e0 E_a1
  obtain ⟨_, _, ⟨T1, L1, k1, n1⟩, -, X1, hS1, hg1, ⟨Lc1, hQ1, l1, y1, z1, CR1⟩, st1⟩ := X0.virtualBackS hx (y := (⟨"com/example/fieldstone/fieldstone/core/KeyReader", "readString", "()Ljava/lang/String;"⟩ : MethodName)) (z := (⟨"com/example/fieldstone/fieldstone/core/KeyReader", "readString", "()Ljava/lang/String;"⟩ : MethodName)) hown (mvT hZ (hw _ (List.mem_of_getElem? (i := 37) rfl))) (mvT hZ (hw _ (List.mem_of_getElem? (i := 38) rfl))) (notFace_of_selects (args := #[]) (mvT hZ (hw _ (List.mem_of_getElem? (i := 40) rfl)))) (mvT hZ (hw _ (List.mem_of_getElem? (i := 40) rfl))) (mvT hZ (hw _ (List.mem_of_getElem? (i := 39) rfl))) (by decide) (backOfSH (W := 0) (rm_rstr l Z a0 hw [] a1 s_F s_C p3 w_key_a1 k_w_key_a1 p2 (List.replicate 16 (Value.int (0 : Int32))) h0 n0 Z0 S_SIOOBE_FORMATTER hsr S_ISO_8859_1 E_s_C F_position_a1 F_key_a1 V_w_key_a1 E_a1 g_a1 (ne_exa E_w_key_a1 E_a1 (by decide)) hp2 hp3 hp4 hp5 hp6 hp7 hp8 hp9 hp10 hp11) hZ (hw _ (List.mem_of_getElem? (i := 41) rfl)) (hw _ (List.mem_of_getElem? (i := 4) rfl)) (by decide) (by decide) hEW CR.1) q1a q1c (g := (mkF m 64 #[.val (.ref a1), .val (.int p2), .val (.int p3), .val (.int (1 : Int32)), .val (.int (2 : Int32))] [(.ref a1)])) rfl (by rw [hml]; rfl) (Steps.refl _) (argsL := []) (rest := []) (lenOf pd_8 rfl) rfl (by show 2 * 0 + _ ≤ _; exact Nat.le_of_eq rfl) (hb hby d5_64) (fun _ _ => ⟨rfl, e0, (by decide : 0 + 5 ≤ _), (by decide : 0 + 12 ≤ _)⟩)
  dsimp only [Pt.U, Pt.locs, Pt.cells, Pt.slots] at X1 l1 y1 z1 st1 hQ1 hS1 hg1 CR1
  subst l1 y1 z1
  rw [e0] at hg1
  obtain ⟨X1, hS, hZ, hown⟩ := rebS hS hk X1 hS1 hg1 hZ hown
  have hZ1 := hZ
  have hown1 := hown
  have hk : _ ≤ T1.heap.size := Nat.le_refl _
  have CR := CR.trans CR1
  obtain ⟨b1_1, rfl, Nq1, g_b1_1, szq_b1_1, Kc1, fq1_0, fq1_1, fq1_2, fq1_3⟩ := hQ1
  have sz_b1_1 : h0.size ≤ b1_1 := Nat.le_trans (Keep.refl h0 [a1]).1 szq_b1_1
  have ne_a1_b1_1 : a1 ≠ b1_1 := Nat.ne_of_lt (Nat.lt_of_lt_of_le F_key_a1.lt szq_b1_1)
  have ne_w_key_a1_b1_1 : w_key_a1 ≠ b1_1 := Nat.ne_of_lt (Nat.lt_of_lt_of_le E_w_key_a1.lt szq_b1_1)
  have ne_s_C_b1_1 : s_C ≠ b1_1 := Nat.ne_of_lt (Nat.lt_of_lt_of_le E_s_C.lt szq_b1_1)
  have ne_w_key_a1_a1 : w_key_a1 ≠ a1 := ne_exa E_w_key_a1 E_a1 (by decide)
  have ne_w_key_a1_s_C : w_key_a1 ≠ s_C := ne_exa E_w_key_a1 E_s_C (by decide)
  have ne_a1_s_C : a1 ≠ s_C := ne_exa E_a1 E_s_C (by decide)
  have f3 : Exa Z T1.heap w_key_a1 "[B" := E_w_key_a1.keep Kc1
  have f4 : Arv Z T1.heap w_key_a1 k_w_key_a1 .byte p2 (List.replicate 16 (Value.int (0 : Int32))) (.int (0 : Int32)) := V_w_key_a1.keep Kc1 (ninS ne_w_key_a1_a1 nin0)
  have f5 : Sta Z T1.heap "jdk/internal/util/Preconditions" "SIOOBE_FORMATTER" "Ljava/util/function/BiFunction;" s_F := own_sta_keep S_SIOOBE_FORMATTER Kc1 (allS (own_plain_cell E_a1) all0)
  have f6 : Sta Z T1.heap "java/nio/charset/StandardCharsets" "ISO_8859_1" "Ljava/nio/charset/Charset;" (.ref s_C) := own_sta_keep S_ISO_8859_1 Kc1 (allS (own_plain_cell E_a1) all0)
  have f7 : Exa Z T1.heap s_C "sun/nio/cs/ISO_8859_1" := E_s_C.keep Kc1
  have f8 : Fld Z T1.heap a1 "com/example/fieldstone/fieldstone/core/KeyReader" "position" "I" (.int (p3 + (2 : Int32))) := fq1_0
  have f9 : Fld Z T1.heap a1 "com/example/fieldstone/fieldstone/core/KeyReader" "key" "[B" (.ref w_key_a1) := fq1_1
  have K10 : Keep h0 T1.heap [a1] := (Keep.refl h0 [a1]).trans Kc1 (allS (Or.inl (List.mem_of_getElem? (i := 0) rfl)) all0)
  have Zs11 : n0 ≤ T1.heap.size := Nat.le_trans Z0 Kc1.1
  have N2 := Fr.app N0 Nq1
  obtain ⟨fs, hr, hrun, hended, hRE⟩ := X1.leaveW hS hk (v := some (.int (p3 + (2 : Int32)))) (fun h => by rw [Bd.returns] at h; cases h) Bd.notSynchronized
  refine ⟨_, _, pre0 _ ?_, hrun, hended, _, _, rfl, ?_, ?_, hRE.1, hRE.2.1, hRE.2.2.1, hRE.2.2.2.mono (by decide) (by decide)⟩
  · show Steps p.tables e below (s₁.setTop (mkF m 0 #[.val (.ref a1), .val (.int p2), .val (.int p3), .val (.int (1 : Int32)), .unset] [])) _
    refine XS.iloadN X0.here hx rfl (hb hby d5_0) rfl ?_
    show Steps p.tables e below (s₁.setTop (mkF m 1 #[.val (.ref a1), .val (.int p2), .val (.int p3), .val (.int (1 : Int32)), .unset] [(.int (1 : Int32))])) _
    refine XS.ifYes X0.here hx rfl (pc0 := 1) (pc' := 10) rfl (hb hby d5_1) rfl ((if0 _ _).trans (feq (by decide : ¬ ((1 : Int32) = (0 : Int32)))).2) (by decide) (by decide) ?_
    show Steps p.tables e below (s₁.setTop (mkF m 10 #[.val (.ref a1), .val (.int p2), .val (.int p3), .val (.int (1 : Int32)), .unset] [])) _
    refine XS.iloadN X0.here hx rfl (hb hby d5_10) rfl ?_
    refine XS.iconst X0.here hx rfl (hb hby d5_11) ?_
    show Steps p.tables e below (s₁.setTop (mkF m 12 #[.val (.ref a1), .val (.int p2), .val (.int p3), .val (.int (1 : Int32)), .unset] [(.int (1 : Int32)), (.int (1 : Int32))])) _
    refine XS.icmpNo X0.here hx rfl (hb hby d5_12) rfl (teq (by decide : (1 : Int32) = (1 : Int32))).2 ?_
    show Steps p.tables e below (s₁.setTop (mkF m 15 #[.val (.ref a1), .val (.int p2), .val (.int p3), .val (.int (1 : Int32)), .unset] [])) _
    refine XS.iconst X0.here hx rfl (hb hby d5_15) ?_
    show Steps p.tables e below (s₁.setTop (mkF m 16 #[.val (.ref a1), .val (.int p2), .val (.int p3), .val (.int (1 : Int32)), .unset] [(.int (2 : Int32))])) _
    refine XS.istore X0.here hx rfl (hb hby d5_16) rfl (l' := #[.val (.ref a1), .val (.int p2), .val (.int p3), .val (.int (1 : Int32)), .val (.int (2 : Int32))]) rfl ?_
    show Steps p.tables e below (s₁.setTop (mkF m 18 #[.val (.ref a1), .val (.int p2), .val (.int p3), .val (.int (1 : Int32)), .val (.int (2 : Int32))] [])) _
    refine XS.goto X0.here hx rfl (pc0 := 18) (pc' := 36) rfl (hb hby d5_18) (by decide) (by decide) ?_
    show Steps p.tables e below (s₁.setTop (mkF m 36 #[.val (.ref a1), .val (.int p2), .val (.int p3), .val (.int (1 : Int32)), .val (.int (2 : Int32))] [])) _
    refine XS.iloadN X0.here hx rfl (hb hby d5_36) rfl ?_
    refine XS.iloadN X0.here hx rfl (hb hby d5_37) rfl ?_
    show Steps p.tables e below (s₁.setTop (mkF m 38 #[.val (.ref a1), .val (.int p2), .val (.int p3), .val (.int (1 : Int32)), .val (.int (2 : Int32))] [(.int p3), (.int p2)])) _
    refine XS.isub X0.here hx rfl (hb hby d5_38) rfl ?_
    show Steps p.tables e below (s₁.setTop (mkF m 39 #[.val (.ref a1), .val (.int p2), .val (.int p3), .val (.int (1 : Int32)), .val (.int (2 : Int32))] [(.int (p2 - p3))])) _
    refine XS.iload X0.here hx rfl (hb hby d5_39) rfl ?_
    show Steps p.tables e below (s₁.setTop (mkF m 41 #[.val (.ref a1), .val (.int p2), .val (.int p3), .val (.int (1 : Int32)), .val (.int (2 : Int32))] [(.int (2 : Int32)), (.int (p2 - p3))])) _
    refine XS.icmpYes X0.here hx rfl (pc0 := 41) (pc' := 46) rfl (hb hby d5_41) rfl (flt hp1).2.1 (by decide) (by decide) ?_
    show Steps p.tables e below (s₁.setTop (mkF m 46 #[.val (.ref a1), .val (.int p2), .val (.int p3), .val (.int (1 : Int32)), .val (.int (2 : Int32))] [])) _
    refine XS.iloadN X0.here hx rfl (hb hby d5_46) rfl ?_
    show Steps p.tables e below (s₁.setTop (mkF m 47 #[.val (.ref a1), .val (.int p2), .val (.int p3), .val (.int (1 : Int32)), .val (.int (2 : Int32))] [(.int (1 : Int32))])) _
    refine XS.ifYes X0.here hx rfl (pc0 := 47) (pc' := 58) rfl (hb hby d5_47) rfl ((if0 _ _).trans (feq (by decide : ¬ ((1 : Int32) = (0 : Int32)))).2) (by decide) (by decide) ?_
    show Steps p.tables e below (s₁.setTop (mkF m 58 #[.val (.ref a1), .val (.int p2), .val (.int p3), .val (.int (1 : Int32)), .val (.int (2 : Int32))] [])) _
    refine XS.iloadN X0.here hx rfl (hb hby d5_58) rfl ?_
    refine XS.iconst X0.here hx rfl (hb hby d5_59) ?_
    show Steps p.tables e below (s₁.setTop (mkF m 60 #[.val (.ref a1), .val (.int p2), .val (.int p3), .val (.int (1 : Int32)), .val (.int (2 : Int32))] [(.int (1 : Int32)), (.int (1 : Int32))])) _
    refine XS.icmpNo X0.here hx rfl (hb hby d5_60) rfl (teq (by decide : (1 : Int32) = (1 : Int32))).2 ?_
    show Steps p.tables e below (s₁.setTop (mkF m 63 #[.val (.ref a1), .val (.int p2), .val (.int p3), .val (.int (1 : Int32)), .val (.int (2 : Int32))] [])) _
    refine XS.aloadN X0.here hx rfl (hb hby d5_63) rfl rfl ?_
    show Steps p.tables e below (s₁.setTop (mkF m 64 #[.val (.ref a1), .val (.int p2), .val (.int p3), .val (.int (1 : Int32)), .val (.int (2 : Int32))] [(.ref a1)])) _
    refine st1.trans ?_
    show Steps p.tables e below (T1.setTop (mkF m 67 #[.val (.ref a1), .val (.int p2), .val (.int p3), .val (.int (1 : Int32)), .val (.int (2 : Int32))] [(.ref b1_1)])) _
    refine XS.pop X1.here hx rfl (hb hby d5_67) rfl rfl ?_
    show Steps p.tables e below (T1.setTop (mkF m 68 #[.val (.ref a1), .val (.int p2), .val (.int p3), .val (.int (1 : Int32)), .val (.int (2 : Int32))] [])) _
    refine XS.goto X1.here hx rfl (pc0 := 68) (pc' := 89) rfl (hb hby d5_68) (by decide) (by decide) ?_
    show Steps p.tables e below (T1.setTop (mkF m 89 #[.val (.ref a1), .val (.int p2), .val (.int p3), .val (.int (1 : Int32)), .val (.int (2 : Int32))] [])) _
    refine XS.iloadN X1.here hx rfl (hb hby d5_89) rfl ?_
    refine XS.iload X1.here hx rfl (hb hby d5_90) rfl ?_
    show Steps p.tables e below (T1.setTop (mkF m 92 #[.val (.ref a1), .val (.int p2), .val (.int p3), .val (.int (1 : Int32)), .val (.int (2 : Int32))] [(.int (2 : Int32)), (.int p3)])) _
    refine XS.iadd X1.here hx rfl (hb hby d5_92) rfl ?_
    show Steps p.tables e below (T1.setTop (mkF m 93 #[.val (.ref a1), .val (.int p2), .val (.int p3), .val (.int (1 : Int32)), .val (.int (2 : Int32))] [(.int (p3 + (2 : Int32)))])) _
    exact retI X1 hx Bd.returns (hb hby d5_93) hr
  · show Q_st1y Z a1 p2 p3 w_key_a1 k_w_key_a1 s_F s_C h0 n0 _ T1.heap _
    exact ⟨rfl, N2, K10, f9, f8, fq1_2⟩
  · show CHr Z consts_1 s.vm s.heap T1.vm T1.heap
    rw [hh]
    exact CR.trans (CHv.at X1 hZ hEW CR.1)
def Q_st1n (Z : State) (a1 : Addr) (p2 : Int32) (p3 : Int32) (w_key_a1 : Addr) (k_w_key_a1 : ClassId) (s_F : Value) (s_C : Addr) (h0 : Heap) (n0 : Nat) (v : Option Value) (h : Heap) (L : List Loc) : Prop := v = some (.int p3) ∧ Fr n0 L ∧ h = h0
set_option maxRecDepth 65536 in
set_option maxHeartbeats 40000000 in
theorem rm_st1n (l : Launch) (Z : State) (a0 : Array Value) (hw : ∀ d ∈ tables_1, d.before a0 Z = true) (ws : List Jvm.Cond) (a1 : Addr) (p2 : Int32) (p3 : Int32) (w_key_a1 : Addr) (k_w_key_a1 : ClassId) (s_F : Value) (s_C : Addr) (h0 : Heap) (n0 : Nat) (Z0 : n0 ≤ h0.size) (F_key_a1 : Fld Z h0 a1 "com/example/fieldstone/fieldstone/core/KeyReader" "key" "[B" (.ref w_key_a1)) (E_w_key_a1 : Exa Z h0 w_key_a1 "[B") (V_w_key_a1 : Arv Z h0 w_key_a1 k_w_key_a1 .byte p2 (List.replicate 16 (Value.int (0 : Int32))) (.int (0 : Int32))) (F_position_a1 : Fld Z h0 a1 "com/example/fieldstone/fieldstone/core/KeyReader" "position" "I" (.int p3)) (E_a1 : Exa Z h0 a1 "com/example/fieldstone/fieldstone/core/KeyReader") (g_a1 : n0 ≤ a1) (S_SIOOBE_FORMATTER : Sta Z h0 "jdk/internal/util/Preconditions" "SIOOBE_FORMATTER" "Ljava/util/function/BiFunction;" s_F) (hsr : s_F.isRef = true) (S_ISO_8859_1 : Sta Z h0 "java/nio/charset/StandardCharsets" "ISO_8859_1" "Ljava/nio/charset/Charset;" (.ref s_C)) (E_s_C : Exa Z h0 s_C "sun/nio/cs/ISO_8859_1") (hp1 : (p2 - p3) < (2 : Int32)) :
    MetFree l (⟨"com/example/fieldstone/fieldstone/core/KeyReaderHasRemainingPinLaw", "step", "(Lcom/example/fieldstone/fieldstone/core/KeyReader;III)I"⟩ : MethodName) (head1 (Jvm.Cond.code (⟨"com/example/fieldstone/fieldstone/core/KeyReaderHasRemainingPinLaw", "step", "(Lcom/example/fieldstone/fieldstone/core/KeyReader;III)I"⟩ : MethodName) method_3_code 5 (some .int) :: ws) ({ frames := 4, cells := 5, slots := 12, locals := 65 } : Room)) (fun a U => a = #[(.ref a1), (.int p2), (.int p3), (.int (1 : Int32))] ∧ Z.Warmed39 U.vm ∧ U.heap = h0 ∧ CHv Z consts_1 U.vm h0) (fun _ _ _ _ _ => True) (fun _ U o U' => ∃ v L, o = .returned v ∧ Q_st1n Z a1 p2 p3 w_key_a1 k_w_key_a1 s_F s_C h0 n0 v U'.heap L ∧ CHr Z consts_1 U.vm U.heap U'.vm U'.heap ∧ ReturnedEndW U o U' L ({ frames := 4, cells := 5, slots := 12, locals := 65 } : Room).cells ({ frames := 4, cells := 5, slots := 12, locals := 65 } : Room).slots) := by
  refine MetFree.of_bodySF (plainFor_of_name pn_com_example_fieldstone_fieldstone_core_KeyReaderHasRemainingPinLaw) hisR ?_
  intro p e s m args below meth c s₁ Bd hml0 hP hK
  obtain ⟨rfl, hZ, hh, CH0⟩ := hP
  have hx := Bd.exec
  have hby := Bd.bytes
  have hml : c.maxLocals = 5 := hml0
  have hown : s.vm.findClass "com/example/fieldstone/fieldstone/core/KeyReaderHasRemainingPinLaw" = some m.cls := findClass_of_methodNamed Bd.named
  have hnm := (name_of_methodNamed Bd.named Bd.method).1
  have X0 : Stand p l e ({ frames := 4, cells := 5, slots := 12, locals := 65 } : Room) s m #[(.ref a1), (.int p2), (.int p3), (.int (1 : Int32))] below meth c s₁ [] 0 0 := Stand.of_body Bd
  have e0 : s₁.heap = h0 := by rw [← hh, Bd.state]; rfl
  have N0 := Fr.nil n0
  have hZ : Z.Warmed39 (s.setVm s.vm).vm := hZ
  have hown : (s.setVm s.vm).vm.findClass "com/example/fieldstone/fieldstone/core/KeyReaderHasRemainingPinLaw" = some m.cls := hown
  have hZ0 := hZ
  have hown0 := hown
  have X0 : Stand p l e ({ frames := 4, cells := 5, slots := 12, locals := 65 } : Room) (s.setVm s.vm) m #[(.ref a1), (.int p2), (.int p3), (.int (1 : Int32))] below meth c s₁ [] 0 0 := X0
  have hS : s.Since s.vm h0.size := own_since s _
  have hk : h0.size ≤ h0.size := Nat.le_refl _
  have hEW := own_EW hw
  have CR : CHr Z consts_1 s.vm h0 s.vm h0 := CHr.refl CH0
  have pre0 : ∀ t, Steps p.tables e below (s₁.setTop (mkF m 0 #[.val (.ref a1), .val (.int p2), .val (.int p3), .val (.int (1 : Int32)), .unset] [])) t → Steps p.tables e below (s₁.setTop (entryFrame m #[(.ref a1), (.int p2), (.int p3), (.int (1 : Int32))] 5)) t := fun t k => castTop (ef_5_RIII m a1 p2 p3 (1 : Int32)) k
  obtain ⟨fs, hr, hrun, hended, hRE⟩ := X0.leaveW hS (by rw [e0]; exact hk) (v := some (.int p3)) (fun h => by rw [Bd.returns] at h; cases h) Bd.notSynchronized
  refine ⟨_, _, pre0 _ ?_, hrun, hended, _, _, rfl, ?_, ?_, hRE.1, hRE.2.1, hRE.2.2.1, hRE.2.2.2.mono (by decide) (by decide)⟩
  · show Steps p.tables e below (s₁.setTop (mkF m 0 #[.val (.ref a1), .val (.int p2), .val (.int p3), .val (.int (1 : Int32)), .unset] [])) _
    refine XS.iloadN X0.here hx rfl (hb hby d5_0) rfl ?_
    show Steps p.tables e below (s₁.setTop (mkF m 1 #[.val (.ref a1), .val (.int p2), .val (.int p3), .val (.int (1 : Int32)), .unset] [(.int (1 : Int32))])) _
    refine XS.ifYes X0.here hx rfl (pc0 := 1) (pc' := 10) rfl (hb hby d5_1) rfl ((if0 _ _).trans (feq (by decide : ¬ ((1 : Int32) = (0 : Int32)))).2) (by decide) (by decide) ?_
    show Steps p.tables e below (s₁.setTop (mkF m 10 #[.val (.ref a1), .val (.int p2), .val (.int p3), .val (.int (1 : Int32)), .unset] [])) _
    refine XS.iloadN X0.here hx rfl (hb hby d5_10) rfl ?_
    refine XS.iconst X0.here hx rfl (hb hby d5_11) ?_
    show Steps p.tables e below (s₁.setTop (mkF m 12 #[.val (.ref a1), .val (.int p2), .val (.int p3), .val (.int (1 : Int32)), .unset] [(.int (1 : Int32)), (.int (1 : Int32))])) _
    refine XS.icmpNo X0.here hx rfl (hb hby d5_12) rfl (teq (by decide : (1 : Int32) = (1 : Int32))).2 ?_
    show Steps p.tables e below (s₁.setTop (mkF m 15 #[.val (.ref a1), .val (.int p2), .val (.int p3), .val (.int (1 : Int32)), .unset] [])) _
    refine XS.iconst X0.here hx rfl (hb hby d5_15) ?_
    show Steps p.tables e below (s₁.setTop (mkF m 16 #[.val (.ref a1), .val (.int p2), .val (.int p3), .val (.int (1 : Int32)), .unset] [(.int (2 : Int32))])) _
    refine XS.istore X0.here hx rfl (hb hby d5_16) rfl (l' := #[.val (.ref a1), .val (.int p2), .val (.int p3), .val (.int (1 : Int32)), .val (.int (2 : Int32))]) rfl ?_
    show Steps p.tables e below (s₁.setTop (mkF m 18 #[.val (.ref a1), .val (.int p2), .val (.int p3), .val (.int (1 : Int32)), .val (.int (2 : Int32))] [])) _
    refine XS.goto X0.here hx rfl (pc0 := 18) (pc' := 36) rfl (hb hby d5_18) (by decide) (by decide) ?_
    show Steps p.tables e below (s₁.setTop (mkF m 36 #[.val (.ref a1), .val (.int p2), .val (.int p3), .val (.int (1 : Int32)), .val (.int (2 : Int32))] [])) _
    refine XS.iloadN X0.here hx rfl (hb hby d5_36) rfl ?_
    refine XS.iloadN X0.here hx rfl (hb hby d5_37) rfl ?_
    show Steps p.tables e below (s₁.setTop (mkF m 38 #[.val (.ref a1), .val (.int p2), .val (.int p3), .val (.int (1 : Int32)), .val (.int (2 : Int32))] [(.int p3), (.int p2)])) _
    refine XS.isub X0.here hx rfl (hb hby d5_38) rfl ?_
    show Steps p.tables e below (s₁.setTop (mkF m 39 #[.val (.ref a1), .val (.int p2), .val (.int p3), .val (.int (1 : Int32)), .val (.int (2 : Int32))] [(.int (p2 - p3))])) _
    refine XS.iload X0.here hx rfl (hb hby d5_39) rfl ?_
    show Steps p.tables e below (s₁.setTop (mkF m 41 #[.val (.ref a1), .val (.int p2), .val (.int p3), .val (.int (1 : Int32)), .val (.int (2 : Int32))] [(.int (2 : Int32)), (.int (p2 - p3))])) _
    refine XS.icmpNo X0.here hx rfl (hb hby d5_41) rfl (tlt hp1).2.1 ?_
    show Steps p.tables e below (s₁.setTop (mkF m 44 #[.val (.ref a1), .val (.int p2), .val (.int p3), .val (.int (1 : Int32)), .val (.int (2 : Int32))] [])) _
    refine XS.iloadN X0.here hx rfl (hb hby d5_44) rfl ?_
    show Steps p.tables e below (s₁.setTop (mkF m 45 #[.val (.ref a1), .val (.int p2), .val (.int p3), .val (.int (1 : Int32)), .val (.int (2 : Int32))] [(.int p3)])) _
    exact retI X0 hx Bd.returns (hb hby d5_45) hr
  · show Q_st1n Z a1 p2 p3 w_key_a1 k_w_key_a1 s_F s_C h0 n0 _ s₁.heap _
    rw [e0]
    exact ⟨rfl, N0, rfl⟩
  · show CHr Z consts_1 s.vm s.heap s₁.vm s₁.heap
    rw [hh, e0]
    exact CR.trans (CHv.at X0 hZ hEW CR.1)
theorem pd_9 : parseMethodDescriptor "()I" = some ⟨[], some .int⟩ := by decide +kernel
theorem d5_21 : decode method_3_code 21 = .ok (.iload_n 3, 1) := by decide +kernel
theorem d5_22 : decode method_3_code 22 = .ok (.iconst 2, 1) := by decide +kernel
theorem d5_23 : decode method_3_code 23 = .ok (.if_icmp .ne 9, 3) := by decide +kernel
theorem d5_26 : decode method_3_code 26 = .ok (.iconst 4, 1) := by decide +kernel
theorem d5_27 : decode method_3_code 27 = .ok (.istore 4, 2) := by decide +kernel
theorem d5_29 : decode method_3_code 29 = .ok (.goto 7, 3) := by decide +kernel
theorem d5_71 : decode method_3_code 71 = .ok (.iload_n 3, 1) := by decide +kernel
theorem d5_72 : decode method_3_code 72 = .ok (.iconst 2, 1) := by decide +kernel
theorem d5_73 : decode method_3_code 73 = .ok (.if_icmp .ne 11, 3) := by decide +kernel
theorem d5_76 : decode method_3_code 76 = .ok (.aload_n 0, 1) := by decide +kernel
theorem d5_77 : decode method_3_code 77 = .ok (.invokevirtual 30, 3) := by decide +kernel
theorem d5_80 : decode method_3_code 80 = .ok (.pop, 1) := by decide +kernel
theorem d5_81 : decode method_3_code 81 = .ok (.goto 8, 3) := by decide +kernel
def Q_st2y (Z : State) (a1 : Addr) (p2 : Int32) (p3 : Int32) (w_key_a1 : Addr) (k_w_key_a1 : ClassId) (s_F : Value) (s_C : Addr) (h0 : Heap) (n0 : Nat) (v : Option Value) (h : Heap) (L : List Loc) : Prop := v = some (.int (p3 + (4 : Int32))) ∧ Fr n0 L ∧ Keep h0 h [a1] ∧ Fld Z h a1 "com/example/fieldstone/fieldstone/core/KeyReader" "key" "[B" (.ref w_key_a1) ∧ Fld Z h a1 "com/example/fieldstone/fieldstone/core/KeyReader" "position" "I" (.int (p3 + (4 : Int32))) ∧ Exa Z h a1 "com/example/fieldstone/fieldstone/core/KeyReader"
set_option maxRecDepth 65536 in
set_option maxHeartbeats 40000000 in
theorem rm_st2y (l : Launch) (Z : State) (a0 : Array Value) (hw : ∀ d ∈ tables_1, d.before a0 Z = true) (ws : List Jvm.Cond) (a1 : Addr) (p2 : Int32) (p3 : Int32) (w_key_a1 : Addr) (k_w_key_a1 : ClassId) (s_F : Value) (s_C : Addr) (h0 : Heap) (n0 : Nat) (Z0 : n0 ≤ h0.size) (F_key_a1 : Fld Z h0 a1 "com/example/fieldstone/fieldstone/core/KeyReader" "key" "[B" (.ref w_key_a1)) (E_w_key_a1 : Exa Z h0 w_key_a1 "[B") (V_w_key_a1 : Arv Z h0 w_key_a1 k_w_key_a1 .byte p2 (List.replicate 16 (Value.int (0 : Int32))) (.int (0 : Int32))) (F_position_a1 : Fld Z h0 a1 "com/example/fieldstone/fieldstone/core/KeyReader" "position" "I" (.int p3)) (E_a1 : Exa Z h0 a1 "com/example/fieldstone/fieldstone/core/KeyReader") (g_a1 : n0 ≤ a1) (S_SIOOBE_FORMATTER : Sta Z h0 "jdk/internal/util/Preconditions" "SIOOBE_FORMATTER" "Ljava/util/function/BiFunction;" s_F) (hsr : s_F.isRef = true) (S_ISO_8859_1 : Sta Z h0 "java/nio/charset/StandardCharsets" "ISO_8859_1" "Ljava/nio/charset/Charset;" (.ref s_C)) (E_s_C : Exa Z h0 s_C "sun/nio/cs/ISO_8859_1") (hp1 : ¬ ((p2 - p3) < (4 : Int32))) (hp2 : ¬ ((p3 + (0 : Int32)) < (0 : Int32))) (hp3 : (p3 + (0 : Int32)) < p2) (hp4 : ¬ ((p3 + (1 : Int32)) < (0 : Int32))) (hp5 : (p3 + (1 : Int32)) < p2) (hp6 : ¬ ((p3 + (2 : Int32)) < (0 : Int32))) (hp7 : (p3 + (2 : Int32)) < p2) (hp8 : ¬ ((p3 + (3 : Int32)) < (0 : Int32))) (hp9 : (p3 + (3 : Int32)) < p2) :
    MetFree l (⟨"com/example/fieldstone/fieldstone/core/KeyReaderHasRemainingPinLaw", "step", "(Lcom/example/fieldstone/fieldstone/core/KeyReader;III)I"⟩ : MethodName) (head1 (Jvm.Cond.code (⟨"com/example/fieldstone/fieldstone/core/KeyReaderHasRemainingPinLaw", "step", "(Lcom/example/fieldstone/fieldstone/core/KeyReader;III)I"⟩ : MethodName) method_3_code 5 (some .int) :: ws) ({ frames := 4, cells := 5, slots := 12, locals := 65 } : Room)) (fun a U => a = #[(.ref a1), (.int p2), (.int p3), (.int (2 : Int32))] ∧ Z.Warmed39 U.vm ∧ U.heap = h0 ∧ CHv Z consts_1 U.vm h0) (fun _ _ _ _ _ => True) (fun _ U o U' => ∃ v L, o = .returned v ∧ Q_st2y Z a1 p2 p3 w_key_a1 k_w_key_a1 s_F s_C h0 n0 v U'.heap L ∧ CHr Z consts_1 U.vm U.heap U'.vm U'.heap ∧ ReturnedEndW U o U' L ({ frames := 4, cells := 5, slots := 12, locals := 65 } : Room).cells ({ frames := 4, cells := 5, slots := 12, locals := 65 } : Room).slots) := by
  refine MetFree.of_bodySF (plainFor_of_name pn_com_example_fieldstone_fieldstone_core_KeyReaderHasRemainingPinLaw) hisR ?_
  intro p e s m args below meth c s₁ Bd hml0 hP hK
  obtain ⟨rfl, hZ, hh, CH0⟩ := hP
  have hx := Bd.exec
  have hby := Bd.bytes
  have hml : c.maxLocals = 5 := hml0
  have hown : s.vm.findClass "com/example/fieldstone/fieldstone/core/KeyReaderHasRemainingPinLaw" = some m.cls := findClass_of_methodNamed Bd.named
  have hnm := (name_of_methodNamed Bd.named Bd.method).1
  have X0 : Stand p l e ({ frames := 4, cells := 5, slots := 12, locals := 65 } : Room) s m #[(.ref a1), (.int p2), (.int p3), (.int (2 : Int32))] below meth c s₁ [] 0 0 := Stand.of_body Bd
  have e0 : s₁.heap = h0 := by rw [← hh, Bd.state]; rfl
  have N0 := Fr.nil n0
  have hZ : Z.Warmed39 (s.setVm s.vm).vm := hZ
  have hown : (s.setVm s.vm).vm.findClass "com/example/fieldstone/fieldstone/core/KeyReaderHasRemainingPinLaw" = some m.cls := hown
  have hZ0 := hZ
  have hown0 := hown
  have X0 : Stand p l e ({ frames := 4, cells := 5, slots := 12, locals := 65 } : Room) (s.setVm s.vm) m #[(.ref a1), (.int p2), (.int p3), (.int (2 : Int32))] below meth c s₁ [] 0 0 := X0
  have hS : s.Since s.vm h0.size := own_since s _
  have hk : h0.size ≤ h0.size := Nat.le_refl _
  have hEW := own_EW hw
  have CR : CHr Z consts_1 s.vm h0 s.vm h0 := CHr.refl CH0
  have S0_a1 : Safe Z consts_1 s.vm h0 a1 := Safe.exa hZ.alike E_a1 (by decide) (by decide)
  have pre0 : ∀ t, Steps p.tables e below (s₁.setTop (mkF m 0 #[.val (.ref a1), .val (.int p2), .val (.int p3), .val (.int (2 : Int32)), .unset] [])) t → Steps p.tables e below (s₁.setTop (entryFrame m #[(.ref a1), (.int p2), (.int p3), (.int (2 : Int32))] 5)) t := fun t k => castTop (ef_5_RIII m a1 p2 p3 (2 : Int32)) k
  obtain ⟨cq1, kq1, q1a, q1b, q1c⟩ := isOf hZ e0 E_a1
  obtain ⟨_, _, ⟨T1, L1, k1, n1⟩, -, X1, ⟨Lc1, hQ1, l1, y1, z1⟩, st1⟩ := X0.virtualBack hx (y := (⟨"com/example/fieldstone/fieldstone/core/KeyReader", "readInt", "()I"⟩ : MethodName)) (z := (⟨"com/example/fieldstone/fieldstone/core/KeyReader", "readInt", "()I"⟩ : MethodName)) hown (mvT hZ (hw _ (List.mem_of_getElem? (i := 84) rfl))) (mvT hZ (hw _ (List.mem_of_getElem? (i := 85) rfl))) (notFace_of_selects (args := #[]) (mvT hZ (hw _ (List.mem_of_getElem? (i := 87) rfl)))) (mvT hZ (hw _ (List.mem_of_getElem? (i := 87) rfl))) (mvT hZ (hw _ (List.mem_of_getElem? (i := 86) rfl))) (by decide) (backOf (W := 0) (rm_rint l Z a0 hw [] a1 w_key_a1 k_w_key_a1 p2 (List.replicate 16 (Value.int (0 : Int32))) p3 h0 n0 Z0 F_key_a1 V_w_key_a1 F_position_a1 E_a1 g_a1 (ne_exa E_w_key_a1 E_a1 (by decide)) hp1 hp2 hp3 hp4 hp5 hp6 hp7 hp8 hp9) hZ (hw _ (List.mem_of_getElem? (i := 88) rfl)) (hw _ (List.mem_of_getElem? (i := 4) rfl)) (by decide) (by decide)) q1a q1c (g := (mkF m 77 #[.val (.ref a1), .val (.int p2), .val (.int p3), .val (.int (2 : Int32)), .val (.int (4 : Int32))] [(.ref a1)])) rfl (by rw [hml]; rfl) (Steps.refl _) (argsL := []) (rest := []) (lenOf pd_9 rfl) rfl (by show 2 * 0 + _ ≤ _; exact Nat.le_of_eq rfl) (hb hby d5_77) (fun _ _ => ⟨rfl, e0, (by decide : 0 + 0 ≤ _), (by decide : 0 + 0 ≤ _)⟩)
  dsimp only [Pt.U, Pt.locs, Pt.cells, Pt.slots] at X1 l1 y1 z1 st1 hQ1
  subst l1 y1 z1
  obtain ⟨rfl, Nq1, Kc1, fq1_0, fq1_1, fq1_2⟩ := hQ1
  have ne_w_key_a1_a1 : w_key_a1 ≠ a1 := ne_exa E_w_key_a1 E_a1 (by decide)
  have ne_w_key_a1_s_C : w_key_a1 ≠ s_C := ne_exa E_w_key_a1 E_s_C (by decide)
  have ne_a1_s_C : a1 ≠ s_C := ne_exa E_a1 E_s_C (by decide)
  have f3 : Exa Z T1.heap w_key_a1 "[B" := E_w_key_a1.keep Kc1
  have f4 : Arv Z T1.heap w_key_a1 k_w_key_a1 .byte p2 (List.replicate 16 (Value.int (0 : Int32))) (.int (0 : Int32)) := V_w_key_a1.keep Kc1 (ninS ne_w_key_a1_a1 nin0)
  have f5 : Sta Z T1.heap "jdk/internal/util/Preconditions" "SIOOBE_FORMATTER" "Ljava/util/function/BiFunction;" s_F := own_sta_keep S_SIOOBE_FORMATTER Kc1 (allS (own_plain_cell E_a1) all0)
  have f6 : Sta Z T1.heap "java/nio/charset/StandardCharsets" "ISO_8859_1" "Ljava/nio/charset/Charset;" (.ref s_C) := own_sta_keep S_ISO_8859_1 Kc1 (allS (own_plain_cell E_a1) all0)
  have f7 : Exa Z T1.heap s_C "sun/nio/cs/ISO_8859_1" := E_s_C.keep Kc1
  have f8 : Fld Z T1.heap a1 "com/example/fieldstone/fieldstone/core/KeyReader" "key" "[B" (.ref w_key_a1) := fq1_0
  have f9 : Fld Z T1.heap a1 "com/example/fieldstone/fieldstone/core/KeyReader" "position" "I" (.int (p3 + (4 : Int32))) := fq1_1
  have CR := CR.trans (CHr.keep Kc1 (allS (CR.safe E_a1.lt S0_a1) all0) CR.1)
  have K10 : Keep h0 T1.heap [a1] := (Keep.refl h0 [a1]).trans Kc1 (allS (Or.inl (List.mem_of_getElem? (i := 0) rfl)) all0)
  have hk : _ ≤ T1.heap.size := Nat.le_trans hk Kc1.1
  have Zs11 : n0 ≤ T1.heap.size := Nat.le_trans Z0 Kc1.1
  have N2 := Fr.app N0 Nq1
  obtain ⟨fs, hr, hrun, hended, hRE⟩ := X1.leaveW hS hk (v := some (.int (p3 + (4 : Int32)))) (fun h => by rw [Bd.returns] at h; cases h) Bd.notSynchronized
  refine ⟨_, _, pre0 _ ?_, hrun, hended, _, _, rfl, ?_, ?_, hRE.1, hRE.2.1, hRE.2.2.1, hRE.2.2.2.mono (by decide) (by decide)⟩
  · show Steps p.tables e below (s₁.setTop (mkF m 0 #[.val (.ref a1), .val (.int p2), .val (.int p3), .val (.int (2 : Int32)), .unset] [])) _
    refine XS.iloadN X0.here hx rfl (hb hby d5_0) rfl ?_
    show Steps p.tables e below (s₁.setTop (mkF m 1 #[.val (.ref a1), .val (.int p2), .val (.int p3), .val (.int (2 : Int32)), .unset] [(.int (2 : Int32))])) _
    refine XS.ifYes X0.here hx rfl (pc0 := 1) (pc' := 10) rfl (hb hby d5_1) rfl ((if0 _ _).trans (feq (by decide : ¬ ((2 : Int32) = (0 : Int32)))).2) (by decide) (by decide) ?_
    show Steps p.tables e below (s₁.setTop (mkF m 10 #[.val (.ref a1), .val (.int p2), .val (.int p3), .val (.int (2 : Int32)), .unset] [])) _
    refine XS.iloadN X0.here hx rfl (hb hby d5_10) rfl ?_
    refine XS.iconst X0.here hx rfl (hb hby d5_11) ?_
    show Steps p.tables e below (s₁.setTop (mkF m 12 #[.val (.ref a1), .val (.int p2), .val (.int p3), .val (.int (2 : Int32)), .unset] [(.int (1 : Int32)), (.int (2 : Int32))])) _
    refine XS.icmpYes X0.here hx rfl (pc0 := 12) (pc' := 21) rfl (hb hby d5_12) rfl (feq (by decide : ¬ ((2 : Int32) = (1 : Int32)))).2 (by decide) (by decide) ?_
    show Steps p.tables e below (s₁.setTop (mkF m 21 #[.val (.ref a1), .val (.int p2), .val (.int p3), .val (.int (2 : Int32)), .unset] [])) _
    refine XS.iloadN X0.here hx rfl (hb hby d5_21) rfl ?_
    refine XS.iconst X0.here hx rfl (hb hby d5_22) ?_
    show Steps p.tables e below (s₁.setTop (mkF m 23 #[.val (.ref a1), .val (.int p2), .val (.int p3), .val (.int (2 : Int32)), .unset] [(.int (2 : Int32)), (.int (2 : Int32))])) _
    refine XS.icmpNo X0.here hx rfl (hb hby d5_23) rfl (teq (by decide : (2 : Int32) = (2 : Int32))).2 ?_
    show Steps p.tables e below (s₁.setTop (mkF m 26 #[.val (.ref a1), .val (.int p2), .val (.int p3), .val (.int (2 : Int32)), .unset] [])) _
    refine XS.iconst X0.here hx rfl (hb hby d5_26) ?_
    show Steps p.tables e below (s₁.setTop (mkF m 27 #[.val (.ref a1), .val (.int p2), .val (.int p3), .val (.int (2 : Int32)), .unset] [(.int (4 : Int32))])) _
    refine XS.istore X0.here hx rfl (hb hby d5_27) rfl (l' := #[.val (.ref a1), .val (.int p2), .val (.int p3), .val (.int (2 : Int32)), .val (.int (4 : Int32))]) rfl ?_
    show Steps p.tables e below (s₁.setTop (mkF m 29 #[.val (.ref a1), .val (.int p2), .val (.int p3), .val (.int (2 : Int32)), .val (.int (4 : Int32))] [])) _
    refine XS.goto X0.here hx rfl (pc0 := 29) (pc' := 36) rfl (hb hby d5_29) (by decide) (by decide) ?_
    show Steps p.tables e below (s₁.setTop (mkF m 36 #[.val (.ref a1), .val (.int p2), .val (.int p3), .val (.int (2 : Int32)), .val (.int (4 : Int32))] [])) _
    refine XS.iloadN X0.here hx rfl (hb hby d5_36) rfl ?_
    refine XS.iloadN X0.here hx rfl (hb hby d5_37) rfl ?_
    show Steps p.tables e below (s₁.setTop (mkF m 38 #[.val (.ref a1), .val (.int p2), .val (.int p3), .val (.int (2 : Int32)), .val (.int (4 : Int32))] [(.int p3), (.int p2)])) _
    refine XS.isub X0.here hx rfl (hb hby d5_38) rfl ?_
    show Steps p.tables e below (s₁.setTop (mkF m 39 #[.val (.ref a1), .val (.int p2), .val (.int p3), .val (.int (2 : Int32)), .val (.int (4 : Int32))] [(.int (p2 - p3))])) _
    refine XS.iload X0.here hx rfl (hb hby d5_39) rfl ?_
    show Steps p.tables e below (s₁.setTop (mkF m 41 #[.val (.ref a1), .val (.int p2), .val (.int p3), .val (.int (2 : Int32)), .val (.int (4 : Int32))] [(.int (4 : Int32)), (.int (p2 - p3))])) _
    refine XS.icmpYes X0.here hx rfl (pc0 := 41) (pc' := 46) rfl (hb hby d5_41) rfl (flt hp1).2.1 (by decide) (by decide) ?_
    show Steps p.tables e below (s₁.setTop (mkF m 46 #[.val (.ref a1), .val (.int p2), .val (.int p3), .val (.int (2 : Int32)), .val (.int (4 : Int32))] [])) _
    refine XS.iloadN X0.here hx rfl (hb hby d5_46) rfl ?_
    show Steps p.tables e below (s₁.setTop (mkF m 47 #[.val (.ref a1), .val (.int p2), .val (.int p3), .val (.int (2 : Int32)), .val (.int (4 : Int32))] [(.int (2 : Int32))])) _
    refine XS.ifYes X0.here hx rfl (pc0 := 47) (pc' := 58) rfl (hb hby d5_47) rfl ((if0 _ _).trans (feq (by decide : ¬ ((2 : Int32) = (0 : Int32)))).2) (by decide) (by decide) ?_
    show Steps p.tables e below (s₁.setTop (mkF m 58 #[.val (.ref a1), .val (.int p2), .val (.int p3), .val (.int (2 : Int32)), .val (.int (4 : Int32))] [])) _
    refine XS.iloadN X0.here hx rfl (hb hby d5_58) rfl ?_
    refine XS.iconst X0.here hx rfl (hb hby d5_59) ?_
    show Steps p.tables e below (s₁.setTop (mkF m 60 #[.val (.ref a1), .val (.int p2), .val (.int p3), .val (.int (2 : Int32)), .val (.int (4 : Int32))] [(.int (1 : Int32)), (.int (2 : Int32))])) _
    refine XS.icmpYes X0.here hx rfl (pc0 := 60) (pc' := 71) rfl (hb hby d5_60) rfl (feq (by decide : ¬ ((2 : Int32) = (1 : Int32)))).2 (by decide) (by decide) ?_
    show Steps p.tables e below (s₁.setTop (mkF m 71 #[.val (.ref a1), .val (.int p2), .val (.int p3), .val (.int (2 : Int32)), .val (.int (4 : Int32))] [])) _
    refine XS.iloadN X0.here hx rfl (hb hby d5_71) rfl ?_
    refine XS.iconst X0.here hx rfl (hb hby d5_72) ?_
    show Steps p.tables e below (s₁.setTop (mkF m 73 #[.val (.ref a1), .val (.int p2), .val (.int p3), .val (.int (2 : Int32)), .val (.int (4 : Int32))] [(.int (2 : Int32)), (.int (2 : Int32))])) _
    refine XS.icmpNo X0.here hx rfl (hb hby d5_73) rfl (teq (by decide : (2 : Int32) = (2 : Int32))).2 ?_
    show Steps p.tables e below (s₁.setTop (mkF m 76 #[.val (.ref a1), .val (.int p2), .val (.int p3), .val (.int (2 : Int32)), .val (.int (4 : Int32))] [])) _
    refine XS.aloadN X0.here hx rfl (hb hby d5_76) rfl rfl ?_
    show Steps p.tables e below (s₁.setTop (mkF m 77 #[.val (.ref a1), .val (.int p2), .val (.int p3), .val (.int (2 : Int32)), .val (.int (4 : Int32))] [(.ref a1)])) _
    refine st1.trans ?_
    show Steps p.tables e below (T1.setTop (mkF m 80 #[.val (.ref a1), .val (.int p2), .val (.int p3), .val (.int (2 : Int32)), .val (.int (4 : Int32))] [(.int (((own_c4 (List.replicate 16 (Value.int (0 : Int32))) p3).toInt32) ^^^ (-2147483648 : Int32)))])) _
    refine XS.pop X1.here hx rfl (hb hby d5_80) rfl rfl ?_
    show Steps p.tables e below (T1.setTop (mkF m 81 #[.val (.ref a1), .val (.int p2), .val (.int p3), .val (.int (2 : Int32)), .val (.int (4 : Int32))] [])) _
    refine XS.goto X1.here hx rfl (pc0 := 81) (pc' := 89) rfl (hb hby d5_81) (by decide) (by decide) ?_
    show Steps p.tables e below (T1.setTop (mkF m 89 #[.val (.ref a1), .val (.int p2), .val (.int p3), .val (.int (2 : Int32)), .val (.int (4 : Int32))] [])) _
    refine XS.iloadN X1.here hx rfl (hb hby d5_89) rfl ?_
    refine XS.iload X1.here hx rfl (hb hby d5_90) rfl ?_
    show Steps p.tables e below (T1.setTop (mkF m 92 #[.val (.ref a1), .val (.int p2), .val (.int p3), .val (.int (2 : Int32)), .val (.int (4 : Int32))] [(.int (4 : Int32)), (.int p3)])) _
    refine XS.iadd X1.here hx rfl (hb hby d5_92) rfl ?_
    show Steps p.tables e below (T1.setTop (mkF m 93 #[.val (.ref a1), .val (.int p2), .val (.int p3), .val (.int (2 : Int32)), .val (.int (4 : Int32))] [(.int (p3 + (4 : Int32)))])) _
    exact retI X1 hx Bd.returns (hb hby d5_93) hr
  · show Q_st2y Z a1 p2 p3 w_key_a1 k_w_key_a1 s_F s_C h0 n0 _ T1.heap _
    exact ⟨rfl, N2, K10, f8, f9, fq1_2⟩
  · show CHr Z consts_1 s.vm s.heap T1.vm T1.heap
    rw [hh]
    exact CR.trans (CHv.at X1 hZ hEW CR.1)
def Q_st2n (Z : State) (a1 : Addr) (p2 : Int32) (p3 : Int32) (w_key_a1 : Addr) (k_w_key_a1 : ClassId) (s_F : Value) (s_C : Addr) (h0 : Heap) (n0 : Nat) (v : Option Value) (h : Heap) (L : List Loc) : Prop := v = some (.int p3) ∧ Fr n0 L ∧ h = h0
set_option maxRecDepth 65536 in
set_option maxHeartbeats 40000000 in
theorem rm_st2n (l : Launch) (Z : State) (a0 : Array Value) (hw : ∀ d ∈ tables_1, d.before a0 Z = true) (ws : List Jvm.Cond) (a1 : Addr) (p2 : Int32) (p3 : Int32) (w_key_a1 : Addr) (k_w_key_a1 : ClassId) (s_F : Value) (s_C : Addr) (h0 : Heap) (n0 : Nat) (Z0 : n0 ≤ h0.size) (F_key_a1 : Fld Z h0 a1 "com/example/fieldstone/fieldstone/core/KeyReader" "key" "[B" (.ref w_key_a1)) (E_w_key_a1 : Exa Z h0 w_key_a1 "[B") (V_w_key_a1 : Arv Z h0 w_key_a1 k_w_key_a1 .byte p2 (List.replicate 16 (Value.int (0 : Int32))) (.int (0 : Int32))) (F_position_a1 : Fld Z h0 a1 "com/example/fieldstone/fieldstone/core/KeyReader" "position" "I" (.int p3)) (E_a1 : Exa Z h0 a1 "com/example/fieldstone/fieldstone/core/KeyReader") (g_a1 : n0 ≤ a1) (S_SIOOBE_FORMATTER : Sta Z h0 "jdk/internal/util/Preconditions" "SIOOBE_FORMATTER" "Ljava/util/function/BiFunction;" s_F) (hsr : s_F.isRef = true) (S_ISO_8859_1 : Sta Z h0 "java/nio/charset/StandardCharsets" "ISO_8859_1" "Ljava/nio/charset/Charset;" (.ref s_C)) (E_s_C : Exa Z h0 s_C "sun/nio/cs/ISO_8859_1") (hp1 : (p2 - p3) < (4 : Int32)) :
    MetFree l (⟨"com/example/fieldstone/fieldstone/core/KeyReaderHasRemainingPinLaw", "step", "(Lcom/example/fieldstone/fieldstone/core/KeyReader;III)I"⟩ : MethodName) (head1 (Jvm.Cond.code (⟨"com/example/fieldstone/fieldstone/core/KeyReaderHasRemainingPinLaw", "step", "(Lcom/example/fieldstone/fieldstone/core/KeyReader;III)I"⟩ : MethodName) method_3_code 5 (some .int) :: ws) ({ frames := 4, cells := 5, slots := 12, locals := 65 } : Room)) (fun a U => a = #[(.ref a1), (.int p2), (.int p3), (.int (2 : Int32))] ∧ Z.Warmed39 U.vm ∧ U.heap = h0 ∧ CHv Z consts_1 U.vm h0) (fun _ _ _ _ _ => True) (fun _ U o U' => ∃ v L, o = .returned v ∧ Q_st2n Z a1 p2 p3 w_key_a1 k_w_key_a1 s_F s_C h0 n0 v U'.heap L ∧ CHr Z consts_1 U.vm U.heap U'.vm U'.heap ∧ ReturnedEndW U o U' L ({ frames := 4, cells := 5, slots := 12, locals := 65 } : Room).cells ({ frames := 4, cells := 5, slots := 12, locals := 65 } : Room).slots) := by
  refine MetFree.of_bodySF (plainFor_of_name pn_com_example_fieldstone_fieldstone_core_KeyReaderHasRemainingPinLaw) hisR ?_
  intro p e s m args below meth c s₁ Bd hml0 hP hK
  obtain ⟨rfl, hZ, hh, CH0⟩ := hP
  have hx := Bd.exec
  have hby := Bd.bytes
  have hml : c.maxLocals = 5 := hml0
  have hown : s.vm.findClass "com/example/fieldstone/fieldstone/core/KeyReaderHasRemainingPinLaw" = some m.cls := findClass_of_methodNamed Bd.named
  have hnm := (name_of_methodNamed Bd.named Bd.method).1
  have X0 : Stand p l e ({ frames := 4, cells := 5, slots := 12, locals := 65 } : Room) s m #[(.ref a1), (.int p2), (.int p3), (.int (2 : Int32))] below meth c s₁ [] 0 0 := Stand.of_body Bd
  have e0 : s₁.heap = h0 := by rw [← hh, Bd.state]; rfl
  have N0 := Fr.nil n0
  have hZ : Z.Warmed39 (s.setVm s.vm).vm := hZ
  have hown : (s.setVm s.vm).vm.findClass "com/example/fieldstone/fieldstone/core/KeyReaderHasRemainingPinLaw" = some m.cls := hown
  have hZ0 := hZ
  have hown0 := hown
  have X0 : Stand p l e ({ frames := 4, cells := 5, slots := 12, locals := 65 } : Room) (s.setVm s.vm) m #[(.ref a1), (.int p2), (.int p3), (.int (2 : Int32))] below meth c s₁ [] 0 0 := X0
  have hS : s.Since s.vm h0.size := own_since s _
  have hk : h0.size ≤ h0.size := Nat.le_refl _
  have hEW := own_EW hw
  have CR : CHr Z consts_1 s.vm h0 s.vm h0 := CHr.refl CH0
  have pre0 : ∀ t, Steps p.tables e below (s₁.setTop (mkF m 0 #[.val (.ref a1), .val (.int p2), .val (.int p3), .val (.int (2 : Int32)), .unset] [])) t → Steps p.tables e below (s₁.setTop (entryFrame m #[(.ref a1), (.int p2), (.int p3), (.int (2 : Int32))] 5)) t := fun t k => castTop (ef_5_RIII m a1 p2 p3 (2 : Int32)) k
  obtain ⟨fs, hr, hrun, hended, hRE⟩ := X0.leaveW hS (by rw [e0]; exact hk) (v := some (.int p3)) (fun h => by rw [Bd.returns] at h; cases h) Bd.notSynchronized
  refine ⟨_, _, pre0 _ ?_, hrun, hended, _, _, rfl, ?_, ?_, hRE.1, hRE.2.1, hRE.2.2.1, hRE.2.2.2.mono (by decide) (by decide)⟩
  · show Steps p.tables e below (s₁.setTop (mkF m 0 #[.val (.ref a1), .val (.int p2), .val (.int p3), .val (.int (2 : Int32)), .unset] [])) _
    refine XS.iloadN X0.here hx rfl (hb hby d5_0) rfl ?_
    show Steps p.tables e below (s₁.setTop (mkF m 1 #[.val (.ref a1), .val (.int p2), .val (.int p3), .val (.int (2 : Int32)), .unset] [(.int (2 : Int32))])) _
    refine XS.ifYes X0.here hx rfl (pc0 := 1) (pc' := 10) rfl (hb hby d5_1) rfl ((if0 _ _).trans (feq (by decide : ¬ ((2 : Int32) = (0 : Int32)))).2) (by decide) (by decide) ?_
    show Steps p.tables e below (s₁.setTop (mkF m 10 #[.val (.ref a1), .val (.int p2), .val (.int p3), .val (.int (2 : Int32)), .unset] [])) _
    refine XS.iloadN X0.here hx rfl (hb hby d5_10) rfl ?_
    refine XS.iconst X0.here hx rfl (hb hby d5_11) ?_
    show Steps p.tables e below (s₁.setTop (mkF m 12 #[.val (.ref a1), .val (.int p2), .val (.int p3), .val (.int (2 : Int32)), .unset] [(.int (1 : Int32)), (.int (2 : Int32))])) _
    refine XS.icmpYes X0.here hx rfl (pc0 := 12) (pc' := 21) rfl (hb hby d5_12) rfl (feq (by decide : ¬ ((2 : Int32) = (1 : Int32)))).2 (by decide) (by decide) ?_
    show Steps p.tables e below (s₁.setTop (mkF m 21 #[.val (.ref a1), .val (.int p2), .val (.int p3), .val (.int (2 : Int32)), .unset] [])) _
    refine XS.iloadN X0.here hx rfl (hb hby d5_21) rfl ?_
    refine XS.iconst X0.here hx rfl (hb hby d5_22) ?_
    show Steps p.tables e below (s₁.setTop (mkF m 23 #[.val (.ref a1), .val (.int p2), .val (.int p3), .val (.int (2 : Int32)), .unset] [(.int (2 : Int32)), (.int (2 : Int32))])) _
    refine XS.icmpNo X0.here hx rfl (hb hby d5_23) rfl (teq (by decide : (2 : Int32) = (2 : Int32))).2 ?_
    show Steps p.tables e below (s₁.setTop (mkF m 26 #[.val (.ref a1), .val (.int p2), .val (.int p3), .val (.int (2 : Int32)), .unset] [])) _
    refine XS.iconst X0.here hx rfl (hb hby d5_26) ?_
    show Steps p.tables e below (s₁.setTop (mkF m 27 #[.val (.ref a1), .val (.int p2), .val (.int p3), .val (.int (2 : Int32)), .unset] [(.int (4 : Int32))])) _
    refine XS.istore X0.here hx rfl (hb hby d5_27) rfl (l' := #[.val (.ref a1), .val (.int p2), .val (.int p3), .val (.int (2 : Int32)), .val (.int (4 : Int32))]) rfl ?_
    show Steps p.tables e below (s₁.setTop (mkF m 29 #[.val (.ref a1), .val (.int p2), .val (.int p3), .val (.int (2 : Int32)), .val (.int (4 : Int32))] [])) _
    refine XS.goto X0.here hx rfl (pc0 := 29) (pc' := 36) rfl (hb hby d5_29) (by decide) (by decide) ?_
    show Steps p.tables e below (s₁.setTop (mkF m 36 #[.val (.ref a1), .val (.int p2), .val (.int p3), .val (.int (2 : Int32)), .val (.int (4 : Int32))] [])) _
    refine XS.iloadN X0.here hx rfl (hb hby d5_36) rfl ?_
    refine XS.iloadN X0.here hx rfl (hb hby d5_37) rfl ?_
    show Steps p.tables e below (s₁.setTop (mkF m 38 #[.val (.ref a1), .val (.int p2), .val (.int p3), .val (.int (2 : Int32)), .val (.int (4 : Int32))] [(.int p3), (.int p2)])) _
    refine XS.isub X0.here hx rfl (hb hby d5_38) rfl ?_
    show Steps p.tables e below (s₁.setTop (mkF m 39 #[.val (.ref a1), .val (.int p2), .val (.int p3), .val (.int (2 : Int32)), .val (.int (4 : Int32))] [(.int (p2 - p3))])) _
    refine XS.iload X0.here hx rfl (hb hby d5_39) rfl ?_
    show Steps p.tables e below (s₁.setTop (mkF m 41 #[.val (.ref a1), .val (.int p2), .val (.int p3), .val (.int (2 : Int32)), .val (.int (4 : Int32))] [(.int (4 : Int32)), (.int (p2 - p3))])) _
    refine XS.icmpNo X0.here hx rfl (hb hby d5_41) rfl (tlt hp1).2.1 ?_
    show Steps p.tables e below (s₁.setTop (mkF m 44 #[.val (.ref a1), .val (.int p2), .val (.int p3), .val (.int (2 : Int32)), .val (.int (4 : Int32))] [])) _
    refine XS.iloadN X0.here hx rfl (hb hby d5_44) rfl ?_
    show Steps p.tables e below (s₁.setTop (mkF m 45 #[.val (.ref a1), .val (.int p2), .val (.int p3), .val (.int (2 : Int32)), .val (.int (4 : Int32))] [(.int p3)])) _
    exact retI X0 hx Bd.returns (hb hby d5_45) hr
  · show Q_st2n Z a1 p2 p3 w_key_a1 k_w_key_a1 s_F s_C h0 n0 _ s₁.heap _
    rw [e0]
    exact ⟨rfl, N0, rfl⟩
  · show CHr Z consts_1 s.vm s.heap s₁.vm s₁.heap
    rw [hh, e0]
    exact CR.trans (CHv.at X0 hZ hEW CR.1)
theorem pd_10 : parseMethodDescriptor "()J" = some ⟨[], some .long⟩ := by decide +kernel
theorem d5_32 : decode method_3_code 32 = .ok (.bipush 8, 2) := by decide +kernel
theorem d5_34 : decode method_3_code 34 = .ok (.istore 4, 2) := by decide +kernel
theorem d5_84 : decode method_3_code 84 = .ok (.aload_n 0, 1) := by decide +kernel
theorem d5_85 : decode method_3_code 85 = .ok (.invokevirtual 34, 3) := by decide +kernel
theorem d5_88 : decode method_3_code 88 = .ok (.pop2, 1) := by decide +kernel
def Q_st3y (Z : State) (a1 : Addr) (p2 : Int32) (p3 : Int32) (w_key_a1 : Addr) (k_w_key_a1 : ClassId) (s_F : Value) (s_C : Addr) (h0 : Heap) (n0 : Nat) (v : Option Value) (h : Heap) (L : List Loc) : Prop := v = some (.int (p3 + (8 : Int32))) ∧ Fr n0 L ∧ Keep h0 h [a1] ∧ Fld Z h a1 "com/example/fieldstone/fieldstone/core/KeyReader" "key" "[B" (.ref w_key_a1) ∧ Fld Z h a1 "com/example/fieldstone/fieldstone/core/KeyReader" "position" "I" (.int (p3 + (8 : Int32))) ∧ Exa Z h a1 "com/example/fieldstone/fieldstone/core/KeyReader"
set_option maxRecDepth 65536 in
set_option maxHeartbeats 40000000 in
theorem rm_st3y (l : Launch) (Z : State) (a0 : Array Value) (hw : ∀ d ∈ tables_1, d.before a0 Z = true) (ws : List Jvm.Cond) (a1 : Addr) (p2 : Int32) (p3 : Int32) (w_key_a1 : Addr) (k_w_key_a1 : ClassId) (s_F : Value) (s_C : Addr) (h0 : Heap) (n0 : Nat) (Z0 : n0 ≤ h0.size) (F_key_a1 : Fld Z h0 a1 "com/example/fieldstone/fieldstone/core/KeyReader" "key" "[B" (.ref w_key_a1)) (E_w_key_a1 : Exa Z h0 w_key_a1 "[B") (V_w_key_a1 : Arv Z h0 w_key_a1 k_w_key_a1 .byte p2 (List.replicate 16 (Value.int (0 : Int32))) (.int (0 : Int32))) (F_position_a1 : Fld Z h0 a1 "com/example/fieldstone/fieldstone/core/KeyReader" "position" "I" (.int p3)) (E_a1 : Exa Z h0 a1 "com/example/fieldstone/fieldstone/core/KeyReader") (g_a1 : n0 ≤ a1) (S_SIOOBE_FORMATTER : Sta Z h0 "jdk/internal/util/Preconditions" "SIOOBE_FORMATTER" "Ljava/util/function/BiFunction;" s_F) (hsr : s_F.isRef = true) (S_ISO_8859_1 : Sta Z h0 "java/nio/charset/StandardCharsets" "ISO_8859_1" "Ljava/nio/charset/Charset;" (.ref s_C)) (E_s_C : Exa Z h0 s_C "sun/nio/cs/ISO_8859_1") (hp1 : ¬ ((p2 - p3) < (8 : Int32))) (hp2 : ¬ ((p3 + (0 : Int32)) < (0 : Int32))) (hp3 : (p3 + (0 : Int32)) < p2) (hp4 : ¬ ((p3 + (1 : Int32)) < (0 : Int32))) (hp5 : (p3 + (1 : Int32)) < p2) (hp6 : ¬ ((p3 + (2 : Int32)) < (0 : Int32))) (hp7 : (p3 + (2 : Int32)) < p2) (hp8 : ¬ ((p3 + (3 : Int32)) < (0 : Int32))) (hp9 : (p3 + (3 : Int32)) < p2) (hp10 : ¬ ((p3 + (4 : Int32)) < (0 : Int32))) (hp11 : (p3 + (4 : Int32)) < p2) (hp12 : ¬ ((p3 + (5 : Int32)) < (0 : Int32))) (hp13 : (p3 + (5 : Int32)) < p2) (hp14 : ¬ ((p3 + (6 : Int32)) < (0 : Int32))) (hp15 : (p3 + (6 : Int32)) < p2) (hp16 : ¬ ((p3 + (7 : Int32)) < (0 : Int32))) (hp17 : (p3 + (7 : Int32)) < p2) :
    MetFree l (⟨"com/example/fieldstone/fieldstone/core/KeyReaderHasRemainingPinLaw", "step", "(Lcom/example/fieldstone/fieldstone/core/KeyReader;III)I"⟩ : MethodName) (head1 (Jvm.Cond.code (⟨"com/example/fieldstone/fieldstone/core/KeyReaderHasRemainingPinLaw", "step", "(Lcom/example/fieldstone/fieldstone/core/KeyReader;III)I"⟩ : MethodName) method_3_code 5 (some .int) :: ws) ({ frames := 4, cells := 5, slots := 12, locals := 65 } : Room)) (fun a U => a = #[(.ref a1), (.int p2), (.int p3), (.int (3 : Int32))] ∧ Z.Warmed39 U.vm ∧ U.heap = h0 ∧ CHv Z consts_1 U.vm h0) (fun _ _ _ _ _ => True) (fun _ U o U' => ∃ v L, o = .returned v ∧ Q_st3y Z a1 p2 p3 w_key_a1 k_w_key_a1 s_F s_C h0 n0 v U'.heap L ∧ CHr Z consts_1 U.vm U.heap U'.vm U'.heap ∧ ReturnedEndW U o U' L ({ frames := 4, cells := 5, slots := 12, locals := 65 } : Room).cells ({ frames := 4, cells := 5, slots := 12, locals := 65 } : Room).slots) := by
  refine MetFree.of_bodySF (plainFor_of_name pn_com_example_fieldstone_fieldstone_core_KeyReaderHasRemainingPinLaw) hisR ?_
  intro p e s m args below meth c s₁ Bd hml0 hP hK
  obtain ⟨rfl, hZ, hh, CH0⟩ := hP
  have hx := Bd.exec
  have hby := Bd.bytes
  have hml : c.maxLocals = 5 := hml0
  have hown : s.vm.findClass "com/example/fieldstone/fieldstone/core/KeyReaderHasRemainingPinLaw" = some m.cls := findClass_of_methodNamed Bd.named
  have hnm := (name_of_methodNamed Bd.named Bd.method).1
  have X0 : Stand p l e ({ frames := 4, cells := 5, slots := 12, locals := 65 } : Room) s m #[(.ref a1), (.int p2), (.int p3), (.int (3 : Int32))] below meth c s₁ [] 0 0 := Stand.of_body Bd
  have e0 : s₁.heap = h0 := by rw [← hh, Bd.state]; rfl
  have N0 := Fr.nil n0
  have hZ : Z.Warmed39 (s.setVm s.vm).vm := hZ
  have hown : (s.setVm s.vm).vm.findClass "com/example/fieldstone/fieldstone/core/KeyReaderHasRemainingPinLaw" = some m.cls := hown
  have hZ0 := hZ
  have hown0 := hown
  have X0 : Stand p l e ({ frames := 4, cells := 5, slots := 12, locals := 65 } : Room) (s.setVm s.vm) m #[(.ref a1), (.int p2), (.int p3), (.int (3 : Int32))] below meth c s₁ [] 0 0 := X0
  have hS : s.Since s.vm h0.size := own_since s _
  have hk : h0.size ≤ h0.size := Nat.le_refl _
  have hEW := own_EW hw
  have CR : CHr Z consts_1 s.vm h0 s.vm h0 := CHr.refl CH0
  have S0_a1 : Safe Z consts_1 s.vm h0 a1 := Safe.exa hZ.alike E_a1 (by decide) (by decide)
  have pre0 : ∀ t, Steps p.tables e below (s₁.setTop (mkF m 0 #[.val (.ref a1), .val (.int p2), .val (.int p3), .val (.int (3 : Int32)), .unset] [])) t → Steps p.tables e below (s₁.setTop (entryFrame m #[(.ref a1), (.int p2), (.int p3), (.int (3 : Int32))] 5)) t := fun t k => castTop (ef_5_RIII m a1 p2 p3 (3 : Int32)) k
  obtain ⟨cq1, kq1, q1a, q1b, q1c⟩ := isOf hZ e0 E_a1
  obtain ⟨_, _, ⟨T1, L1, k1, n1⟩, -, X1, ⟨Lc1, hQ1, l1, y1, z1⟩, st1⟩ := X0.virtualBack hx (y := (⟨"com/example/fieldstone/fieldstone/core/KeyReader", "readLong", "()J"⟩ : MethodName)) (z := (⟨"com/example/fieldstone/fieldstone/core/KeyReader", "readLong", "()J"⟩ : MethodName)) hown (mvT hZ (hw _ (List.mem_of_getElem? (i := 74) rfl))) (mvT hZ (hw _ (List.mem_of_getElem? (i := 75) rfl))) (notFace_of_selects (args := #[]) (mvT hZ (hw _ (List.mem_of_getElem? (i := 77) rfl)))) (mvT hZ (hw _ (List.mem_of_getElem? (i := 77) rfl))) (mvT hZ (hw _ (List.mem_of_getElem? (i := 76) rfl))) (by decide) (backOf (W := 0) (rm_rlong l Z a0 hw [] a1 w_key_a1 k_w_key_a1 p2 (List.replicate 16 (Value.int (0 : Int32))) p3 h0 n0 Z0 F_key_a1 V_w_key_a1 F_position_a1 E_a1 g_a1 (ne_exa E_w_key_a1 E_a1 (by decide)) hp1 hp2 hp3 hp4 hp5 hp6 hp7 hp8 hp9 hp10 hp11 hp12 hp13 hp14 hp15 hp16 hp17) hZ (hw _ (List.mem_of_getElem? (i := 78) rfl)) (hw _ (List.mem_of_getElem? (i := 4) rfl)) (by decide) (by decide)) q1a q1c (g := (mkF m 85 #[.val (.ref a1), .val (.int p2), .val (.int p3), .val (.int (3 : Int32)), .val (.int (8 : Int32))] [(.ref a1)])) rfl (by rw [hml]; rfl) (Steps.refl _) (argsL := []) (rest := []) (lenOf pd_10 rfl) rfl (by show 2 * 0 + _ ≤ _; exact Nat.le_of_eq rfl) (hb hby d5_85) (fun _ _ => ⟨rfl, e0, (by decide : 0 + 0 ≤ _), (by decide : 0 + 0 ≤ _)⟩)
  dsimp only [Pt.U, Pt.locs, Pt.cells, Pt.slots] at X1 l1 y1 z1 st1 hQ1
  subst l1 y1 z1
  obtain ⟨rfl, Nq1, Kc1, fq1_0, fq1_1, fq1_2⟩ := hQ1
  have ne_w_key_a1_a1 : w_key_a1 ≠ a1 := ne_exa E_w_key_a1 E_a1 (by decide)
  have ne_w_key_a1_s_C : w_key_a1 ≠ s_C := ne_exa E_w_key_a1 E_s_C (by decide)
  have ne_a1_s_C : a1 ≠ s_C := ne_exa E_a1 E_s_C (by decide)
  have f3 : Exa Z T1.heap w_key_a1 "[B" := E_w_key_a1.keep Kc1
  have f4 : Arv Z T1.heap w_key_a1 k_w_key_a1 .byte p2 (List.replicate 16 (Value.int (0 : Int32))) (.int (0 : Int32)) := V_w_key_a1.keep Kc1 (ninS ne_w_key_a1_a1 nin0)
  have f5 : Sta Z T1.heap "jdk/internal/util/Preconditions" "SIOOBE_FORMATTER" "Ljava/util/function/BiFunction;" s_F := own_sta_keep S_SIOOBE_FORMATTER Kc1 (allS (own_plain_cell E_a1) all0)
  have f6 : Sta Z T1.heap "java/nio/charset/StandardCharsets" "ISO_8859_1" "Ljava/nio/charset/Charset;" (.ref s_C) := own_sta_keep S_ISO_8859_1 Kc1 (allS (own_plain_cell E_a1) all0)
  have f7 : Exa Z T1.heap s_C "sun/nio/cs/ISO_8859_1" := E_s_C.keep Kc1
  have f8 : Fld Z T1.heap a1 "com/example/fieldstone/fieldstone/core/KeyReader" "key" "[B" (.ref w_key_a1) := fq1_0
  have f9 : Fld Z T1.heap a1 "com/example/fieldstone/fieldstone/core/KeyReader" "position" "I" (.int (p3 + (8 : Int32))) := fq1_1
  have CR := CR.trans (CHr.keep Kc1 (allS (CR.safe E_a1.lt S0_a1) all0) CR.1)
  have K10 : Keep h0 T1.heap [a1] := (Keep.refl h0 [a1]).trans Kc1 (allS (Or.inl (List.mem_of_getElem? (i := 0) rfl)) all0)
  have hk : _ ≤ T1.heap.size := Nat.le_trans hk Kc1.1
  have Zs11 : n0 ≤ T1.heap.size := Nat.le_trans Z0 Kc1.1
  have N2 := Fr.app N0 Nq1
  obtain ⟨fs, hr, hrun, hended, hRE⟩ := X1.leaveW hS hk (v := some (.int (p3 + (8 : Int32)))) (fun h => by rw [Bd.returns] at h; cases h) Bd.notSynchronized
  refine ⟨_, _, pre0 _ ?_, hrun, hended, _, _, rfl, ?_, ?_, hRE.1, hRE.2.1, hRE.2.2.1, hRE.2.2.2.mono (by decide) (by decide)⟩
  · show Steps p.tables e below (s₁.setTop (mkF m 0 #[.val (.ref a1), .val (.int p2), .val (.int p3), .val (.int (3 : Int32)), .unset] [])) _
    refine XS.iloadN X0.here hx rfl (hb hby d5_0) rfl ?_
    show Steps p.tables e below (s₁.setTop (mkF m 1 #[.val (.ref a1), .val (.int p2), .val (.int p3), .val (.int (3 : Int32)), .unset] [(.int (3 : Int32))])) _
    refine XS.ifYes X0.here hx rfl (pc0 := 1) (pc' := 10) rfl (hb hby d5_1) rfl ((if0 _ _).trans (feq (by decide : ¬ ((3 : Int32) = (0 : Int32)))).2) (by decide) (by decide) ?_
    show Steps p.tables e below (s₁.setTop (mkF m 10 #[.val (.ref a1), .val (.int p2), .val (.int p3), .val (.int (3 : Int32)), .unset] [])) _
    refine XS.iloadN X0.here hx rfl (hb hby d5_10) rfl ?_
    refine XS.iconst X0.here hx rfl (hb hby d5_11) ?_
    show Steps p.tables e below (s₁.setTop (mkF m 12 #[.val (.ref a1), .val (.int p2), .val (.int p3), .val (.int (3 : Int32)), .unset] [(.int (1 : Int32)), (.int (3 : Int32))])) _
    refine XS.icmpYes X0.here hx rfl (pc0 := 12) (pc' := 21) rfl (hb hby d5_12) rfl (feq (by decide : ¬ ((3 : Int32) = (1 : Int32)))).2 (by decide) (by decide) ?_
    show Steps p.tables e below (s₁.setTop (mkF m 21 #[.val (.ref a1), .val (.int p2), .val (.int p3), .val (.int (3 : Int32)), .unset] [])) _
    refine XS.iloadN X0.here hx rfl (hb hby d5_21) rfl ?_
    refine XS.iconst X0.here hx rfl (hb hby d5_22) ?_
    show Steps p.tables e below (s₁.setTop (mkF m 23 #[.val (.ref a1), .val (.int p2), .val (.int p3), .val (.int (3 : Int32)), .unset] [(.int (2 : Int32)), (.int (3 : Int32))])) _
    refine XS.icmpYes X0.here hx rfl (pc0 := 23) (pc' := 32) rfl (hb hby d5_23) rfl (feq (by decide : ¬ ((3 : Int32) = (2 : Int32)))).2 (by decide) (by decide) ?_
    show Steps p.tables e below (s₁.setTop (mkF m 32 #[.val (.ref a1), .val (.int p2), .val (.int p3), .val (.int (3 : Int32)), .unset] [])) _
    refine XS.bipush X0.here hx rfl (hb hby d5_32) ?_
    show Steps p.tables e below (s₁.setTop (mkF m 34 #[.val (.ref a1), .val (.int p2), .val (.int p3), .val (.int (3 : Int32)), .unset] [(.int (8 : Int32))])) _
    refine XS.istore X0.here hx rfl (hb hby d5_34) rfl (l' := #[.val (.ref a1), .val (.int p2), .val (.int p3), .val (.int (3 : Int32)), .val (.int (8 : Int32))]) rfl ?_
    show Steps p.tables e below (s₁.setTop (mkF m 36 #[.val (.ref a1), .val (.int p2), .val (.int p3), .val (.int (3 : Int32)), .val (.int (8 : Int32))] [])) _
    refine XS.iloadN X0.here hx rfl (hb hby d5_36) rfl ?_
    refine XS.iloadN X0.here hx rfl (hb hby d5_37) rfl ?_
    show Steps p.tables e below (s₁.setTop (mkF m 38 #[.val (.ref a1), .val (.int p2), .val (.int p3), .val (.int (3 : Int32)), .val (.int (8 : Int32))] [(.int p3), (.int p2)])) _
    refine XS.isub X0.here hx rfl (hb hby d5_38) rfl ?_
    show Steps p.tables e below (s₁.setTop (mkF m 39 #[.val (.ref a1), .val (.int p2), .val (.int p3), .val (.int (3 : Int32)), .val (.int (8 : Int32))] [(.int (p2 - p3))])) _
    refine XS.iload X0.here hx rfl (hb hby d5_39) rfl ?_
    show Steps p.tables e below (s₁.setTop (mkF m 41 #[.val (.ref a1), .val (.int p2), .val (.int p3), .val (.int (3 : Int32)), .val (.int (8 : Int32))] [(.int (8 : Int32)), (.int (p2 - p3))])) _
    refine XS.icmpYes X0.here hx rfl (pc0 := 41) (pc' := 46) rfl (hb hby d5_41) rfl (flt hp1).2.1 (by decide) (by decide) ?_
    show Steps p.tables e below (s₁.setTop (mkF m 46 #[.val (.ref a1), .val (.int p2), .val (.int p3), .val (.int (3 : Int32)), .val (.int (8 : Int32))] [])) _
    refine XS.iloadN X0.here hx rfl (hb hby d5_46) rfl ?_
    show Steps p.tables e below (s₁.setTop (mkF m 47 #[.val (.ref a1), .val (.int p2), .val (.int p3), .val (.int (3 : Int32)), .val (.int (8 : Int32))] [(.int (3 : Int32))])) _
    refine XS.ifYes X0.here hx rfl (pc0 := 47) (pc' := 58) rfl (hb hby d5_47) rfl ((if0 _ _).trans (feq (by decide : ¬ ((3 : Int32) = (0 : Int32)))).2) (by decide) (by decide) ?_
    show Steps p.tables e below (s₁.setTop (mkF m 58 #[.val (.ref a1), .val (.int p2), .val (.int p3), .val (.int (3 : Int32)), .val (.int (8 : Int32))] [])) _
    refine XS.iloadN X0.here hx rfl (hb hby d5_58) rfl ?_
    refine XS.iconst X0.here hx rfl (hb hby d5_59) ?_
    show Steps p.tables e below (s₁.setTop (mkF m 60 #[.val (.ref a1), .val (.int p2), .val (.int p3), .val (.int (3 : Int32)), .val (.int (8 : Int32))] [(.int (1 : Int32)), (.int (3 : Int32))])) _
    refine XS.icmpYes X0.here hx rfl (pc0 := 60) (pc' := 71) rfl (hb hby d5_60) rfl (feq (by decide : ¬ ((3 : Int32) = (1 : Int32)))).2 (by decide) (by decide) ?_
    show Steps p.tables e below (s₁.setTop (mkF m 71 #[.val (.ref a1), .val (.int p2), .val (.int p3), .val (.int (3 : Int32)), .val (.int (8 : Int32))] [])) _
    refine XS.iloadN X0.here hx rfl (hb hby d5_71) rfl ?_
    refine XS.iconst X0.here hx rfl (hb hby d5_72) ?_
    show Steps p.tables e below (s₁.setTop (mkF m 73 #[.val (.ref a1), .val (.int p2), .val (.int p3), .val (.int (3 : Int32)), .val (.int (8 : Int32))] [(.int (2 : Int32)), (.int (3 : Int32))])) _
    refine XS.icmpYes X0.here hx rfl (pc0 := 73) (pc' := 84) rfl (hb hby d5_73) rfl (feq (by decide : ¬ ((3 : Int32) = (2 : Int32)))).2 (by decide) (by decide) ?_
    show Steps p.tables e below (s₁.setTop (mkF m 84 #[.val (.ref a1), .val (.int p2), .val (.int p3), .val (.int (3 : Int32)), .val (.int (8 : Int32))] [])) _
    refine XS.aloadN X0.here hx rfl (hb hby d5_84) rfl rfl ?_
    show Steps p.tables e below (s₁.setTop (mkF m 85 #[.val (.ref a1), .val (.int p2), .val (.int p3), .val (.int (3 : Int32)), .val (.int (8 : Int32))] [(.ref a1)])) _
    refine st1.trans ?_
    show Steps p.tables e below (T1.setTop (mkF m 88 #[.val (.ref a1), .val (.int p2), .val (.int p3), .val (.int (3 : Int32)), .val (.int (8 : Int32))] [(.long ((own_c8 (List.replicate 16 (Value.int (0 : Int32))) p3) ^^^ (-9223372036854775808 : Int64)))])) _
    jvm_step X1.here [X1.here.top, hx, (hb hby d5_88), Value.category]
    show Steps p.tables e below (T1.setTop (mkF m 89 #[.val (.ref a1), .val (.int p2), .val (.int p3), .val (.int (3 : Int32)), .val (.int (8 : Int32))] [])) _
    refine XS.iloadN X1.here hx rfl (hb hby d5_89) rfl ?_
    refine XS.iload X1.here hx rfl (hb hby d5_90) rfl ?_
    show Steps p.tables e below (T1.setTop (mkF m 92 #[.val (.ref a1), .val (.int p2), .val (.int p3), .val (.int (3 : Int32)), .val (.int (8 : Int32))] [(.int (8 : Int32)), (.int p3)])) _
    refine XS.iadd X1.here hx rfl (hb hby d5_92) rfl ?_
    show Steps p.tables e below (T1.setTop (mkF m 93 #[.val (.ref a1), .val (.int p2), .val (.int p3), .val (.int (3 : Int32)), .val (.int (8 : Int32))] [(.int (p3 + (8 : Int32)))])) _
    exact retI X1 hx Bd.returns (hb hby d5_93) hr
  · show Q_st3y Z a1 p2 p3 w_key_a1 k_w_key_a1 s_F s_C h0 n0 _ T1.heap _
    exact ⟨rfl, N2, K10, f8, f9, fq1_2⟩
  · show CHr Z consts_1 s.vm s.heap T1.vm T1.heap
    rw [hh]
    exact CR.trans (CHv.at X1 hZ hEW CR.1)
def Q_st3n (Z : State) (a1 : Addr) (p2 : Int32) (p3 : Int32) (w_key_a1 : Addr) (k_w_key_a1 : ClassId) (s_F : Value) (s_C : Addr) (h0 : Heap) (n0 : Nat) (v : Option Value) (h : Heap) (L : List Loc) : Prop := v = some (.int p3) ∧ Fr n0 L ∧ h = h0
set_option maxRecDepth 65536 in
set_option maxHeartbeats 40000000 in
theorem rm_st3n (l : Launch) (Z : State) (a0 : Array Value) (hw : ∀ d ∈ tables_1, d.before a0 Z = true) (ws : List Jvm.Cond) (a1 : Addr) (p2 : Int32) (p3 : Int32) (w_key_a1 : Addr) (k_w_key_a1 : ClassId) (s_F : Value) (s_C : Addr) (h0 : Heap) (n0 : Nat) (Z0 : n0 ≤ h0.size) (F_key_a1 : Fld Z h0 a1 "com/example/fieldstone/fieldstone/core/KeyReader" "key" "[B" (.ref w_key_a1)) (E_w_key_a1 : Exa Z h0 w_key_a1 "[B") (V_w_key_a1 : Arv Z h0 w_key_a1 k_w_key_a1 .byte p2 (List.replicate 16 (Value.int (0 : Int32))) (.int (0 : Int32))) (F_position_a1 : Fld Z h0 a1 "com/example/fieldstone/fieldstone/core/KeyReader" "position" "I" (.int p3)) (E_a1 : Exa Z h0 a1 "com/example/fieldstone/fieldstone/core/KeyReader") (g_a1 : n0 ≤ a1) (S_SIOOBE_FORMATTER : Sta Z h0 "jdk/internal/util/Preconditions" "SIOOBE_FORMATTER" "Ljava/util/function/BiFunction;" s_F) (hsr : s_F.isRef = true) (S_ISO_8859_1 : Sta Z h0 "java/nio/charset/StandardCharsets" "ISO_8859_1" "Ljava/nio/charset/Charset;" (.ref s_C)) (E_s_C : Exa Z h0 s_C "sun/nio/cs/ISO_8859_1") (hp1 : (p2 - p3) < (8 : Int32)) :
    MetFree l (⟨"com/example/fieldstone/fieldstone/core/KeyReaderHasRemainingPinLaw", "step", "(Lcom/example/fieldstone/fieldstone/core/KeyReader;III)I"⟩ : MethodName) (head1 (Jvm.Cond.code (⟨"com/example/fieldstone/fieldstone/core/KeyReaderHasRemainingPinLaw", "step", "(Lcom/example/fieldstone/fieldstone/core/KeyReader;III)I"⟩ : MethodName) method_3_code 5 (some .int) :: ws) ({ frames := 4, cells := 5, slots := 12, locals := 65 } : Room)) (fun a U => a = #[(.ref a1), (.int p2), (.int p3), (.int (3 : Int32))] ∧ Z.Warmed39 U.vm ∧ U.heap = h0 ∧ CHv Z consts_1 U.vm h0) (fun _ _ _ _ _ => True) (fun _ U o U' => ∃ v L, o = .returned v ∧ Q_st3n Z a1 p2 p3 w_key_a1 k_w_key_a1 s_F s_C h0 n0 v U'.heap L ∧ CHr Z consts_1 U.vm U.heap U'.vm U'.heap ∧ ReturnedEndW U o U' L ({ frames := 4, cells := 5, slots := 12, locals := 65 } : Room).cells ({ frames := 4, cells := 5, slots := 12, locals := 65 } : Room).slots) := by
  refine MetFree.of_bodySF (plainFor_of_name pn_com_example_fieldstone_fieldstone_core_KeyReaderHasRemainingPinLaw) hisR ?_
  intro p e s m args below meth c s₁ Bd hml0 hP hK
  obtain ⟨rfl, hZ, hh, CH0⟩ := hP
  have hx := Bd.exec
  have hby := Bd.bytes
  have hml : c.maxLocals = 5 := hml0
  have hown : s.vm.findClass "com/example/fieldstone/fieldstone/core/KeyReaderHasRemainingPinLaw" = some m.cls := findClass_of_methodNamed Bd.named
  have hnm := (name_of_methodNamed Bd.named Bd.method).1
  have X0 : Stand p l e ({ frames := 4, cells := 5, slots := 12, locals := 65 } : Room) s m #[(.ref a1), (.int p2), (.int p3), (.int (3 : Int32))] below meth c s₁ [] 0 0 := Stand.of_body Bd
  have e0 : s₁.heap = h0 := by rw [← hh, Bd.state]; rfl
  have N0 := Fr.nil n0
  have hZ : Z.Warmed39 (s.setVm s.vm).vm := hZ
  have hown : (s.setVm s.vm).vm.findClass "com/example/fieldstone/fieldstone/core/KeyReaderHasRemainingPinLaw" = some m.cls := hown
  have hZ0 := hZ
  have hown0 := hown
  have X0 : Stand p l e ({ frames := 4, cells := 5, slots := 12, locals := 65 } : Room) (s.setVm s.vm) m #[(.ref a1), (.int p2), (.int p3), (.int (3 : Int32))] below meth c s₁ [] 0 0 := X0
  have hS : s.Since s.vm h0.size := own_since s _
  have hk : h0.size ≤ h0.size := Nat.le_refl _
  have hEW := own_EW hw
  have CR : CHr Z consts_1 s.vm h0 s.vm h0 := CHr.refl CH0
  have pre0 : ∀ t, Steps p.tables e below (s₁.setTop (mkF m 0 #[.val (.ref a1), .val (.int p2), .val (.int p3), .val (.int (3 : Int32)), .unset] [])) t → Steps p.tables e below (s₁.setTop (entryFrame m #[(.ref a1), (.int p2), (.int p3), (.int (3 : Int32))] 5)) t := fun t k => castTop (ef_5_RIII m a1 p2 p3 (3 : Int32)) k
  obtain ⟨fs, hr, hrun, hended, hRE⟩ := X0.leaveW hS (by rw [e0]; exact hk) (v := some (.int p3)) (fun h => by rw [Bd.returns] at h; cases h) Bd.notSynchronized
  refine ⟨_, _, pre0 _ ?_, hrun, hended, _, _, rfl, ?_, ?_, hRE.1, hRE.2.1, hRE.2.2.1, hRE.2.2.2.mono (by decide) (by decide)⟩
  · show Steps p.tables e below (s₁.setTop (mkF m 0 #[.val (.ref a1), .val (.int p2), .val (.int p3), .val (.int (3 : Int32)), .unset] [])) _
    refine XS.iloadN X0.here hx rfl (hb hby d5_0) rfl ?_
    show Steps p.tables e below (s₁.setTop (mkF m 1 #[.val (.ref a1), .val (.int p2), .val (.int p3), .val (.int (3 : Int32)), .unset] [(.int (3 : Int32))])) _
    refine XS.ifYes X0.here hx rfl (pc0 := 1) (pc' := 10) rfl (hb hby d5_1) rfl ((if0 _ _).trans (feq (by decide : ¬ ((3 : Int32) = (0 : Int32)))).2) (by decide) (by decide) ?_
    show Steps p.tables e below (s₁.setTop (mkF m 10 #[.val (.ref a1), .val (.int p2), .val (.int p3), .val (.int (3 : Int32)), .unset] [])) _
    refine XS.iloadN X0.here hx rfl (hb hby d5_10) rfl ?_
    refine XS.iconst X0.here hx rfl (hb hby d5_11) ?_
    show Steps p.tables e below (s₁.setTop (mkF m 12 #[.val (.ref a1), .val (.int p2), .val (.int p3), .val (.int (3 : Int32)), .unset] [(.int (1 : Int32)), (.int (3 : Int32))])) _
    refine XS.icmpYes X0.here hx rfl (pc0 := 12) (pc' := 21) rfl (hb hby d5_12) rfl (feq (by decide : ¬ ((3 : Int32) = (1 : Int32)))).2 (by decide) (by decide) ?_
    show Steps p.tables e below (s₁.setTop (mkF m 21 #[.val (.ref a1), .val (.int p2), .val (.int p3), .val (.int (3 : Int32)), .unset] [])) _
    refine XS.iloadN X0.here hx rfl (hb hby d5_21) rfl ?_
    refine XS.iconst X0.here hx rfl (hb hby d5_22) ?_
    show Steps p.tables e below (s₁.setTop (mkF m 23 #[.val (.ref a1), .val (.int p2), .val (.int p3), .val (.int (3 : Int32)), .unset] [(.int (2 : Int32)), (.int (3 : Int32))])) _
    refine XS.icmpYes X0.here hx rfl (pc0 := 23) (pc' := 32) rfl (hb hby d5_23) rfl (feq (by decide : ¬ ((3 : Int32) = (2 : Int32)))).2 (by decide) (by decide) ?_
    show Steps p.tables e below (s₁.setTop (mkF m 32 #[.val (.ref a1), .val (.int p2), .val (.int p3), .val (.int (3 : Int32)), .unset] [])) _
    refine XS.bipush X0.here hx rfl (hb hby d5_32) ?_
    show Steps p.tables e below (s₁.setTop (mkF m 34 #[.val (.ref a1), .val (.int p2), .val (.int p3), .val (.int (3 : Int32)), .unset] [(.int (8 : Int32))])) _
    refine XS.istore X0.here hx rfl (hb hby d5_34) rfl (l' := #[.val (.ref a1), .val (.int p2), .val (.int p3), .val (.int (3 : Int32)), .val (.int (8 : Int32))]) rfl ?_
    show Steps p.tables e below (s₁.setTop (mkF m 36 #[.val (.ref a1), .val (.int p2), .val (.int p3), .val (.int (3 : Int32)), .val (.int (8 : Int32))] [])) _
    refine XS.iloadN X0.here hx rfl (hb hby d5_36) rfl ?_
    refine XS.iloadN X0.here hx rfl (hb hby d5_37) rfl ?_
    show Steps p.tables e below (s₁.setTop (mkF m 38 #[.val (.ref a1), .val (.int p2), .val (.int p3), .val (.int (3 : Int32)), .val (.int (8 : Int32))] [(.int p3), (.int p2)])) _
    refine XS.isub X0.here hx rfl (hb hby d5_38) rfl ?_
    show Steps p.tables e below (s₁.setTop (mkF m 39 #[.val (.ref a1), .val (.int p2), .val (.int p3), .val (.int (3 : Int32)), .val (.int (8 : Int32))] [(.int (p2 - p3))])) _
    refine XS.iload X0.here hx rfl (hb hby d5_39) rfl ?_
    show Steps p.tables e below (s₁.setTop (mkF m 41 #[.val (.ref a1), .val (.int p2), .val (.int p3), .val (.int (3 : Int32)), .val (.int (8 : Int32))] [(.int (8 : Int32)), (.int (p2 - p3))])) _
    refine XS.icmpNo X0.here hx rfl (hb hby d5_41) rfl (tlt hp1).2.1 ?_
    show Steps p.tables e below (s₁.setTop (mkF m 44 #[.val (.ref a1), .val (.int p2), .val (.int p3), .val (.int (3 : Int32)), .val (.int (8 : Int32))] [])) _
    refine XS.iloadN X0.here hx rfl (hb hby d5_44) rfl ?_
    show Steps p.tables e below (s₁.setTop (mkF m 45 #[.val (.ref a1), .val (.int p2), .val (.int p3), .val (.int (3 : Int32)), .val (.int (8 : Int32))] [(.int p3)])) _
    exact retI X0 hx Bd.returns (hb hby d5_45) hr
  · show Q_st3n Z a1 p2 p3 w_key_a1 k_w_key_a1 s_F s_C h0 n0 _ s₁.heap _
    rw [e0]
    exact ⟨rfl, N0, rfl⟩
  · show CHr Z consts_1 s.vm s.heap s₁.vm s₁.heap
    rw [hh, e0]
    exact CR.trans (CHv.at X0 hZ hEW CR.1)
def own_size (k : Int32) : Int32 := if k = (0 : Int32) then (1 : Int32) else if k = (1 : Int32) then (2 : Int32) else if k = (2 : Int32) then (4 : Int32) else (8 : Int32)
def own_step (n p k : Int32) : Int32 := if (n - p) < own_size k then p else (p + own_size k)
theorem own_step0 (n p : Int32) : own_step n p (0 : Int32) = if (n - p) < (1 : Int32) then p else (p + (1 : Int32)) := by simp [own_step, own_size]
theorem own_step1 (n p : Int32) : own_step n p (1 : Int32) = if (n - p) < (2 : Int32) then p else (p + (2 : Int32)) := by simp [own_step, own_size]
theorem own_step2 (n p : Int32) : own_step n p (2 : Int32) = if (n - p) < (4 : Int32) then p else (p + (4 : Int32)) := by simp [own_step, own_size]
theorem own_step3 (n p : Int32) : own_step n p (3 : Int32) = if (n - p) < (8 : Int32) then p else (p + (8 : Int32)) := by simp [own_step, own_size]
theorem own_rep (i : Nat) : (own_at (List.replicate 16 (Value.int (0 : Int32))) i (.int (0 : Int32))) = (0 : Int32) := by
  have h : (List.replicate 16 (Value.int (0 : Int32))).getD i (.int (0 : Int32)) = .int (0 : Int32) := by
    rw [List.getD_eq_getElem?_getD, List.getElem?_replicate]
    split <;> rfl
  unfold own_at; rw [h]
theorem own_lits : (0 : Int32).toInt = 0 ∧ (1 : Int32).toInt = 1 ∧ (2 : Int32).toInt = 2 ∧ (4 : Int32).toInt = 4 ∧ (8 : Int32).toInt = 8 := by decide
theorem own_add1 {p z : Int32} {i : Int} (hz : z.toInt = i) (h0 : 0 ≤ i) (h8 : i ≤ 8) (q0 : 0 ≤ p.toInt) (q1 : p.toInt ≤ 16) : (p + z).toInt = p.toInt + i := by
  have e := c_iadd p z
  have r := rng32 (p + z)
  omega
theorem own_adds {p : Int32} (q0 : 0 ≤ p.toInt) (q1 : p.toInt ≤ 16) : (p + (0 : Int32)).toInt = p.toInt + 0 ∧ (p + (1 : Int32)).toInt = p.toInt + 1 ∧ (p + (2 : Int32)).toInt = p.toInt + 2 ∧ (p + (3 : Int32)).toInt = p.toInt + 3 ∧ (p + (4 : Int32)).toInt = p.toInt + 4 ∧ (p + (5 : Int32)).toInt = p.toInt + 5 ∧ (p + (6 : Int32)).toInt = p.toInt + 6 ∧ (p + (7 : Int32)).toInt = p.toInt + 7 ∧ (p + (8 : Int32)).toInt = p.toInt + 8 :=
  ⟨own_add1 (by decide) (by decide) (by decide) q0 q1, own_add1 (by decide) (by decide) (by decide) q0 q1, own_add1 (by decide) (by decide) (by decide) q0 q1, own_add1 (by decide) (by decide) (by decide) q0 q1, own_add1 (by decide) (by decide) (by decide) q0 q1, own_add1 (by decide) (by decide) (by decide) q0 q1, own_add1 (by decide) (by decide) (by decide) q0 q1, own_add1 (by decide) (by decide) (by decide) q0 q1, own_add1 (by decide) (by decide) (by decide) q0 q1⟩
theorem own_sub {n p : Int32} (q0 : 0 ≤ p.toInt) (q1 : p.toInt ≤ n.toInt) (q2 : n.toInt ≤ 16) : (n - p).toInt = n.toInt - p.toInt := by
  have e := c_isub n p
  have r := rng32 (n - p)
  omega
theorem own_or {n p : Int32} (q0 : 0 ≤ p.toInt) (q1 : 0 ≤ n.toInt) : ¬ (((n ||| p) ||| (0 : Int32)) < (0 : Int32)) := by
  have m : ∀ x : Int32, x.toBitVec.msb = false ↔ 0 ≤ x.toInt := fun x => by
    have h : x.toInt = x.toBitVec.toInt := rfl
    rw [h, BitVec.msb_eq_toInt]
    simp
  intro h
  rw [own_lt32] at h
  have z : (0 : Int32).toInt = 0 := by decide
  have k : ((n ||| p) ||| (0 : Int32)).toBitVec.msb = false := by
    show (((n.toBitVec ||| p.toBitVec) ||| (0 : Int32).toBitVec)).msb = false
    rw [BitVec.msb_or, BitVec.msb_or, (m n).mpr q1, (m p).mpr q0]; rfl
  have := (m _).mp k
  omega
theorem own_ss (p : Int32) : (p - p) = (0 : Int32) := by
  first | exact Int32.sub_self _ | exact Int32.sub_self | simp
def Q_step (Z : State) (a1 : Addr) (p2 : Int32) (p3 : Int32) (p4 : Int32) (w_key_a1 : Addr) (k_w_key_a1 : ClassId) (s_F : Value) (s_C : Addr) (h0 : Heap) (n0 : Nat) (v : Option Value) (h : Heap) (L : List Loc) : Prop := v = some (.int (own_step p2 p3 p4)) ∧ Fr n0 L ∧ Keep h0 h [a1] ∧ Exa Z h a1 "com/example/fieldstone/fieldstone/core/KeyReader" ∧ Fld Z h a1 "com/example/fieldstone/fieldstone/core/KeyReader" "key" "[B" (.ref w_key_a1) ∧ Fld Z h a1 "com/example/fieldstone/fieldstone/core/KeyReader" "position" "I" (.int (own_step p2 p3 p4))
set_option maxRecDepth 65536 in
set_option maxHeartbeats 40000000 in
theorem rm_step (l : Launch) (Z : State) (a0 : Array Value) (hw : ∀ d ∈ tables_1, d.before a0 Z = true) (ws : List Jvm.Cond) (a1 : Addr) (p2 : Int32) (p3 : Int32) (p4 : Int32) (w_key_a1 : Addr) (k_w_key_a1 : ClassId) (s_F : Value) (s_C : Addr) (h0 : Heap) (n0 : Nat) (Z0 : n0 ≤ h0.size) (F_key_a1 : Fld Z h0 a1 "com/example/fieldstone/fieldstone/core/KeyReader" "key" "[B" (.ref w_key_a1)) (E_w_key_a1 : Exa Z h0 w_key_a1 "[B") (V_w_key_a1 : Arv Z h0 w_key_a1 k_w_key_a1 .byte p2 (List.replicate 16 (Value.int (0 : Int32))) (.int (0 : Int32))) (F_position_a1 : Fld Z h0 a1 "com/example/fieldstone/fieldstone/core/KeyReader" "position" "I" (.int p3)) (E_a1 : Exa Z h0 a1 "com/example/fieldstone/fieldstone/core/KeyReader") (g_a1 : n0 ≤ a1) (S_SIOOBE_FORMATTER : Sta Z h0 "jdk/internal/util/Preconditions" "SIOOBE_FORMATTER" "Ljava/util/function/BiFunction;" s_F) (hsr : s_F.isRef = true) (S_ISO_8859_1 : Sta Z h0 "java/nio/charset/StandardCharsets" "ISO_8859_1" "Ljava/nio/charset/Charset;" (.ref s_C)) (E_s_C : Exa Z h0 s_C "sun/nio/cs/ISO_8859_1") (q0 : 0 ≤ p3.toInt) (q1 : p3.toInt ≤ p2.toInt) (q2 : p2.toInt ≤ 16) (hkk : p4 = (0 : Int32) ∨ p4 = (1 : Int32) ∨ p4 = (2 : Int32) ∨ p4 = (3 : Int32)) :
    MetFree l (⟨"com/example/fieldstone/fieldstone/core/KeyReaderHasRemainingPinLaw", "step", "(Lcom/example/fieldstone/fieldstone/core/KeyReader;III)I"⟩ : MethodName) (head1 (Jvm.Cond.code (⟨"com/example/fieldstone/fieldstone/core/KeyReaderHasRemainingPinLaw", "step", "(Lcom/example/fieldstone/fieldstone/core/KeyReader;III)I"⟩ : MethodName) method_3_code 5 (some .int) :: ws) ({ frames := 4, cells := 5, slots := 12, locals := 65 } : Room)) (fun a U => a = #[(.ref a1), (.int p2), (.int p3), (.int p4)] ∧ Z.Warmed39 U.vm ∧ U.heap = h0 ∧ CHv Z consts_1 U.vm h0) (fun _ _ _ _ _ => True) (fun _ U o U' => ∃ v L, o = .returned v ∧ Q_step Z a1 p2 p3 p4 w_key_a1 k_w_key_a1 s_F s_C h0 n0 v U'.heap L ∧ CHr Z consts_1 U.vm U.heap U'.vm U'.heap ∧ ReturnedEndW U o U' L ({ frames := 4, cells := 5, slots := 12, locals := 65 } : Room).cells ({ frames := 4, cells := 5, slots := 12, locals := 65 } : Room).slots) := by
  have A := own_adds q0 (Int.le_trans q1 q2)
  obtain ⟨A0, A1, A2, A3, A4, A5, A6, A7, A8⟩ := A
  have B := own_sub q0 q1 q2
  have O := own_or q0 (Int.le_trans q0 q1)
  obtain ⟨z0, z1, z2, z4, z8⟩ := own_lits
  rcases hkk with rfl | rfl | rfl | rfl
  · by_cases c : (p2 - p3) < (1 : Int32)
    · refine own_mono (rm_st0n l Z a0 hw ws a1 p2 p3 w_key_a1 k_w_key_a1 s_F s_C h0 n0 Z0 F_key_a1 E_w_key_a1 V_w_key_a1 F_position_a1 E_a1 g_a1 S_SIOOBE_FORMATTER hsr S_ISO_8859_1 E_s_C (by first | assumption | exact own_rep _ | (rw [own_rep]; decide) | exact own_ss _ | (rw [own_lt32]; omega) | (intro q; rw [own_lt32] at q; omega))) (fun _ _ _ _ q => ?_)
      obtain ⟨v, L, ho, ⟨hv, N, hh⟩, hC, hf⟩ := q
      refine ⟨v, L, ho, ⟨?_, N, ?_, ?_, ?_, ?_⟩, hC, hf⟩
      · rw [own_step0, if_pos c]; exact hv
      · rw [hh]; exact Keep.refl h0 _
      · rw [hh]; exact E_a1
      · rw [hh]; exact F_key_a1
      · rw [own_step0, if_pos c, hh]; exact F_position_a1
    · have c' : ¬ (p2 - p3).toInt < (1 : Int32).toInt := fun q => c (own_lt32.mpr q)
      refine own_mono (rm_st0y l Z a0 hw ws a1 p2 p3 w_key_a1 k_w_key_a1 s_F s_C h0 n0 Z0 F_key_a1 E_w_key_a1 V_w_key_a1 F_position_a1 E_a1 g_a1 S_SIOOBE_FORMATTER hsr S_ISO_8859_1 E_s_C (by first | assumption | exact own_rep _ | (rw [own_rep]; decide) | exact own_ss _ | (rw [own_lt32]; omega) | (intro q; rw [own_lt32] at q; omega)) (by first | assumption | exact own_rep _ | (rw [own_rep]; decide) | exact own_ss _ | (rw [own_lt32]; omega) | (intro q; rw [own_lt32] at q; omega)) (by first | assumption | exact own_rep _ | (rw [own_rep]; decide) | exact own_ss _ | (rw [own_lt32]; omega) | (intro q; rw [own_lt32] at q; omega)) (by first | assumption | exact own_rep _ | (rw [own_rep]; decide) | exact own_ss _ | (rw [own_lt32]; omega) | (intro q; rw [own_lt32] at q; omega)) (by first | assumption | exact own_rep _ | (rw [own_rep]; decide) | exact own_ss _ | (rw [own_lt32]; omega) | (intro q; rw [own_lt32] at q; omega))) (fun _ _ _ _ q => ?_)
      obtain ⟨v, L, ho, ⟨hv, N, K, f1, f2, e1⟩, hC, hf⟩ := q
      refine ⟨v, L, ho, ⟨?_, N, K, e1, f1, ?_⟩, hC, hf⟩
      · rw [own_step0, if_neg c]; exact hv
      · rw [own_step0, if_neg c]; exact f2
  · by_cases c : (p2 - p3) < (2 : Int32)
    · refine own_mono (rm_st1n l Z a0 hw ws a1 p2 p3 w_key_a1 k_w_key_a1 s_F s_C h0 n0 Z0 F_key_a1 E_w_key_a1 V_w_key_a1 F_position_a1 E_a1 g_a1 S_SIOOBE_FORMATTER hsr S_ISO_8859_1 E_s_C (by first | assumption | exact own_rep _ | (rw [own_rep]; decide) | exact own_ss _ | (rw [own_lt32]; omega) | (intro q; rw [own_lt32] at q; omega))) (fun _ _ _ _ q => ?_)
      obtain ⟨v, L, ho, ⟨hv, N, hh⟩, hC, hf⟩ := q
      refine ⟨v, L, ho, ⟨?_, N, ?_, ?_, ?_, ?_⟩, hC, hf⟩
      · rw [own_step1, if_pos c]; exact hv
      · rw [hh]; exact Keep.refl h0 _
      · rw [hh]; exact E_a1
      · rw [hh]; exact F_key_a1
      · rw [own_step1, if_pos c, hh]; exact F_position_a1
    · have c' : ¬ (p2 - p3).toInt < (2 : Int32).toInt := fun q => c (own_lt32.mpr q)
      refine own_mono (rm_st1y l Z a0 hw ws a1 p2 p3 w_key_a1 k_w_key_a1 s_F s_C h0 n0 Z0 F_key_a1 E_w_key_a1 V_w_key_a1 F_position_a1 E_a1 g_a1 S_SIOOBE_FORMATTER hsr S_ISO_8859_1 E_s_C (by first | assumption | exact own_rep _ | (rw [own_rep]; decide) | exact own_ss _ | (rw [own_lt32]; omega) | (intro q; rw [own_lt32] at q; omega)) (by first | assumption | exact own_rep _ | (rw [own_rep]; decide) | exact own_ss _ | (rw [own_lt32]; omega) | (intro q; rw [own_lt32] at q; omega)) (by first | assumption | exact own_rep _ | (rw [own_rep]; decide) | exact own_ss _ | (rw [own_lt32]; omega) | (intro q; rw [own_lt32] at q; omega)) (by first | assumption | exact own_rep _ | (rw [own_rep]; decide) | exact own_ss _ | (rw [own_lt32]; omega) | (intro q; rw [own_lt32] at q; omega)) (by first | assumption | exact own_rep _ | (rw [own_rep]; decide) | exact own_ss _ | (rw [own_lt32]; omega) | (intro q; rw [own_lt32] at q; omega)) (by first | assumption | exact own_rep _ | (rw [own_rep]; decide) | exact own_ss _ | (rw [own_lt32]; omega) | (intro q; rw [own_lt32] at q; omega)) (by first | assumption | exact own_rep _ | (rw [own_rep]; decide) | exact own_ss _ | (rw [own_lt32]; omega) | (intro q; rw [own_lt32] at q; omega)) (by first | assumption | exact own_rep _ | (rw [own_rep]; decide) | exact own_ss _ | (rw [own_lt32]; omega) | (intro q; rw [own_lt32] at q; omega)) (by first | assumption | exact own_rep _ | (rw [own_rep]; decide) | exact own_ss _ | (rw [own_lt32]; omega) | (intro q; rw [own_lt32] at q; omega)) (by first | assumption | exact own_rep _ | (rw [own_rep]; decide) | exact own_ss _ | (rw [own_lt32]; omega) | (intro q; rw [own_lt32] at q; omega)) (by first | assumption | exact own_rep _ | (rw [own_rep]; decide) | exact own_ss _ | (rw [own_lt32]; omega) | (intro q; rw [own_lt32] at q; omega))) (fun _ _ _ _ q => ?_)
      obtain ⟨v, L, ho, ⟨hv, N, K, f1, f2, e1⟩, hC, hf⟩ := q
      refine ⟨v, L, ho, ⟨?_, N, K, e1, f1, ?_⟩, hC, hf⟩
      · rw [own_step1, if_neg c]; exact hv
      · rw [own_step1, if_neg c]; exact f2
  · by_cases c : (p2 - p3) < (4 : Int32)
    · refine own_mono (rm_st2n l Z a0 hw ws a1 p2 p3 w_key_a1 k_w_key_a1 s_F s_C h0 n0 Z0 F_key_a1 E_w_key_a1 V_w_key_a1 F_position_a1 E_a1 g_a1 S_SIOOBE_FORMATTER hsr S_ISO_8859_1 E_s_C (by first | assumption | exact own_rep _ | (rw [own_rep]; decide) | exact own_ss _ | (rw [own_lt32]; omega) | (intro q; rw [own_lt32] at q; omega))) (fun _ _ _ _ q => ?_)
      obtain ⟨v, L, ho, ⟨hv, N, hh⟩, hC, hf⟩ := q
      refine ⟨v, L, ho, ⟨?_, N, ?_, ?_, ?_, ?_⟩, hC, hf⟩
      · rw [own_step2, if_pos c]; exact hv
      · rw [hh]; exact Keep.refl h0 _
      · rw [hh]; exact E_a1
      · rw [hh]; exact F_key_a1
      · rw [own_step2, if_pos c, hh]; exact F_position_a1
    · have c' : ¬ (p2 - p3).toInt < (4 : Int32).toInt := fun q => c (own_lt32.mpr q)
      refine own_mono (rm_st2y l Z a0 hw ws a1 p2 p3 w_key_a1 k_w_key_a1 s_F s_C h0 n0 Z0 F_key_a1 E_w_key_a1 V_w_key_a1 F_position_a1 E_a1 g_a1 S_SIOOBE_FORMATTER hsr S_ISO_8859_1 E_s_C (by first | assumption | exact own_rep _ | (rw [own_rep]; decide) | exact own_ss _ | (rw [own_lt32]; omega) | (intro q; rw [own_lt32] at q; omega)) (by first | assumption | exact own_rep _ | (rw [own_rep]; decide) | exact own_ss _ | (rw [own_lt32]; omega) | (intro q; rw [own_lt32] at q; omega)) (by first | assumption | exact own_rep _ | (rw [own_rep]; decide) | exact own_ss _ | (rw [own_lt32]; omega) | (intro q; rw [own_lt32] at q; omega)) (by first | assumption | exact own_rep _ | (rw [own_rep]; decide) | exact own_ss _ | (rw [own_lt32]; omega) | (intro q; rw [own_lt32] at q; omega)) (by first | assumption | exact own_rep _ | (rw [own_rep]; decide) | exact own_ss _ | (rw [own_lt32]; omega) | (intro q; rw [own_lt32] at q; omega)) (by first | assumption | exact own_rep _ | (rw [own_rep]; decide) | exact own_ss _ | (rw [own_lt32]; omega) | (intro q; rw [own_lt32] at q; omega)) (by first | assumption | exact own_rep _ | (rw [own_rep]; decide) | exact own_ss _ | (rw [own_lt32]; omega) | (intro q; rw [own_lt32] at q; omega)) (by first | assumption | exact own_rep _ | (rw [own_rep]; decide) | exact own_ss _ | (rw [own_lt32]; omega) | (intro q; rw [own_lt32] at q; omega)) (by first | assumption | exact own_rep _ | (rw [own_rep]; decide) | exact own_ss _ | (rw [own_lt32]; omega) | (intro q; rw [own_lt32] at q; omega))) (fun _ _ _ _ q => ?_)
      obtain ⟨v, L, ho, ⟨hv, N, K, f1, f2, e1⟩, hC, hf⟩ := q
      refine ⟨v, L, ho, ⟨?_, N, K, e1, f1, ?_⟩, hC, hf⟩
      · rw [own_step2, if_neg c]; exact hv
      · rw [own_step2, if_neg c]; exact f2
  · by_cases c : (p2 - p3) < (8 : Int32)
    · refine own_mono (rm_st3n l Z a0 hw ws a1 p2 p3 w_key_a1 k_w_key_a1 s_F s_C h0 n0 Z0 F_key_a1 E_w_key_a1 V_w_key_a1 F_position_a1 E_a1 g_a1 S_SIOOBE_FORMATTER hsr S_ISO_8859_1 E_s_C (by first | assumption | exact own_rep _ | (rw [own_rep]; decide) | exact own_ss _ | (rw [own_lt32]; omega) | (intro q; rw [own_lt32] at q; omega))) (fun _ _ _ _ q => ?_)
      obtain ⟨v, L, ho, ⟨hv, N, hh⟩, hC, hf⟩ := q
      refine ⟨v, L, ho, ⟨?_, N, ?_, ?_, ?_, ?_⟩, hC, hf⟩
      · rw [own_step3, if_pos c]; exact hv
      · rw [hh]; exact Keep.refl h0 _
      · rw [hh]; exact E_a1
      · rw [hh]; exact F_key_a1
      · rw [own_step3, if_pos c, hh]; exact F_position_a1
    · have c' : ¬ (p2 - p3).toInt < (8 : Int32).toInt := fun q => c (own_lt32.mpr q)
      refine own_mono (rm_st3y l Z a0 hw ws a1 p2 p3 w_key_a1 k_w_key_a1 s_F s_C h0 n0 Z0 F_key_a1 E_w_key_a1 V_w_key_a1 F_position_a1 E_a1 g_a1 S_SIOOBE_FORMATTER hsr S_ISO_8859_1 E_s_C (by first | assumption | exact own_rep _ | (rw [own_rep]; decide) | exact own_ss _ | (rw [own_lt32]; omega) | (intro q; rw [own_lt32] at q; omega)) (by first | assumption | exact own_rep _ | (rw [own_rep]; decide) | exact own_ss _ | (rw [own_lt32]; omega) | (intro q; rw [own_lt32] at q; omega)) (by first | assumption | exact own_rep _ | (rw [own_rep]; decide) | exact own_ss _ | (rw [own_lt32]; omega) | (intro q; rw [own_lt32] at q; omega)) (by first | assumption | exact own_rep _ | (rw [own_rep]; decide) | exact own_ss _ | (rw [own_lt32]; omega) | (intro q; rw [own_lt32] at q; omega)) (by first | assumption | exact own_rep _ | (rw [own_rep]; decide) | exact own_ss _ | (rw [own_lt32]; omega) | (intro q; rw [own_lt32] at q; omega)) (by first | assumption | exact own_rep _ | (rw [own_rep]; decide) | exact own_ss _ | (rw [own_lt32]; omega) | (intro q; rw [own_lt32] at q; omega)) (by first | assumption | exact own_rep _ | (rw [own_rep]; decide) | exact own_ss _ | (rw [own_lt32]; omega) | (intro q; rw [own_lt32] at q; omega)) (by first | assumption | exact own_rep _ | (rw [own_rep]; decide) | exact own_ss _ | (rw [own_lt32]; omega) | (intro q; rw [own_lt32] at q; omega)) (by first | assumption | exact own_rep _ | (rw [own_rep]; decide) | exact own_ss _ | (rw [own_lt32]; omega) | (intro q; rw [own_lt32] at q; omega)) (by first | assumption | exact own_rep _ | (rw [own_rep]; decide) | exact own_ss _ | (rw [own_lt32]; omega) | (intro q; rw [own_lt32] at q; omega)) (by first | assumption | exact own_rep _ | (rw [own_rep]; decide) | exact own_ss _ | (rw [own_lt32]; omega) | (intro q; rw [own_lt32] at q; omega)) (by first | assumption | exact own_rep _ | (rw [own_rep]; decide) | exact own_ss _ | (rw [own_lt32]; omega) | (intro q; rw [own_lt32] at q; omega)) (by first | assumption | exact own_rep _ | (rw [own_rep]; decide) | exact own_ss _ | (rw [own_lt32]; omega) | (intro q; rw [own_lt32] at q; omega)) (by first | assumption | exact own_rep _ | (rw [own_rep]; decide) | exact own_ss _ | (rw [own_lt32]; omega) | (intro q; rw [own_lt32] at q; omega)) (by first | assumption | exact own_rep _ | (rw [own_rep]; decide) | exact own_ss _ | (rw [own_lt32]; omega) | (intro q; rw [own_lt32] at q; omega)) (by first | assumption | exact own_rep _ | (rw [own_rep]; decide) | exact own_ss _ | (rw [own_lt32]; omega) | (intro q; rw [own_lt32] at q; omega)) (by first | assumption | exact own_rep _ | (rw [own_rep]; decide) | exact own_ss _ | (rw [own_lt32]; omega) | (intro q; rw [own_lt32] at q; omega))) (fun _ _ _ _ q => ?_)
      obtain ⟨v, L, ho, ⟨hv, N, K, f1, f2, e1⟩, hC, hf⟩ := q
      refine ⟨v, L, ho, ⟨?_, N, K, e1, f1, ?_⟩, hC, hf⟩
      · rw [own_step3, if_neg c]; exact hv
      · rw [own_step3, if_neg c]; exact f2
def own_n (p1 : Int32) : Int32 := ((p1 &&& (2147483647 : Int32)) % (17 : Int32))
theorem pd_11 : parseMethodDescriptor "([B)V" = some ⟨[(.array .byte)], none⟩ := by decide +kernel
theorem pd_12 : parseMethodDescriptor "(Lcom/example/fieldstone/fieldstone/core/KeyReader;III)I" = some ⟨[(.object "com/example/fieldstone/fieldstone/core/KeyReader"), .int, .int, .int], some .int⟩ := by decide +kernel
theorem ef_0_II (m : MethodId) (x0 : Int32) (x1 : Int32) : entryFrame m #[(.int x0), (.int x1)] maxLocals = mkF m 0 #[.val (.int x0), .val (.int x1), .unset, .unset, .unset, .unset, .unset] [] := by first | (simp [entryFrame, mkF, argsToLocals, Value.category, maxLocals]; done) | rfl
def Q_law (Z : State) (p1 : Int32) (p2 : Int32) (s_F : Value) (s_C : Addr) (h0 : Heap) (n0 : Nat) (v : Option Value) (h : Heap) (L : List Loc) : Prop := v = some (.int (1 : Int32)) ∧ Fr n0 L
def Road_r0 (Z : State) (h0 : Heap) (p1 : Int32) (p2 : Int32) (s_F : Value) (s_C : Addr) : Prop := (Sta Z h0 "jdk/internal/util/Preconditions" "SIOOBE_FORMATTER" "Ljava/util/function/BiFunction;" s_F) ∧ (s_F.isRef = true) ∧ (Sta Z h0 "java/nio/charset/StandardCharsets" "ISO_8859_1" "Ljava/nio/charset/Charset;" (.ref s_C)) ∧ (Exa Z h0 s_C "sun/nio/cs/ISO_8859_1") ∧ (¬ ((own_n p1) < (0 : Int32))) ∧ ((own_n p1).toNatClampNeg ≤ 16) ∧ ((0 : Int32).toInt ≤ (own_n p1).toInt) ∧ ((own_n p1).toInt ≤ 16) ∧ ((p2 &&& (3 : Int32)) = (0 : Int32) ∨ (p2 &&& (3 : Int32)) = (1 : Int32) ∨ (p2 &&& (3 : Int32)) = (2 : Int32) ∨ (p2 &&& (3 : Int32)) = (3 : Int32)) ∧ (0 ≤ (own_step (own_n p1) (0 : Int32) (p2 &&& (3 : Int32))).toInt) ∧ ((own_step (own_n p1) (0 : Int32) (p2 &&& (3 : Int32))).toInt ≤ (own_n p1).toInt) ∧ ((((p2.toUInt32 >>> ((2 : Int32) &&& 31).toUInt32).toInt32) &&& (3 : Int32)) = (0 : Int32) ∨ (((p2.toUInt32 >>> ((2 : Int32) &&& 31).toUInt32).toInt32) &&& (3 : Int32)) = (1 : Int32) ∨ (((p2.toUInt32 >>> ((2 : Int32) &&& 31).toUInt32).toInt32) &&& (3 : Int32)) = (2 : Int32) ∨ (((p2.toUInt32 >>> ((2 : Int32) &&& 31).toUInt32).toInt32) &&& (3 : Int32)) = (3 : Int32)) ∧ (0 ≤ (own_step (own_n p1) (own_step (own_n p1) (0 : Int32) (p2 &&& (3 : Int32))) (((p2.toUInt32 >>> ((2 : Int32) &&& 31).toUInt32).toInt32) &&& (3 : Int32))).toInt) ∧ ((own_step (own_n p1) (own_step (own_n p1) (0 : Int32) (p2 &&& (3 : Int32))) (((p2.toUInt32 >>> ((2 : Int32) &&& 31).toUInt32).toInt32) &&& (3 : Int32))).toInt ≤ (own_n p1).toInt) ∧ ((((p2.toUInt32 >>> ((4 : Int32) &&& 31).toUInt32).toInt32) &&& (3 : Int32)) = (0 : Int32) ∨ (((p2.toUInt32 >>> ((4 : Int32) &&& 31).toUInt32).toInt32) &&& (3 : Int32)) = (1 : Int32) ∨ (((p2.toUInt32 >>> ((4 : Int32) &&& 31).toUInt32).toInt32) &&& (3 : Int32)) = (2 : Int32) ∨ (((p2.toUInt32 >>> ((4 : Int32) &&& 31).toUInt32).toInt32) &&& (3 : Int32)) = (3 : Int32)) ∧ (¬ ((0 : Int32) < (own_n p1))) ∧ ((f_has (0 : Int32) (own_n p1)) = (0 : Int32)) ∧ (¬ ((own_step (own_n p1) (0 : Int32) (p2 &&& (3 : Int32))) < (own_n p1))) ∧ ((f_has (own_step (own_n p1) (0 : Int32) (p2 &&& (3 : Int32))) (own_n p1)) = (0 : Int32)) ∧ (¬ ((own_step (own_n p1) (own_step (own_n p1) (0 : Int32) (p2 &&& (3 : Int32))) (((p2.toUInt32 >>> ((2 : Int32) &&& 31).toUInt32).toInt32) &&& (3 : Int32))) < (own_n p1))) ∧ ((f_has (own_step (own_n p1) (own_step (own_n p1) (0 : Int32) (p2 &&& (3 : Int32))) (((p2.toUInt32 >>> ((2 : Int32) &&& 31).toUInt32).toInt32) &&& (3 : Int32))) (own_n p1)) = (0 : Int32)) ∧ (¬ ((own_step (own_n p1) (own_step (own_n p1) (own_step (own_n p1) (0 : Int32) (p2 &&& (3 : Int32))) (((p2.toUInt32 >>> ((2 : Int32) &&& 31).toUInt32).toInt32) &&& (3 : Int32))) (((p2.toUInt32 >>> ((4 : Int32) &&& 31).toUInt32).toInt32) &&& (3 : Int32))) < (own_n p1))) ∧ ((f_has (own_step (own_n p1) (own_step (own_n p1) (own_step (own_n p1) (0 : Int32) (p2 &&& (3 : Int32))) (((p2.toUInt32 >>> ((2 : Int32) &&& 31).toUInt32).toInt32) &&& (3 : Int32))) (((p2.toUInt32 >>> ((4 : Int32) &&& 31).toUInt32).toInt32) &&& (3 : Int32))) (own_n p1)) = (0 : Int32))
set_option maxRecDepth 65536 in
set_option maxHeartbeats 40000000 in
theorem rm_law_r0 (l : Launch) (Z : State) (a0 : Array Value) (hw : ∀ d ∈ tables_1, d.before a0 Z = true) (ws : List Jvm.Cond) (p1 : Int32) (p2 : Int32) (s_F : Value) (s_C : Addr) (h0 : Heap) (n0 : Nat) (Z0 : n0 ≤ h0.size) (hroad : Road_r0 Z h0 p1 p2 s_F s_C) :
    MetFree l x (head1 (Jvm.Cond.code x code maxLocals ret :: ws) room_1) (fun a U => a = #[(.int p1), (.int p2)] ∧ Z.Warmed39 U.vm ∧ U.heap = h0 ∧ CHv Z consts_1 U.vm h0) (fun _ _ _ _ _ => True) (fun _ U o U' => ∃ v L, o = .returned v ∧ Q_law Z p1 p2 s_F s_C h0 n0 v U'.heap L ∧ CHr Z consts_1 U.vm U.heap U'.vm U'.heap ∧ ReturnedEndW U o U' L room_1.cells room_1.slots) := by
  obtain ⟨S_SIOOBE_FORMATTER, hsr, S_ISO_8859_1, E_s_C, hp1, hp2, hp3, hp4, hp5, hp6, hp7, hp8, hp9, hp10, hp11, hc0, hc1, hc2, hc3, hc4, hc5, hc6, hc7⟩ := hroad
  refine MetFree.of_bodySF (plainFor_of_name pn_com_example_fieldstone_fieldstone_core_KeyReaderHasRemainingPinLaw) hisR ?_
  intro p e s m args below meth c s₁ Bd hml0 hP hK
  obtain ⟨rfl, hZ, hh, CH0⟩ := hP
  have hx := Bd.exec
  have hby := Bd.bytes
  have hml : c.maxLocals = 7 := hml0
  have hown : s.vm.findClass "com/example/fieldstone/fieldstone/core/KeyReaderHasRemainingPinLaw" = some m.cls := findClass_of_methodNamed Bd.named
  have hnm := (name_of_methodNamed Bd.named Bd.method).1
  have X0 : Stand p l e room_1 s m #[(.int p1), (.int p2)] below meth c s₁ [] 0 0 := Stand.of_body Bd
  have e0 : s₁.heap = h0 := by rw [← hh, Bd.state]; rfl
  have N0 := Fr.nil n0
  have hZ : Z.Warmed39 (s.setVm s.vm).vm := hZ
  have hown : (s.setVm s.vm).vm.findClass "com/example/fieldstone/fieldstone/core/KeyReaderHasRemainingPinLaw" = some m.cls := hown
  have hZ0 := hZ
  have hown0 := hown
  have X0 : Stand p l e room_1 (s.setVm s.vm) m #[(.int p1), (.int p2)] below meth c s₁ [] 0 0 := X0
  have hS : s.Since s.vm h0.size := own_since s _
  have hk : h0.size ≤ h0.size := Nat.le_refl _
  have hEW := own_EW hw
  have CR : CHr Z consts_1 s.vm h0 s.vm h0 := CHr.refl CH0
  have pre0 : ∀ t, Steps p.tables e below (s₁.setTop (mkF m 0 #[.val (.int p1), .val (.int p2), .unset, .unset, .unset, .unset, .unset] [])) t → Steps p.tables e below (s₁.setTop (entryFrame m #[(.int p1), (.int p2)] maxLocals)) t := fun t k => castTop (ef_0_II m p1 p2) k
  obtain ⟨T1, h1, k1, X1, e1, E1, A1, Ex1, st1⟩ := newPE X0 hx hZ (hw _ (List.mem_of_getElem? (i := 1) rfl)) e0 (g := (mkF m 9 #[.val (.int p1), .val (.int p2), .val (.int (own_n p1)), .unset, .unset, .unset, .unset] [(.int (own_n p1))])) rfl (hb hby at_9) rfl hp1 (cap := 16) hp2 (by decide) (by decide) (by decide) (ad := "[B") (by decide)
  obtain ⟨b1, g1⟩ : ∃ z, z = h0.size := ⟨_, rfl⟩
  rw [← g1] at A1 Ex1 st1
  have g_b1 : n0 ≤ b1 := Nat.le_trans Z0 (Nat.le_of_eq g1.symm)
  have ne_s_C_b1 : s_C ≠ b1 := Nat.ne_of_lt (Nat.lt_of_lt_of_le E_s_C.lt (Nat.le_of_eq g1.symm))
  have CR := CR.trans (CHr.ext E1 CR.1)
  have f2 : Sta Z h1 "jdk/internal/util/Preconditions" "SIOOBE_FORMATTER" "Ljava/util/function/BiFunction;" s_F := S_SIOOBE_FORMATTER.ext E1
  have f3 : Sta Z h1 "java/nio/charset/StandardCharsets" "ISO_8859_1" "Ljava/nio/charset/Charset;" (.ref s_C) := S_ISO_8859_1.ext E1
  have f4 : Exa Z h1 s_C "sun/nio/cs/ISO_8859_1" := E_s_C.ext E1
  have hk : _ ≤ h1.size := Nat.le_trans hk E1.1
  have Zs5 : n0 ≤ h1.size := Nat.le_trans Z0 E1.1
  have f6 : Arv Z h1 b1 k1 .byte (own_n p1) (List.replicate 16 (Value.int (0 : Int32))) (.int (0 : Int32)) := (Arv.new A1 hp1).pad (pad_rep [] (.int (0 : Int32)) 16)
  obtain ⟨T7, h7, X7, e7, E7, A7, D7, -, st7⟩ := newO X1 hx hZ hown (hw _ (List.mem_of_getElem? (i := 2) rfl)) (hw _ (List.mem_of_getElem? (i := 3) rfl)) (hw _ (List.mem_of_getElem? (i := 4) rfl)) e1 (g := (mkF m 12 #[.val (.int p1), .val (.int p2), .val (.int (own_n p1)), .val (.ref b1), .unset, .unset, .unset] [])) rfl (hb hby at_12) (by decide) (by decide)
  obtain ⟨b7, g7⟩ : ∃ z, z = h1.size := ⟨_, rfl⟩
  rw [← g7] at A7 D7 st7
  have g_b7 : n0 ≤ b7 := Nat.le_trans Zs5 (Nat.le_of_eq g7.symm)
  have ne_s_C_b7 : s_C ≠ b7 := Nat.ne_of_lt (Nat.lt_of_lt_of_le f4.lt (Nat.le_of_eq g7.symm))
  have ne_b1_b7 : b1 ≠ b7 := Nat.ne_of_lt (Nat.lt_of_lt_of_le Ex1.lt (Nat.le_of_eq g7.symm))
  have CR := CR.trans (CHr.ext E7 CR.1)
  have f8 : Sta Z h7 "jdk/internal/util/Preconditions" "SIOOBE_FORMATTER" "Ljava/util/function/BiFunction;" s_F := f2.ext E7
  have f9 : Sta Z h7 "java/nio/charset/StandardCharsets" "ISO_8859_1" "Ljava/nio/charset/Charset;" (.ref s_C) := f3.ext E7
  have f10 : Exa Z h7 s_C "sun/nio/cs/ISO_8859_1" := f4.ext E7
  have f11 : Exa Z h7 b1 "[B" := Ex1.ext E7
  have f12 : Arv Z h7 b1 k1 .byte (own_n p1) (List.replicate 16 (Value.int (0 : Int32))) (.int (0 : Int32)) := f6.ext E7
  have hk : _ ≤ h7.size := Nat.le_trans hk E7.1
  have Zs13 : n0 ≤ h7.size := Nat.le_trans Zs5 E7.1
  have f14 : Fld Z h7 b7 "com/example/fieldstone/fieldstone/core/KeyReader" "key" "[B" .null := D7 (Or.inr (hw _ (List.mem_of_getElem? (i := 25) rfl))) (ty := (.array .byte)) (by decide)
  have f15 : Fld Z h7 b7 "com/example/fieldstone/fieldstone/core/KeyReader" "position" "I" (.int (0 : Int32)) := D7 (Or.inl (hw _ (List.mem_of_getElem? (i := 32) rfl))) (ty := .int) (by decide)
  obtain ⟨_, _, ⟨T16, L16, k16, n16⟩, -, X16, hS16, hg16, ⟨Lc16, hQ16, l16, y16, z16, CR16⟩, st16⟩ := X7.specialBackS hx (y := (⟨"com/example/fieldstone/fieldstone/core/KeyReader", "<init>", "([B)V"⟩ : MethodName)) rfl hown (mvT hZ (hw _ (List.mem_of_getElem? (i := 5) rfl))) (mvT hZ (hw _ (List.mem_of_getElem? (i := 6) rfl))) (mvT hZ (hw _ (List.mem_of_getElem? (i := 7) rfl))) (by decide) (backOfSH (W := 1) (rm_init l Z a0 hw [] b7 b1 h7 n0 Zs13 f11 A7 f14 g_b7 f15) hZ (hw _ (List.mem_of_getElem? (i := 7) rfl)) (hw _ (List.mem_of_getElem? (i := 4) rfl)) (by decide) (by decide) hEW CR.1) (g := (mkF m 17 #[.val (.int p1), .val (.int p2), .val (.int (own_n p1)), .val (.ref b1), .unset, .unset, .unset] [(.ref b1), (.ref b7), (.ref b7)])) rfl (by rw [hml]; rfl) (Steps.refl _) (a := b7) (argsL := [(.ref b1)]) (rest := [(.ref b7)]) (lenOf pd_11 rfl) rfl (by show 2 * 0 + _ ≤ _; exact Nat.le_of_eq rfl) (hb hby at_17) (fun _ _ => ⟨rfl, e7, (by decide : 2 + 2 ≤ _), (by decide : 18 + 16 ≤ _)⟩)
  dsimp only [Pt.U, Pt.locs, Pt.cells, Pt.slots] at X16 l16 y16 z16 st16 hQ16 hS16 hg16 CR16
  subst l16 y16 z16
  rw [e7] at hg16
  obtain ⟨X16, hS, hZ, hown⟩ := rebS hS hk X16 hS16 hg16 hZ hown
  have hZ16 := hZ
  have hown16 := hown
  have hk : _ ≤ T16.heap.size := Nat.le_refl _
  have CR := CR.trans CR16
  obtain ⟨rfl, Nq16, Kc16, fq16_0, fq16_1, fq16_2⟩ := hQ16
  have f18 : Sta Z T16.heap "jdk/internal/util/Preconditions" "SIOOBE_FORMATTER" "Ljava/util/function/BiFunction;" s_F := own_sta_keep f8 Kc16 (allS (own_plain_cell A7) all0)
  have f19 : Sta Z T16.heap "java/nio/charset/StandardCharsets" "ISO_8859_1" "Ljava/nio/charset/Charset;" (.ref s_C) := own_sta_keep f9 Kc16 (allS (own_plain_cell A7) all0)
  have f20 : Exa Z T16.heap s_C "sun/nio/cs/ISO_8859_1" := f10.keep Kc16
  have f21 : Exa Z T16.heap b1 "[B" := f11.keep Kc16
  have f22 : Arv Z T16.heap b1 k1 .byte (own_n p1) (List.replicate 16 (Value.int (0 : Int32))) (.int (0 : Int32)) := f12.keep Kc16 (ninS ne_b1_b7 nin0)
  have f23 : Fld Z T16.heap b7 "com/example/fieldstone/fieldstone/core/KeyReader" "key" "[B" (.ref b1) := fq16_1
  have f24 : Fld Z T16.heap b7 "com/example/fieldstone/fieldstone/core/KeyReader" "position" "I" (.int (0 : Int32)) := fq16_2
  have Zs25 : n0 ≤ T16.heap.size := Nat.le_trans Zs13 Kc16.1
  have N17 := Fr.app N0 Nq16
  obtain ⟨cq26, kq26, q26a, q26b, q26c⟩ := isOf hZ rfl fq16_0
  obtain ⟨_, _, ⟨T26, L26, k26, n26⟩, -, X26, ⟨Lc26, hQ26, l26, y26, z26⟩, st26⟩ := X16.virtualBack hx (y := (⟨"com/example/fieldstone/fieldstone/core/KeyReader", "hasRemaining", "()Z"⟩ : MethodName)) (z := (⟨"com/example/fieldstone/fieldstone/core/KeyReader", "hasRemaining", "()Z"⟩ : MethodName)) hown (mvT hZ (hw _ (List.mem_of_getElem? (i := 26) rfl))) (mvT hZ (hw _ (List.mem_of_getElem? (i := 27) rfl))) (notFace_of_selects (args := #[]) (mvT hZ (hw _ (List.mem_of_getElem? (i := 29) rfl)))) (mvT hZ (hw _ (List.mem_of_getElem? (i := 29) rfl))) (mvT hZ (hw _ (List.mem_of_getElem? (i := 28) rfl))) (by decide) (backOf (W := 0) (rm_has l Z a0 hw [] b7 (0 : Int32) b1 k1 (own_n p1) (List.replicate 16 (Value.int (0 : Int32))) T16.heap n0 Zs25 f24 f23 f22) hZ (hw _ (List.mem_of_getElem? (i := 30) rfl)) (hw _ (List.mem_of_getElem? (i := 4) rfl)) (by decide) (by decide)) q26a q26c (g := (mkF m 24 #[.val (.int p1), .val (.int p2), .val (.int (own_n p1)), .val (.ref b1), .val (.ref b7), .unset, .unset] [(.ref b7)])) rfl (by rw [hml]; rfl) (Steps.refl _) (argsL := []) (rest := []) (lenOf pd_7 rfl) rfl (by show 2 * 0 + _ ≤ _; exact Nat.le_of_eq rfl) (hb hby at_24) (fun _ _ => ⟨rfl, rfl, (by decide : 4 + 0 ≤ _), (by decide : 34 + 0 ≤ _)⟩)
  dsimp only [Pt.U, Pt.locs, Pt.cells, Pt.slots] at X26 l26 y26 z26 st26 hQ26
  subst l26 y26 z26
  obtain ⟨rfl, Nq26, e26⟩ := hQ26
  have N27 := Fr.app N17 Nq26
  obtain ⟨_, _, ⟨T28, L28, k28, n28⟩, -, X28, hS28, hg28, ⟨Lc28, hQ28, l28, y28, z28, CR28⟩, st28⟩ := Jvm.RoadKit.callSS X26 hx (y := (⟨"com/example/fieldstone/fieldstone/core/KeyReaderHasRemainingPinLaw", "step", "(Lcom/example/fieldstone/fieldstone/core/KeyReader;III)I"⟩ : MethodName)) hown (mvT hZ (hw _ (List.mem_of_getElem? (i := 33) rfl))) (mvT hZ (hw _ (List.mem_of_getElem? (i := 34) rfl))) (mvT hZ (hw _ (List.mem_of_getElem? (i := 35) rfl))) (mvT hZ (hw _ (List.mem_of_getElem? (i := 36) rfl))) (by decide) (backOfSH (W := 0) (rm_step l Z a0 hw [] b7 (own_n p1) (0 : Int32) (p2 &&& (3 : Int32)) b1 k1 s_F s_C T16.heap n0 Zs25 f23 f21 f22 f24 fq16_0 g_b7 f18 hsr f19 f20 (by decide) hp3 hp4 hp5) hZ (hw _ (List.mem_of_getElem? (i := 36) rfl)) (hw _ (List.mem_of_getElem? (i := 35) rfl)) (by decide) (by decide) hEW CR.1) (g := (mkF m 57 #[.val (.int p1), .val (.int p2), .val (.int (own_n p1)), .val (.ref b1), .val (.ref b7), .val (.int (1 : Int32)), .val (.int (0 : Int32))] [(.int (p2 &&& (3 : Int32))), (.int (0 : Int32)), (.int (own_n p1)), (.ref b7)])) rfl (by rw [hml]; rfl) (argsL := [(.ref b7), (.int (own_n p1)), (.int (0 : Int32)), (.int (p2 &&& (3 : Int32)))]) (rest := []) (lenOf pd_12 rfl) rfl (by show 2 * 0 + _ ≤ _; exact Nat.le_of_eq rfl) (hb hby at_57) (fun _ _ => ⟨rfl, e26, (by decide : 4 + 5 ≤ _), (by decide : 34 + 12 ≤ _)⟩)
  dsimp only [Pt.U, Pt.locs, Pt.cells, Pt.slots] at X28 l28 y28 z28 st28 hQ28 hS28 hg28 CR28
  subst l28 y28 z28
  rw [e26] at hg28
  obtain ⟨X28, hS, hZ, hown⟩ := rebS hS hk X28 hS28 hg28 hZ hown
  have hZ28 := hZ
  have hown28 := hown
  have hk : _ ≤ T28.heap.size := Nat.le_refl _
  have CR := CR.trans CR28
  obtain ⟨rfl, Nq28, Kc28, fq28_0, fq28_1, fq28_2⟩ := hQ28
  have f30 : Sta Z T28.heap "jdk/internal/util/Preconditions" "SIOOBE_FORMATTER" "Ljava/util/function/BiFunction;" s_F := own_sta_keep f18 Kc28 (allS (own_plain_cell fq16_0) all0)
  have f31 : Sta Z T28.heap "java/nio/charset/StandardCharsets" "ISO_8859_1" "Ljava/nio/charset/Charset;" (.ref s_C) := own_sta_keep f19 Kc28 (allS (own_plain_cell fq16_0) all0)
  have f32 : Exa Z T28.heap s_C "sun/nio/cs/ISO_8859_1" := f20.keep Kc28
  have f33 : Exa Z T28.heap b1 "[B" := f21.keep Kc28
  have f34 : Arv Z T28.heap b1 k1 .byte (own_n p1) (List.replicate 16 (Value.int (0 : Int32))) (.int (0 : Int32)) := f22.keep Kc28 (ninS ne_b1_b7 nin0)
  have f35 : Fld Z T28.heap b7 "com/example/fieldstone/fieldstone/core/KeyReader" "key" "[B" (.ref b1) := fq28_1
  have f36 : Fld Z T28.heap b7 "com/example/fieldstone/fieldstone/core/KeyReader" "position" "I" (.int (own_step (own_n p1) (0 : Int32) (p2 &&& (3 : Int32)))) := fq28_2
  have Zs37 : n0 ≤ T28.heap.size := Nat.le_trans Zs25 Kc28.1
  have N29 := Fr.app N27 Nq28
  obtain ⟨cq38, kq38, q38a, q38b, q38c⟩ := isOf hZ rfl fq28_0
  obtain ⟨_, _, ⟨T38, L38, k38, n38⟩, -, X38, ⟨Lc38, hQ38, l38, y38, z38⟩, st38⟩ := X28.virtualBack hx (y := (⟨"com/example/fieldstone/fieldstone/core/KeyReader", "hasRemaining", "()Z"⟩ : MethodName)) (z := (⟨"com/example/fieldstone/fieldstone/core/KeyReader", "hasRemaining", "()Z"⟩ : MethodName)) hown (mvT hZ (hw _ (List.mem_of_getElem? (i := 26) rfl))) (mvT hZ (hw _ (List.mem_of_getElem? (i := 27) rfl))) (notFace_of_selects (args := #[]) (mvT hZ (hw _ (List.mem_of_getElem? (i := 29) rfl)))) (mvT hZ (hw _ (List.mem_of_getElem? (i := 29) rfl))) (mvT hZ (hw _ (List.mem_of_getElem? (i := 28) rfl))) (by decide) (backOf (W := 0) (rm_has l Z a0 hw [] b7 (own_step (own_n p1) (0 : Int32) (p2 &&& (3 : Int32))) b1 k1 (own_n p1) (List.replicate 16 (Value.int (0 : Int32))) T28.heap n0 Zs37 f36 f35 f34) hZ (hw _ (List.mem_of_getElem? (i := 30) rfl)) (hw _ (List.mem_of_getElem? (i := 4) rfl)) (by decide) (by decide)) q38a q38c (g := (mkF m 69 #[.val (.int p1), .val (.int p2), .val (.int (own_n p1)), .val (.ref b1), .val (.ref b7), .val (.int (1 : Int32)), .val (.int (own_step (own_n p1) (0 : Int32) (p2 &&& (3 : Int32))))] [(.ref b7)])) rfl (by rw [hml]; rfl) (Steps.refl _) (argsL := []) (rest := []) (lenOf pd_7 rfl) rfl (by show 2 * 0 + _ ≤ _; exact Nat.le_of_eq rfl) (hb hby at_69) (fun _ _ => ⟨rfl, rfl, (by decide : 9 + 0 ≤ _), (by decide : 46 + 0 ≤ _)⟩)
  dsimp only [Pt.U, Pt.locs, Pt.cells, Pt.slots] at X38 l38 y38 z38 st38 hQ38
  subst l38 y38 z38
  obtain ⟨rfl, Nq38, e38⟩ := hQ38
  have N39 := Fr.app N29 Nq38
  obtain ⟨_, _, ⟨T40, L40, k40, n40⟩, -, X40, hS40, hg40, ⟨Lc40, hQ40, l40, y40, z40, CR40⟩, st40⟩ := Jvm.RoadKit.callSS X38 hx (y := (⟨"com/example/fieldstone/fieldstone/core/KeyReaderHasRemainingPinLaw", "step", "(Lcom/example/fieldstone/fieldstone/core/KeyReader;III)I"⟩ : MethodName)) hown (mvT hZ (hw _ (List.mem_of_getElem? (i := 33) rfl))) (mvT hZ (hw _ (List.mem_of_getElem? (i := 34) rfl))) (mvT hZ (hw _ (List.mem_of_getElem? (i := 35) rfl))) (mvT hZ (hw _ (List.mem_of_getElem? (i := 36) rfl))) (by decide) (backOfSH (W := 0) (rm_step l Z a0 hw [] b7 (own_n p1) (own_step (own_n p1) (0 : Int32) (p2 &&& (3 : Int32))) (((p2.toUInt32 >>> ((2 : Int32) &&& 31).toUInt32).toInt32) &&& (3 : Int32)) b1 k1 s_F s_C T28.heap n0 Zs37 f35 f33 f34 f36 fq28_0 g_b7 f30 hsr f31 f32 hp6 hp7 hp4 hp8) hZ (hw _ (List.mem_of_getElem? (i := 36) rfl)) (hw _ (List.mem_of_getElem? (i := 35) rfl)) (by decide) (by decide) hEW CR.1) (g := (mkF m 103 #[.val (.int p1), .val (.int p2), .val (.int (own_n p1)), .val (.ref b1), .val (.ref b7), .val (.int (1 : Int32)), .val (.int (own_step (own_n p1) (0 : Int32) (p2 &&& (3 : Int32))))] [(.int (((p2.toUInt32 >>> ((2 : Int32) &&& 31).toUInt32).toInt32) &&& (3 : Int32))), (.int (own_step (own_n p1) (0 : Int32) (p2 &&& (3 : Int32)))), (.int (own_n p1)), (.ref b7)])) rfl (by rw [hml]; rfl) (argsL := [(.ref b7), (.int (own_n p1)), (.int (own_step (own_n p1) (0 : Int32) (p2 &&& (3 : Int32)))), (.int (((p2.toUInt32 >>> ((2 : Int32) &&& 31).toUInt32).toInt32) &&& (3 : Int32)))]) (rest := []) (lenOf pd_12 rfl) rfl (by show 2 * 0 + _ ≤ _; exact Nat.le_of_eq rfl) (hb hby at_103) (fun _ _ => ⟨rfl, e38, (by decide : 9 + 5 ≤ _), (by decide : 46 + 12 ≤ _)⟩)
  dsimp only [Pt.U, Pt.locs, Pt.cells, Pt.slots] at X40 l40 y40 z40 st40 hQ40 hS40 hg40 CR40
  subst l40 y40 z40
  rw [e38] at hg40
  obtain ⟨X40, hS, hZ, hown⟩ := rebS hS hk X40 hS40 hg40 hZ hown
  have hZ40 := hZ
  have hown40 := hown
  have hk : _ ≤ T40.heap.size := Nat.le_refl _
  have CR := CR.trans CR40
  obtain ⟨rfl, Nq40, Kc40, fq40_0, fq40_1, fq40_2⟩ := hQ40
  have f42 : Sta Z T40.heap "jdk/internal/util/Preconditions" "SIOOBE_FORMATTER" "Ljava/util/function/BiFunction;" s_F := own_sta_keep f30 Kc40 (allS (own_plain_cell fq28_0) all0)
  have f43 : Sta Z T40.heap "java/nio/charset/StandardCharsets" "ISO_8859_1" "Ljava/nio/charset/Charset;" (.ref s_C) := own_sta_keep f31 Kc40 (allS (own_plain_cell fq28_0) all0)
  have f44 : Exa Z T40.heap s_C "sun/nio/cs/ISO_8859_1" := f32.keep Kc40
  have f45 : Exa Z T40.heap b1 "[B" := f33.keep Kc40
  have f46 : Arv Z T40.heap b1 k1 .byte (own_n p1) (List.replicate 16 (Value.int (0 : Int32))) (.int (0 : Int32)) := f34.keep Kc40 (ninS ne_b1_b7 nin0)
  have f47 : Fld Z T40.heap b7 "com/example/fieldstone/fieldstone/core/KeyReader" "key" "[B" (.ref b1) := fq40_1
  have f48 : Fld Z T40.heap b7 "com/example/fieldstone/fieldstone/core/KeyReader" "position" "I" (.int (own_step (own_n p1) (own_step (own_n p1) (0 : Int32) (p2 &&& (3 : Int32))) (((p2.toUInt32 >>> ((2 : Int32) &&& 31).toUInt32).toInt32) &&& (3 : Int32)))) := fq40_2
  have Zs49 : n0 ≤ T40.heap.size := Nat.le_trans Zs37 Kc40.1
  have N41 := Fr.app N39 Nq40
  obtain ⟨cq50, kq50, q50a, q50b, q50c⟩ := isOf hZ rfl fq40_0
  obtain ⟨_, _, ⟨T50, L50, k50, n50⟩, -, X50, ⟨Lc50, hQ50, l50, y50, z50⟩, st50⟩ := X40.virtualBack hx (y := (⟨"com/example/fieldstone/fieldstone/core/KeyReader", "hasRemaining", "()Z"⟩ : MethodName)) (z := (⟨"com/example/fieldstone/fieldstone/core/KeyReader", "hasRemaining", "()Z"⟩ : MethodName)) hown (mvT hZ (hw _ (List.mem_of_getElem? (i := 26) rfl))) (mvT hZ (hw _ (List.mem_of_getElem? (i := 27) rfl))) (notFace_of_selects (args := #[]) (mvT hZ (hw _ (List.mem_of_getElem? (i := 29) rfl)))) (mvT hZ (hw _ (List.mem_of_getElem? (i := 29) rfl))) (mvT hZ (hw _ (List.mem_of_getElem? (i := 28) rfl))) (by decide) (backOf (W := 0) (rm_has l Z a0 hw [] b7 (own_step (own_n p1) (own_step (own_n p1) (0 : Int32) (p2 &&& (3 : Int32))) (((p2.toUInt32 >>> ((2 : Int32) &&& 31).toUInt32).toInt32) &&& (3 : Int32))) b1 k1 (own_n p1) (List.replicate 16 (Value.int (0 : Int32))) T40.heap n0 Zs49 f48 f47 f46) hZ (hw _ (List.mem_of_getElem? (i := 30) rfl)) (hw _ (List.mem_of_getElem? (i := 4) rfl)) (by decide) (by decide)) q50a q50c (g := (mkF m 115 #[.val (.int p1), .val (.int p2), .val (.int (own_n p1)), .val (.ref b1), .val (.ref b7), .val (.int (1 : Int32)), .val (.int (own_step (own_n p1) (own_step (own_n p1) (0 : Int32) (p2 &&& (3 : Int32))) (((p2.toUInt32 >>> ((2 : Int32) &&& 31).toUInt32).toInt32) &&& (3 : Int32))))] [(.ref b7)])) rfl (by rw [hml]; rfl) (Steps.refl _) (argsL := []) (rest := []) (lenOf pd_7 rfl) rfl (by show 2 * 0 + _ ≤ _; exact Nat.le_of_eq rfl) (hb hby at_115) (fun _ _ => ⟨rfl, rfl, (by decide : 14 + 0 ≤ _), (by decide : 58 + 0 ≤ _)⟩)
  dsimp only [Pt.U, Pt.locs, Pt.cells, Pt.slots] at X50 l50 y50 z50 st50 hQ50
  subst l50 y50 z50
  obtain ⟨rfl, Nq50, e50⟩ := hQ50
  have N51 := Fr.app N41 Nq50
  obtain ⟨_, _, ⟨T52, L52, k52, n52⟩, -, X52, hS52, hg52, ⟨Lc52, hQ52, l52, y52, z52, CR52⟩, st52⟩ := Jvm.RoadKit.callSS X50 hx (y := (⟨"com/example/fieldstone/fieldstone/core/KeyReaderHasRemainingPinLaw", "step", "(Lcom/example/fieldstone/fieldstone/core/KeyReader;III)I"⟩ : MethodName)) hown (mvT hZ (hw _ (List.mem_of_getElem? (i := 33) rfl))) (mvT hZ (hw _ (List.mem_of_getElem? (i := 34) rfl))) (mvT hZ (hw _ (List.mem_of_getElem? (i := 35) rfl))) (mvT hZ (hw _ (List.mem_of_getElem? (i := 36) rfl))) (by decide) (backOfSH (W := 0) (rm_step l Z a0 hw [] b7 (own_n p1) (own_step (own_n p1) (own_step (own_n p1) (0 : Int32) (p2 &&& (3 : Int32))) (((p2.toUInt32 >>> ((2 : Int32) &&& 31).toUInt32).toInt32) &&& (3 : Int32))) (((p2.toUInt32 >>> ((4 : Int32) &&& 31).toUInt32).toInt32) &&& (3 : Int32)) b1 k1 s_F s_C T40.heap n0 Zs49 f47 f45 f46 f48 fq40_0 g_b7 f42 hsr f43 f44 hp9 hp10 hp4 hp11) hZ (hw _ (List.mem_of_getElem? (i := 36) rfl)) (hw _ (List.mem_of_getElem? (i := 35) rfl)) (by decide) (by decide) hEW CR.1) (g := (mkF m 149 #[.val (.int p1), .val (.int p2), .val (.int (own_n p1)), .val (.ref b1), .val (.ref b7), .val (.int (1 : Int32)), .val (.int (own_step (own_n p1) (own_step (own_n p1) (0 : Int32) (p2 &&& (3 : Int32))) (((p2.toUInt32 >>> ((2 : Int32) &&& 31).toUInt32).toInt32) &&& (3 : Int32))))] [(.int (((p2.toUInt32 >>> ((4 : Int32) &&& 31).toUInt32).toInt32) &&& (3 : Int32))), (.int (own_step (own_n p1) (own_step (own_n p1) (0 : Int32) (p2 &&& (3 : Int32))) (((p2.toUInt32 >>> ((2 : Int32) &&& 31).toUInt32).toInt32) &&& (3 : Int32)))), (.int (own_n p1)), (.ref b7)])) rfl (by rw [hml]; rfl) (argsL := [(.ref b7), (.int (own_n p1)), (.int (own_step (own_n p1) (own_step (own_n p1) (0 : Int32) (p2 &&& (3 : Int32))) (((p2.toUInt32 >>> ((2 : Int32) &&& 31).toUInt32).toInt32) &&& (3 : Int32)))), (.int (((p2.toUInt32 >>> ((4 : Int32) &&& 31).toUInt32).toInt32) &&& (3 : Int32)))]) (rest := []) (lenOf pd_12 rfl) rfl (by show 2 * 0 + _ ≤ _; exact Nat.le_of_eq rfl) (hb hby at_149) (fun _ _ => ⟨rfl, e50, (by decide : 14 + 5 ≤ _), (by decide : 58 + 12 ≤ _)⟩)
  dsimp only [Pt.U, Pt.locs, Pt.cells, Pt.slots] at X52 l52 y52 z52 st52 hQ52 hS52 hg52 CR52
  subst l52 y52 z52
  rw [e50] at hg52
  obtain ⟨X52, hS, hZ, hown⟩ := rebS hS hk X52 hS52 hg52 hZ hown
  have hZ52 := hZ
  have hown52 := hown
  have hk : _ ≤ T52.heap.size := Nat.le_refl _
  have CR := CR.trans CR52
  obtain ⟨rfl, Nq52, Kc52, fq52_0, fq52_1, fq52_2⟩ := hQ52
  have f54 : Sta Z T52.heap "jdk/internal/util/Preconditions" "SIOOBE_FORMATTER" "Ljava/util/function/BiFunction;" s_F := own_sta_keep f42 Kc52 (allS (own_plain_cell fq40_0) all0)
  have f55 : Sta Z T52.heap "java/nio/charset/StandardCharsets" "ISO_8859_1" "Ljava/nio/charset/Charset;" (.ref s_C) := own_sta_keep f43 Kc52 (allS (own_plain_cell fq40_0) all0)
  have f56 : Exa Z T52.heap s_C "sun/nio/cs/ISO_8859_1" := f44.keep Kc52
  have f57 : Exa Z T52.heap b1 "[B" := f45.keep Kc52
  have f58 : Arv Z T52.heap b1 k1 .byte (own_n p1) (List.replicate 16 (Value.int (0 : Int32))) (.int (0 : Int32)) := f46.keep Kc52 (ninS ne_b1_b7 nin0)
  have f59 : Fld Z T52.heap b7 "com/example/fieldstone/fieldstone/core/KeyReader" "key" "[B" (.ref b1) := fq52_1
  have f60 : Fld Z T52.heap b7 "com/example/fieldstone/fieldstone/core/KeyReader" "position" "I" (.int (own_step (own_n p1) (own_step (own_n p1) (own_step (own_n p1) (0 : Int32) (p2 &&& (3 : Int32))) (((p2.toUInt32 >>> ((2 : Int32) &&& 31).toUInt32).toInt32) &&& (3 : Int32))) (((p2.toUInt32 >>> ((4 : Int32) &&& 31).toUInt32).toInt32) &&& (3 : Int32)))) := fq52_2
  have Zs61 : n0 ≤ T52.heap.size := Nat.le_trans Zs49 Kc52.1
  have N53 := Fr.app N51 Nq52
  obtain ⟨cq62, kq62, q62a, q62b, q62c⟩ := isOf hZ rfl fq52_0
  obtain ⟨_, _, ⟨T62, L62, k62, n62⟩, -, X62, ⟨Lc62, hQ62, l62, y62, z62⟩, st62⟩ := X52.virtualBack hx (y := (⟨"com/example/fieldstone/fieldstone/core/KeyReader", "hasRemaining", "()Z"⟩ : MethodName)) (z := (⟨"com/example/fieldstone/fieldstone/core/KeyReader", "hasRemaining", "()Z"⟩ : MethodName)) hown (mvT hZ (hw _ (List.mem_of_getElem? (i := 26) rfl))) (mvT hZ (hw _ (List.mem_of_getElem? (i := 27) rfl))) (notFace_of_selects (args := #[]) (mvT hZ (hw _ (List.mem_of_getElem? (i := 29) rfl)))) (mvT hZ (hw _ (List.mem_of_getElem? (i := 29) rfl))) (mvT hZ (hw _ (List.mem_of_getElem? (i := 28) rfl))) (by decide) (backOf (W := 0) (rm_has l Z a0 hw [] b7 (own_step (own_n p1) (own_step (own_n p1) (own_step (own_n p1) (0 : Int32) (p2 &&& (3 : Int32))) (((p2.toUInt32 >>> ((2 : Int32) &&& 31).toUInt32).toInt32) &&& (3 : Int32))) (((p2.toUInt32 >>> ((4 : Int32) &&& 31).toUInt32).toInt32) &&& (3 : Int32))) b1 k1 (own_n p1) (List.replicate 16 (Value.int (0 : Int32))) T52.heap n0 Zs61 f60 f59 f58) hZ (hw _ (List.mem_of_getElem? (i := 30) rfl)) (hw _ (List.mem_of_getElem? (i := 4) rfl)) (by decide) (by decide)) q62a q62c (g := (mkF m 161 #[.val (.int p1), .val (.int p2), .val (.int (own_n p1)), .val (.ref b1), .val (.ref b7), .val (.int (1 : Int32)), .val (.int (own_step (own_n p1) (own_step (own_n p1) (own_step (own_n p1) (0 : Int32) (p2 &&& (3 : Int32))) (((p2.toUInt32 >>> ((2 : Int32) &&& 31).toUInt32).toInt32) &&& (3 : Int32))) (((p2.toUInt32 >>> ((4 : Int32) &&& 31).toUInt32).toInt32) &&& (3 : Int32))))] [(.ref b7)])) rfl (by rw [hml]; rfl) (Steps.refl _) (argsL := []) (rest := []) (lenOf pd_7 rfl) rfl (by show 2 * 0 + _ ≤ _; exact Nat.le_of_eq rfl) (hb hby at_161) (fun _ _ => ⟨rfl, rfl, (by decide : 19 + 0 ≤ _), (by decide : 70 + 0 ≤ _)⟩)
  dsimp only [Pt.U, Pt.locs, Pt.cells, Pt.slots] at X62 l62 y62 z62 st62 hQ62
  subst l62 y62 z62
  obtain ⟨rfl, Nq62, e62⟩ := hQ62
  have N63 := Fr.app N53 Nq62
  obtain ⟨fs, hr, hrun, hended, hRE⟩ := X62.leaveW hS (by rw [e62]; exact hk) (v := some (.int (1 : Int32))) (fun h => by rw [Bd.returns] at h; cases h) Bd.notSynchronized
  refine ⟨_, _, pre0 _ ?_, hrun, hended, _, _, rfl, ?_, ?_, hRE.1, hRE.2.1, hRE.2.2.1, hRE.2.2.2.mono (by decide) (by decide)⟩
  · show Steps p.tables e below (s₁.setTop (mkF m 0 #[.val (.int p1), .val (.int p2), .unset, .unset, .unset, .unset, .unset] [])) _
    refine XS.iloadN X0.here hx rfl (hb hby at_0) rfl ?_
    show Steps p.tables e below (s₁.setTop (mkF m 1 #[.val (.int p1), .val (.int p2), .unset, .unset, .unset, .unset, .unset] [(.int p1)])) _
    refine X0.ldcInt hx hown0 (mvT hZ0 (hw _ (List.mem_of_getElem? (i := 0) rfl))) (g := (mkF m 1 #[.val (.int p1), .val (.int p2), .unset, .unset, .unset, .unset, .unset] [(.int p1)])) rfl (hb hby at_1) _ ?_
    show Steps p.tables e below (s₁.setTop (mkF m 3 #[.val (.int p1), .val (.int p2), .unset, .unset, .unset, .unset, .unset] [(.int (2147483647 : Int32)), (.int p1)])) _
    refine XS.iand X0.here hx rfl (hb hby at_3) rfl ?_
    show Steps p.tables e below (s₁.setTop (mkF m 4 #[.val (.int p1), .val (.int p2), .unset, .unset, .unset, .unset, .unset] [(.int (p1 &&& (2147483647 : Int32)))])) _
    refine XS.bipush X0.here hx rfl (hb hby at_4) ?_
    show Steps p.tables e below (s₁.setTop (mkF m 6 #[.val (.int p1), .val (.int p2), .unset, .unset, .unset, .unset, .unset] [(.int (17 : Int32)), (.int (p1 &&& (2147483647 : Int32)))])) _
    refine iremM X0 hx rfl (hb hby at_6) rfl (by decide) ?_
    show Steps p.tables e below (s₁.setTop (mkF m 7 #[.val (.int p1), .val (.int p2), .unset, .unset, .unset, .unset, .unset] [(.int ((p1 &&& (2147483647 : Int32)) % (17 : Int32)))])) _
    refine XS.istoreN X0.here hx rfl (hb hby at_7) rfl (l' := #[.val (.int p1), .val (.int p2), .val (.int (own_n p1)), .unset, .unset, .unset, .unset]) rfl ?_
    show Steps p.tables e below (s₁.setTop (mkF m 8 #[.val (.int p1), .val (.int p2), .val (.int (own_n p1)), .unset, .unset, .unset, .unset] [])) _
    refine XS.iloadN X0.here hx rfl (hb hby at_8) rfl ?_
    show Steps p.tables e below (s₁.setTop (mkF m 9 #[.val (.int p1), .val (.int p2), .val (.int (own_n p1)), .unset, .unset, .unset, .unset] [(.int (own_n p1))])) _
    refine st1 _ ?_
    show Steps p.tables e below (T1.setTop (mkF m 11 #[.val (.int p1), .val (.int p2), .val (.int (own_n p1)), .unset, .unset, .unset, .unset] [(.ref b1)])) _
    refine XS.astoreN X1.here hx rfl (hb hby at_11) rfl rfl (l' := #[.val (.int p1), .val (.int p2), .val (.int (own_n p1)), .val (.ref b1), .unset, .unset, .unset]) rfl ?_
    show Steps p.tables e below (T1.setTop (mkF m 12 #[.val (.int p1), .val (.int p2), .val (.int (own_n p1)), .val (.ref b1), .unset, .unset, .unset] [])) _
    refine st7 _ ?_
    show Steps p.tables e below (T7.setTop (mkF m 15 #[.val (.int p1), .val (.int p2), .val (.int (own_n p1)), .val (.ref b1), .unset, .unset, .unset] [(.ref b7)])) _
    refine XS.dup X7.here hx rfl (hb hby at_15) rfl rfl ?_
    show Steps p.tables e below (T7.setTop (mkF m 16 #[.val (.int p1), .val (.int p2), .val (.int (own_n p1)), .val (.ref b1), .unset, .unset, .unset] [(.ref b7), (.ref b7)])) _
    refine XS.aloadN X7.here hx rfl (hb hby at_16) rfl rfl ?_
    show Steps p.tables e below (T7.setTop (mkF m 17 #[.val (.int p1), .val (.int p2), .val (.int (own_n p1)), .val (.ref b1), .unset, .unset, .unset] [(.ref b1), (.ref b7), (.ref b7)])) _
    refine st16.trans ?_
    show Steps p.tables e below (T16.setTop (mkF m 20 #[.val (.int p1), .val (.int p2), .val (.int (own_n p1)), .val (.ref b1), .unset, .unset, .unset] [(.ref b7)])) _
    refine XS.astore X16.here hx rfl (hb hby at_20) rfl rfl (l' := #[.val (.int p1), .val (.int p2), .val (.int (own_n p1)), .val (.ref b1), .val (.ref b7), .unset, .unset]) rfl ?_
    show Steps p.tables e below (T16.setTop (mkF m 22 #[.val (.int p1), .val (.int p2), .val (.int (own_n p1)), .val (.ref b1), .val (.ref b7), .unset, .unset] [])) _
    refine XS.aload X16.here hx rfl (hb hby at_22) rfl rfl ?_
    show Steps p.tables e below (T16.setTop (mkF m 24 #[.val (.int p1), .val (.int p2), .val (.int (own_n p1)), .val (.ref b1), .val (.ref b7), .unset, .unset] [(.ref b7)])) _
    refine st26.trans ?_
    show Steps p.tables e below (T26.setTop (mkF m 27 #[.val (.int p1), .val (.int p2), .val (.int (own_n p1)), .val (.ref b1), .val (.ref b7), .unset, .unset] [(.int (f_has (0 : Int32) (own_n p1)))])) _
    refine XS.iloadN X26.here hx rfl (hb hby at_27) rfl ?_
    show Steps p.tables e below (T26.setTop (mkF m 28 #[.val (.int p1), .val (.int p2), .val (.int (own_n p1)), .val (.ref b1), .val (.ref b7), .unset, .unset] [(.int (own_n p1)), (.int (f_has (0 : Int32) (own_n p1)))])) _
    refine XS.ifYes X26.here hx rfl (pc0 := 28) (pc' := 35) rfl (hb hby at_28) rfl ((if0 _ _).trans (flt hc0).2.2.2) (by decide) (by decide) ?_
    show Steps p.tables e below (T26.setTop (mkF m 35 #[.val (.int p1), .val (.int p2), .val (.int (own_n p1)), .val (.ref b1), .val (.ref b7), .unset, .unset] [(.int (f_has (0 : Int32) (own_n p1)))])) _
    refine XS.iconst X26.here hx rfl (hb hby at_35) ?_
    show Steps p.tables e below (T26.setTop (mkF m 36 #[.val (.int p1), .val (.int p2), .val (.int (own_n p1)), .val (.ref b1), .val (.ref b7), .unset, .unset] [(.int (0 : Int32)), (.int (f_has (0 : Int32) (own_n p1)))])) _
    refine XS.icmpNo X26.here hx rfl (hb hby at_36) rfl (teq hc1).2 ?_
    show Steps p.tables e below (T26.setTop (mkF m 39 #[.val (.int p1), .val (.int p2), .val (.int (own_n p1)), .val (.ref b1), .val (.ref b7), .unset, .unset] [])) _
    refine XS.iconst X26.here hx rfl (hb hby at_39) ?_
    show Steps p.tables e below (T26.setTop (mkF m 40 #[.val (.int p1), .val (.int p2), .val (.int (own_n p1)), .val (.ref b1), .val (.ref b7), .unset, .unset] [(.int (1 : Int32))])) _
    refine XS.goto X26.here hx rfl (pc0 := 40) (pc' := 44) rfl (hb hby at_40) (by decide) (by decide) ?_
    show Steps p.tables e below (T26.setTop (mkF m 44 #[.val (.int p1), .val (.int p2), .val (.int (own_n p1)), .val (.ref b1), .val (.ref b7), .unset, .unset] [(.int (1 : Int32))])) _
    refine XS.istore X26.here hx rfl (hb hby at_44) rfl (l' := #[.val (.int p1), .val (.int p2), .val (.int (own_n p1)), .val (.ref b1), .val (.ref b7), .val (.int (1 : Int32)), .unset]) rfl ?_
    show Steps p.tables e below (T26.setTop (mkF m 46 #[.val (.int p1), .val (.int p2), .val (.int (own_n p1)), .val (.ref b1), .val (.ref b7), .val (.int (1 : Int32)), .unset] [])) _
    refine XS.iconst X26.here hx rfl (hb hby at_46) ?_
    show Steps p.tables e below (T26.setTop (mkF m 47 #[.val (.int p1), .val (.int p2), .val (.int (own_n p1)), .val (.ref b1), .val (.ref b7), .val (.int (1 : Int32)), .unset] [(.int (0 : Int32))])) _
    refine XS.istore X26.here hx rfl (hb hby at_47) rfl (l' := #[.val (.int p1), .val (.int p2), .val (.int (own_n p1)), .val (.ref b1), .val (.ref b7), .val (.int (1 : Int32)), .val (.int (0 : Int32))]) rfl ?_
    show Steps p.tables e below (T26.setTop (mkF m 49 #[.val (.int p1), .val (.int p2), .val (.int (own_n p1)), .val (.ref b1), .val (.ref b7), .val (.int (1 : Int32)), .val (.int (0 : Int32))] [])) _
    refine XS.aload X26.here hx rfl (hb hby at_49) rfl rfl ?_
    refine XS.iloadN X26.here hx rfl (hb hby at_51) rfl ?_
    refine XS.iload X26.here hx rfl (hb hby at_52) rfl ?_
    refine XS.iloadN X26.here hx rfl (hb hby at_54) rfl ?_
    refine XS.iconst X26.here hx rfl (hb hby at_55) ?_
    show Steps p.tables e below (T26.setTop (mkF m 56 #[.val (.int p1), .val (.int p2), .val (.int (own_n p1)), .val (.ref b1), .val (.ref b7), .val (.int (1 : Int32)), .val (.int (0 : Int32))] [(.int (3 : Int32)), (.int p2), (.int (0 : Int32)), (.int (own_n p1)), (.ref b7)])) _
    refine XS.iand X26.here hx rfl (hb hby at_56) rfl ?_
    show Steps p.tables e below (T26.setTop (mkF m 57 #[.val (.int p1), .val (.int p2), .val (.int (own_n p1)), .val (.ref b1), .val (.ref b7), .val (.int (1 : Int32)), .val (.int (0 : Int32))] [(.int (p2 &&& (3 : Int32))), (.int (0 : Int32)), (.int (own_n p1)), (.ref b7)])) _
    refine st28.trans ?_
    show Steps p.tables e below (T28.setTop (mkF m 60 #[.val (.int p1), .val (.int p2), .val (.int (own_n p1)), .val (.ref b1), .val (.ref b7), .val (.int (1 : Int32)), .val (.int (0 : Int32))] [(.int (own_step (own_n p1) (0 : Int32) (p2 &&& (3 : Int32))))])) _
    refine XS.istore X28.here hx rfl (hb hby at_60) rfl (l' := #[.val (.int p1), .val (.int p2), .val (.int (own_n p1)), .val (.ref b1), .val (.ref b7), .val (.int (1 : Int32)), .val (.int (own_step (own_n p1) (0 : Int32) (p2 &&& (3 : Int32))))]) rfl ?_
    show Steps p.tables e below (T28.setTop (mkF m 62 #[.val (.int p1), .val (.int p2), .val (.int (own_n p1)), .val (.ref b1), .val (.ref b7), .val (.int (1 : Int32)), .val (.int (own_step (own_n p1) (0 : Int32) (p2 &&& (3 : Int32))))] [])) _
    refine XS.iload X28.here hx rfl (hb hby at_62) rfl ?_
    show Steps p.tables e below (T28.setTop (mkF m 64 #[.val (.int p1), .val (.int p2), .val (.int (own_n p1)), .val (.ref b1), .val (.ref b7), .val (.int (1 : Int32)), .val (.int (own_step (own_n p1) (0 : Int32) (p2 &&& (3 : Int32))))] [(.int (1 : Int32))])) _
    refine XS.ifNo X28.here hx rfl (hb hby at_64) rfl ((if0 _ _).trans (feq (by decide : ¬ ((1 : Int32) = (0 : Int32)))).1) ?_
    show Steps p.tables e below (T28.setTop (mkF m 67 #[.val (.int p1), .val (.int p2), .val (.int (own_n p1)), .val (.ref b1), .val (.ref b7), .val (.int (1 : Int32)), .val (.int (own_step (own_n p1) (0 : Int32) (p2 &&& (3 : Int32))))] [])) _
    refine XS.aload X28.here hx rfl (hb hby at_67) rfl rfl ?_
    show Steps p.tables e below (T28.setTop (mkF m 69 #[.val (.int p1), .val (.int p2), .val (.int (own_n p1)), .val (.ref b1), .val (.ref b7), .val (.int (1 : Int32)), .val (.int (own_step (own_n p1) (0 : Int32) (p2 &&& (3 : Int32))))] [(.ref b7)])) _
    refine st38.trans ?_
    show Steps p.tables e below (T38.setTop (mkF m 72 #[.val (.int p1), .val (.int p2), .val (.int (own_n p1)), .val (.ref b1), .val (.ref b7), .val (.int (1 : Int32)), .val (.int (own_step (own_n p1) (0 : Int32) (p2 &&& (3 : Int32))))] [(.int (f_has (own_step (own_n p1) (0 : Int32) (p2 &&& (3 : Int32))) (own_n p1)))])) _
    refine XS.iload X38.here hx rfl (hb hby at_72) rfl ?_
    refine XS.iloadN X38.here hx rfl (hb hby at_74) rfl ?_
    show Steps p.tables e below (T38.setTop (mkF m 75 #[.val (.int p1), .val (.int p2), .val (.int (own_n p1)), .val (.ref b1), .val (.ref b7), .val (.int (1 : Int32)), .val (.int (own_step (own_n p1) (0 : Int32) (p2 &&& (3 : Int32))))] [(.int (own_n p1)), (.int (own_step (own_n p1) (0 : Int32) (p2 &&& (3 : Int32)))), (.int (f_has (own_step (own_n p1) (0 : Int32) (p2 &&& (3 : Int32))) (own_n p1)))])) _
    refine XS.icmpYes X38.here hx rfl (pc0 := 75) (pc' := 82) rfl (hb hby at_75) rfl (flt hc2).2.1 (by decide) (by decide) ?_
    show Steps p.tables e below (T38.setTop (mkF m 82 #[.val (.int p1), .val (.int p2), .val (.int (own_n p1)), .val (.ref b1), .val (.ref b7), .val (.int (1 : Int32)), .val (.int (own_step (own_n p1) (0 : Int32) (p2 &&& (3 : Int32))))] [(.int (f_has (own_step (own_n p1) (0 : Int32) (p2 &&& (3 : Int32))) (own_n p1)))])) _
    refine XS.iconst X38.here hx rfl (hb hby at_82) ?_
    show Steps p.tables e below (T38.setTop (mkF m 83 #[.val (.int p1), .val (.int p2), .val (.int (own_n p1)), .val (.ref b1), .val (.ref b7), .val (.int (1 : Int32)), .val (.int (own_step (own_n p1) (0 : Int32) (p2 &&& (3 : Int32))))] [(.int (0 : Int32)), (.int (f_has (own_step (own_n p1) (0 : Int32) (p2 &&& (3 : Int32))) (own_n p1)))])) _
    refine XS.icmpNo X38.here hx rfl (hb hby at_83) rfl (teq hc3).2 ?_
    show Steps p.tables e below (T38.setTop (mkF m 86 #[.val (.int p1), .val (.int p2), .val (.int (own_n p1)), .val (.ref b1), .val (.ref b7), .val (.int (1 : Int32)), .val (.int (own_step (own_n p1) (0 : Int32) (p2 &&& (3 : Int32))))] [])) _
    refine XS.iconst X38.here hx rfl (hb hby at_86) ?_
    show Steps p.tables e below (T38.setTop (mkF m 87 #[.val (.int p1), .val (.int p2), .val (.int (own_n p1)), .val (.ref b1), .val (.ref b7), .val (.int (1 : Int32)), .val (.int (own_step (own_n p1) (0 : Int32) (p2 &&& (3 : Int32))))] [(.int (1 : Int32))])) _
    refine XS.goto X38.here hx rfl (pc0 := 87) (pc' := 91) rfl (hb hby at_87) (by decide) (by decide) ?_
    show Steps p.tables e below (T38.setTop (mkF m 91 #[.val (.int p1), .val (.int p2), .val (.int (own_n p1)), .val (.ref b1), .val (.ref b7), .val (.int (1 : Int32)), .val (.int (own_step (own_n p1) (0 : Int32) (p2 &&& (3 : Int32))))] [(.int (1 : Int32))])) _
    refine XS.istore X38.here hx rfl (hb hby at_91) rfl (l' := #[.val (.int p1), .val (.int p2), .val (.int (own_n p1)), .val (.ref b1), .val (.ref b7), .val (.int (1 : Int32)), .val (.int (own_step (own_n p1) (0 : Int32) (p2 &&& (3 : Int32))))]) rfl ?_
    show Steps p.tables e below (T38.setTop (mkF m 93 #[.val (.int p1), .val (.int p2), .val (.int (own_n p1)), .val (.ref b1), .val (.ref b7), .val (.int (1 : Int32)), .val (.int (own_step (own_n p1) (0 : Int32) (p2 &&& (3 : Int32))))] [])) _
    refine XS.aload X38.here hx rfl (hb hby at_93) rfl rfl ?_
    refine XS.iloadN X38.here hx rfl (hb hby at_95) rfl ?_
    refine XS.iload X38.here hx rfl (hb hby at_96) rfl ?_
    refine XS.iloadN X38.here hx rfl (hb hby at_98) rfl ?_
    refine XS.iconst X38.here hx rfl (hb hby at_99) ?_
    show Steps p.tables e below (T38.setTop (mkF m 100 #[.val (.int p1), .val (.int p2), .val (.int (own_n p1)), .val (.ref b1), .val (.ref b7), .val (.int (1 : Int32)), .val (.int (own_step (own_n p1) (0 : Int32) (p2 &&& (3 : Int32))))] [(.int (2 : Int32)), (.int p2), (.int (own_step (own_n p1) (0 : Int32) (p2 &&& (3 : Int32)))), (.int (own_n p1)), (.ref b7)])) _
    refine XS.iushr X38.here hx rfl (hb hby at_100) rfl ?_
    show Steps p.tables e below (T38.setTop (mkF m 101 #[.val (.int p1), .val (.int p2), .val (.int (own_n p1)), .val (.ref b1), .val (.ref b7), .val (.int (1 : Int32)), .val (.int (own_step (own_n p1) (0 : Int32) (p2 &&& (3 : Int32))))] [(.int ((p2.toUInt32 >>> ((2 : Int32) &&& 31).toUInt32).toInt32)), (.int (own_step (own_n p1) (0 : Int32) (p2 &&& (3 : Int32)))), (.int (own_n p1)), (.ref b7)])) _
    refine XS.iconst X38.here hx rfl (hb hby at_101) ?_
    show Steps p.tables e below (T38.setTop (mkF m 102 #[.val (.int p1), .val (.int p2), .val (.int (own_n p1)), .val (.ref b1), .val (.ref b7), .val (.int (1 : Int32)), .val (.int (own_step (own_n p1) (0 : Int32) (p2 &&& (3 : Int32))))] [(.int (3 : Int32)), (.int ((p2.toUInt32 >>> ((2 : Int32) &&& 31).toUInt32).toInt32)), (.int (own_step (own_n p1) (0 : Int32) (p2 &&& (3 : Int32)))), (.int (own_n p1)), (.ref b7)])) _
    refine XS.iand X38.here hx rfl (hb hby at_102) rfl ?_
    show Steps p.tables e below (T38.setTop (mkF m 103 #[.val (.int p1), .val (.int p2), .val (.int (own_n p1)), .val (.ref b1), .val (.ref b7), .val (.int (1 : Int32)), .val (.int (own_step (own_n p1) (0 : Int32) (p2 &&& (3 : Int32))))] [(.int (((p2.toUInt32 >>> ((2 : Int32) &&& 31).toUInt32).toInt32) &&& (3 : Int32))), (.int (own_step (own_n p1) (0 : Int32) (p2 &&& (3 : Int32)))), (.int (own_n p1)), (.ref b7)])) _
    refine st40.trans ?_
    show Steps p.tables e below (T40.setTop (mkF m 106 #[.val (.int p1), .val (.int p2), .val (.int (own_n p1)), .val (.ref b1), .val (.ref b7), .val (.int (1 : Int32)), .val (.int (own_step (own_n p1) (0 : Int32) (p2 &&& (3 : Int32))))] [(.int (own_step (own_n p1) (own_step (own_n p1) (0 : Int32) (p2 &&& (3 : Int32))) (((p2.toUInt32 >>> ((2 : Int32) &&& 31).toUInt32).toInt32) &&& (3 : Int32))))])) _
    refine XS.istore X40.here hx rfl (hb hby at_106) rfl (l' := #[.val (.int p1), .val (.int p2), .val (.int (own_n p1)), .val (.ref b1), .val (.ref b7), .val (.int (1 : Int32)), .val (.int (own_step (own_n p1) (own_step (own_n p1) (0 : Int32) (p2 &&& (3 : Int32))) (((p2.toUInt32 >>> ((2 : Int32) &&& 31).toUInt32).toInt32) &&& (3 : Int32))))]) rfl ?_
    show Steps p.tables e below (T40.setTop (mkF m 108 #[.val (.int p1), .val (.int p2), .val (.int (own_n p1)), .val (.ref b1), .val (.ref b7), .val (.int (1 : Int32)), .val (.int (own_step (own_n p1) (own_step (own_n p1) (0 : Int32) (p2 &&& (3 : Int32))) (((p2.toUInt32 >>> ((2 : Int32) &&& 31).toUInt32).toInt32) &&& (3 : Int32))))] [])) _
    refine XS.iload X40.here hx rfl (hb hby at_108) rfl ?_
    show Steps p.tables e below (T40.setTop (mkF m 110 #[.val (.int p1), .val (.int p2), .val (.int (own_n p1)), .val (.ref b1), .val (.ref b7), .val (.int (1 : Int32)), .val (.int (own_step (own_n p1) (own_step (own_n p1) (0 : Int32) (p2 &&& (3 : Int32))) (((p2.toUInt32 >>> ((2 : Int32) &&& 31).toUInt32).toInt32) &&& (3 : Int32))))] [(.int (1 : Int32))])) _
    refine XS.ifNo X40.here hx rfl (hb hby at_110) rfl ((if0 _ _).trans (feq (by decide : ¬ ((1 : Int32) = (0 : Int32)))).1) ?_
    show Steps p.tables e below (T40.setTop (mkF m 113 #[.val (.int p1), .val (.int p2), .val (.int (own_n p1)), .val (.ref b1), .val (.ref b7), .val (.int (1 : Int32)), .val (.int (own_step (own_n p1) (own_step (own_n p1) (0 : Int32) (p2 &&& (3 : Int32))) (((p2.toUInt32 >>> ((2 : Int32) &&& 31).toUInt32).toInt32) &&& (3 : Int32))))] [])) _
    refine XS.aload X40.here hx rfl (hb hby at_113) rfl rfl ?_
    show Steps p.tables e below (T40.setTop (mkF m 115 #[.val (.int p1), .val (.int p2), .val (.int (own_n p1)), .val (.ref b1), .val (.ref b7), .val (.int (1 : Int32)), .val (.int (own_step (own_n p1) (own_step (own_n p1) (0 : Int32) (p2 &&& (3 : Int32))) (((p2.toUInt32 >>> ((2 : Int32) &&& 31).toUInt32).toInt32) &&& (3 : Int32))))] [(.ref b7)])) _
    refine st50.trans ?_
    show Steps p.tables e below (T50.setTop (mkF m 118 #[.val (.int p1), .val (.int p2), .val (.int (own_n p1)), .val (.ref b1), .val (.ref b7), .val (.int (1 : Int32)), .val (.int (own_step (own_n p1) (own_step (own_n p1) (0 : Int32) (p2 &&& (3 : Int32))) (((p2.toUInt32 >>> ((2 : Int32) &&& 31).toUInt32).toInt32) &&& (3 : Int32))))] [(.int (f_has (own_step (own_n p1) (own_step (own_n p1) (0 : Int32) (p2 &&& (3 : Int32))) (((p2.toUInt32 >>> ((2 : Int32) &&& 31).toUInt32).toInt32) &&& (3 : Int32))) (own_n p1)))])) _
    refine XS.iload X50.here hx rfl (hb hby at_118) rfl ?_
    refine XS.iloadN X50.here hx rfl (hb hby at_120) rfl ?_
    show Steps p.tables e below (T50.setTop (mkF m 121 #[.val (.int p1), .val (.int p2), .val (.int (own_n p1)), .val (.ref b1), .val (.ref b7), .val (.int (1 : Int32)), .val (.int (own_step (own_n p1) (own_step (own_n p1) (0 : Int32) (p2 &&& (3 : Int32))) (((p2.toUInt32 >>> ((2 : Int32) &&& 31).toUInt32).toInt32) &&& (3 : Int32))))] [(.int (own_n p1)), (.int (own_step (own_n p1) (own_step (own_n p1) (0 : Int32) (p2 &&& (3 : Int32))) (((p2.toUInt32 >>> ((2 : Int32) &&& 31).toUInt32).toInt32) &&& (3 : Int32)))), (.int (f_has (own_step (own_n p1) (own_step (own_n p1) (0 : Int32) (p2 &&& (3 : Int32))) (((p2.toUInt32 >>> ((2 : Int32) &&& 31).toUInt32).toInt32) &&& (3 : Int32))) (own_n p1)))])) _
    refine XS.icmpYes X50.here hx rfl (pc0 := 121) (pc' := 128) rfl (hb hby at_121) rfl (flt hc4).2.1 (by decide) (by decide) ?_
    show Steps p.tables e below (T50.setTop (mkF m 128 #[.val (.int p1), .val (.int p2), .val (.int (own_n p1)), .val (.ref b1), .val (.ref b7), .val (.int (1 : Int32)), .val (.int (own_step (own_n p1) (own_step (own_n p1) (0 : Int32) (p2 &&& (3 : Int32))) (((p2.toUInt32 >>> ((2 : Int32) &&& 31).toUInt32).toInt32) &&& (3 : Int32))))] [(.int (f_has (own_step (own_n p1) (own_step (own_n p1) (0 : Int32) (p2 &&& (3 : Int32))) (((p2.toUInt32 >>> ((2 : Int32) &&& 31).toUInt32).toInt32) &&& (3 : Int32))) (own_n p1)))])) _
    refine XS.iconst X50.here hx rfl (hb hby at_128) ?_
    show Steps p.tables e below (T50.setTop (mkF m 129 #[.val (.int p1), .val (.int p2), .val (.int (own_n p1)), .val (.ref b1), .val (.ref b7), .val (.int (1 : Int32)), .val (.int (own_step (own_n p1) (own_step (own_n p1) (0 : Int32) (p2 &&& (3 : Int32))) (((p2.toUInt32 >>> ((2 : Int32) &&& 31).toUInt32).toInt32) &&& (3 : Int32))))] [(.int (0 : Int32)), (.int (f_has (own_step (own_n p1) (own_step (own_n p1) (0 : Int32) (p2 &&& (3 : Int32))) (((p2.toUInt32 >>> ((2 : Int32) &&& 31).toUInt32).toInt32) &&& (3 : Int32))) (own_n p1)))])) _
    refine XS.icmpNo X50.here hx rfl (hb hby at_129) rfl (teq hc5).2 ?_
    show Steps p.tables e below (T50.setTop (mkF m 132 #[.val (.int p1), .val (.int p2), .val (.int (own_n p1)), .val (.ref b1), .val (.ref b7), .val (.int (1 : Int32)), .val (.int (own_step (own_n p1) (own_step (own_n p1) (0 : Int32) (p2 &&& (3 : Int32))) (((p2.toUInt32 >>> ((2 : Int32) &&& 31).toUInt32).toInt32) &&& (3 : Int32))))] [])) _
    refine XS.iconst X50.here hx rfl (hb hby at_132) ?_
    show Steps p.tables e below (T50.setTop (mkF m 133 #[.val (.int p1), .val (.int p2), .val (.int (own_n p1)), .val (.ref b1), .val (.ref b7), .val (.int (1 : Int32)), .val (.int (own_step (own_n p1) (own_step (own_n p1) (0 : Int32) (p2 &&& (3 : Int32))) (((p2.toUInt32 >>> ((2 : Int32) &&& 31).toUInt32).toInt32) &&& (3 : Int32))))] [(.int (1 : Int32))])) _
    refine XS.goto X50.here hx rfl (pc0 := 133) (pc' := 137) rfl (hb hby at_133) (by decide) (by decide) ?_
    show Steps p.tables e below (T50.setTop (mkF m 137 #[.val (.int p1), .val (.int p2), .val (.int (own_n p1)), .val (.ref b1), .val (.ref b7), .val (.int (1 : Int32)), .val (.int (own_step (own_n p1) (own_step (own_n p1) (0 : Int32) (p2 &&& (3 : Int32))) (((p2.toUInt32 >>> ((2 : Int32) &&& 31).toUInt32).toInt32) &&& (3 : Int32))))] [(.int (1 : Int32))])) _
    refine XS.istore X50.here hx rfl (hb hby at_137) rfl (l' := #[.val (.int p1), .val (.int p2), .val (.int (own_n p1)), .val (.ref b1), .val (.ref b7), .val (.int (1 : Int32)), .val (.int (own_step (own_n p1) (own_step (own_n p1) (0 : Int32) (p2 &&& (3 : Int32))) (((p2.toUInt32 >>> ((2 : Int32) &&& 31).toUInt32).toInt32) &&& (3 : Int32))))]) rfl ?_
    show Steps p.tables e below (T50.setTop (mkF m 139 #[.val (.int p1), .val (.int p2), .val (.int (own_n p1)), .val (.ref b1), .val (.ref b7), .val (.int (1 : Int32)), .val (.int (own_step (own_n p1) (own_step (own_n p1) (0 : Int32) (p2 &&& (3 : Int32))) (((p2.toUInt32 >>> ((2 : Int32) &&& 31).toUInt32).toInt32) &&& (3 : Int32))))] [])) _
    refine XS.aload X50.here hx rfl (hb hby at_139) rfl rfl ?_
    refine XS.iloadN X50.here hx rfl (hb hby at_141) rfl ?_
    refine XS.iload X50.here hx rfl (hb hby at_142) rfl ?_
    refine XS.iloadN X50.here hx rfl (hb hby at_144) rfl ?_
    refine XS.iconst X50.here hx rfl (hb hby at_145) ?_
    show Steps p.tables e below (T50.setTop (mkF m 146 #[.val (.int p1), .val (.int p2), .val (.int (own_n p1)), .val (.ref b1), .val (.ref b7), .val (.int (1 : Int32)), .val (.int (own_step (own_n p1) (own_step (own_n p1) (0 : Int32) (p2 &&& (3 : Int32))) (((p2.toUInt32 >>> ((2 : Int32) &&& 31).toUInt32).toInt32) &&& (3 : Int32))))] [(.int (4 : Int32)), (.int p2), (.int (own_step (own_n p1) (own_step (own_n p1) (0 : Int32) (p2 &&& (3 : Int32))) (((p2.toUInt32 >>> ((2 : Int32) &&& 31).toUInt32).toInt32) &&& (3 : Int32)))), (.int (own_n p1)), (.ref b7)])) _
    refine XS.iushr X50.here hx rfl (hb hby at_146) rfl ?_
    show Steps p.tables e below (T50.setTop (mkF m 147 #[.val (.int p1), .val (.int p2), .val (.int (own_n p1)), .val (.ref b1), .val (.ref b7), .val (.int (1 : Int32)), .val (.int (own_step (own_n p1) (own_step (own_n p1) (0 : Int32) (p2 &&& (3 : Int32))) (((p2.toUInt32 >>> ((2 : Int32) &&& 31).toUInt32).toInt32) &&& (3 : Int32))))] [(.int ((p2.toUInt32 >>> ((4 : Int32) &&& 31).toUInt32).toInt32)), (.int (own_step (own_n p1) (own_step (own_n p1) (0 : Int32) (p2 &&& (3 : Int32))) (((p2.toUInt32 >>> ((2 : Int32) &&& 31).toUInt32).toInt32) &&& (3 : Int32)))), (.int (own_n p1)), (.ref b7)])) _
    refine XS.iconst X50.here hx rfl (hb hby at_147) ?_
    show Steps p.tables e below (T50.setTop (mkF m 148 #[.val (.int p1), .val (.int p2), .val (.int (own_n p1)), .val (.ref b1), .val (.ref b7), .val (.int (1 : Int32)), .val (.int (own_step (own_n p1) (own_step (own_n p1) (0 : Int32) (p2 &&& (3 : Int32))) (((p2.toUInt32 >>> ((2 : Int32) &&& 31).toUInt32).toInt32) &&& (3 : Int32))))] [(.int (3 : Int32)), (.int ((p2.toUInt32 >>> ((4 : Int32) &&& 31).toUInt32).toInt32)), (.int (own_step (own_n p1) (own_step (own_n p1) (0 : Int32) (p2 &&& (3 : Int32))) (((p2.toUInt32 >>> ((2 : Int32) &&& 31).toUInt32).toInt32) &&& (3 : Int32)))), (.int (own_n p1)), (.ref b7)])) _
    refine XS.iand X50.here hx rfl (hb hby at_148) rfl ?_
    show Steps p.tables e below (T50.setTop (mkF m 149 #[.val (.int p1), .val (.int p2), .val (.int (own_n p1)), .val (.ref b1), .val (.ref b7), .val (.int (1 : Int32)), .val (.int (own_step (own_n p1) (own_step (own_n p1) (0 : Int32) (p2 &&& (3 : Int32))) (((p2.toUInt32 >>> ((2 : Int32) &&& 31).toUInt32).toInt32) &&& (3 : Int32))))] [(.int (((p2.toUInt32 >>> ((4 : Int32) &&& 31).toUInt32).toInt32) &&& (3 : Int32))), (.int (own_step (own_n p1) (own_step (own_n p1) (0 : Int32) (p2 &&& (3 : Int32))) (((p2.toUInt32 >>> ((2 : Int32) &&& 31).toUInt32).toInt32) &&& (3 : Int32)))), (.int (own_n p1)), (.ref b7)])) _
    refine st52.trans ?_
    show Steps p.tables e below (T52.setTop (mkF m 152 #[.val (.int p1), .val (.int p2), .val (.int (own_n p1)), .val (.ref b1), .val (.ref b7), .val (.int (1 : Int32)), .val (.int (own_step (own_n p1) (own_step (own_n p1) (0 : Int32) (p2 &&& (3 : Int32))) (((p2.toUInt32 >>> ((2 : Int32) &&& 31).toUInt32).toInt32) &&& (3 : Int32))))] [(.int (own_step (own_n p1) (own_step (own_n p1) (own_step (own_n p1) (0 : Int32) (p2 &&& (3 : Int32))) (((p2.toUInt32 >>> ((2 : Int32) &&& 31).toUInt32).toInt32) &&& (3 : Int32))) (((p2.toUInt32 >>> ((4 : Int32) &&& 31).toUInt32).toInt32) &&& (3 : Int32))))])) _
    refine XS.istore X52.here hx rfl (hb hby at_152) rfl (l' := #[.val (.int p1), .val (.int p2), .val (.int (own_n p1)), .val (.ref b1), .val (.ref b7), .val (.int (1 : Int32)), .val (.int (own_step (own_n p1) (own_step (own_n p1) (own_step (own_n p1) (0 : Int32) (p2 &&& (3 : Int32))) (((p2.toUInt32 >>> ((2 : Int32) &&& 31).toUInt32).toInt32) &&& (3 : Int32))) (((p2.toUInt32 >>> ((4 : Int32) &&& 31).toUInt32).toInt32) &&& (3 : Int32))))]) rfl ?_
    show Steps p.tables e below (T52.setTop (mkF m 154 #[.val (.int p1), .val (.int p2), .val (.int (own_n p1)), .val (.ref b1), .val (.ref b7), .val (.int (1 : Int32)), .val (.int (own_step (own_n p1) (own_step (own_n p1) (own_step (own_n p1) (0 : Int32) (p2 &&& (3 : Int32))) (((p2.toUInt32 >>> ((2 : Int32) &&& 31).toUInt32).toInt32) &&& (3 : Int32))) (((p2.toUInt32 >>> ((4 : Int32) &&& 31).toUInt32).toInt32) &&& (3 : Int32))))] [])) _
    refine XS.iload X52.here hx rfl (hb hby at_154) rfl ?_
    show Steps p.tables e below (T52.setTop (mkF m 156 #[.val (.int p1), .val (.int p2), .val (.int (own_n p1)), .val (.ref b1), .val (.ref b7), .val (.int (1 : Int32)), .val (.int (own_step (own_n p1) (own_step (own_n p1) (own_step (own_n p1) (0 : Int32) (p2 &&& (3 : Int32))) (((p2.toUInt32 >>> ((2 : Int32) &&& 31).toUInt32).toInt32) &&& (3 : Int32))) (((p2.toUInt32 >>> ((4 : Int32) &&& 31).toUInt32).toInt32) &&& (3 : Int32))))] [(.int (1 : Int32))])) _
    refine XS.ifNo X52.here hx rfl (hb hby at_156) rfl ((if0 _ _).trans (feq (by decide : ¬ ((1 : Int32) = (0 : Int32)))).1) ?_
    show Steps p.tables e below (T52.setTop (mkF m 159 #[.val (.int p1), .val (.int p2), .val (.int (own_n p1)), .val (.ref b1), .val (.ref b7), .val (.int (1 : Int32)), .val (.int (own_step (own_n p1) (own_step (own_n p1) (own_step (own_n p1) (0 : Int32) (p2 &&& (3 : Int32))) (((p2.toUInt32 >>> ((2 : Int32) &&& 31).toUInt32).toInt32) &&& (3 : Int32))) (((p2.toUInt32 >>> ((4 : Int32) &&& 31).toUInt32).toInt32) &&& (3 : Int32))))] [])) _
    refine XS.aload X52.here hx rfl (hb hby at_159) rfl rfl ?_
    show Steps p.tables e below (T52.setTop (mkF m 161 #[.val (.int p1), .val (.int p2), .val (.int (own_n p1)), .val (.ref b1), .val (.ref b7), .val (.int (1 : Int32)), .val (.int (own_step (own_n p1) (own_step (own_n p1) (own_step (own_n p1) (0 : Int32) (p2 &&& (3 : Int32))) (((p2.toUInt32 >>> ((2 : Int32) &&& 31).toUInt32).toInt32) &&& (3 : Int32))) (((p2.toUInt32 >>> ((4 : Int32) &&& 31).toUInt32).toInt32) &&& (3 : Int32))))] [(.ref b7)])) _
    refine st62.trans ?_
    show Steps p.tables e below (T62.setTop (mkF m 164 #[.val (.int p1), .val (.int p2), .val (.int (own_n p1)), .val (.ref b1), .val (.ref b7), .val (.int (1 : Int32)), .val (.int (own_step (own_n p1) (own_step (own_n p1) (own_step (own_n p1) (0 : Int32) (p2 &&& (3 : Int32))) (((p2.toUInt32 >>> ((2 : Int32) &&& 31).toUInt32).toInt32) &&& (3 : Int32))) (((p2.toUInt32 >>> ((4 : Int32) &&& 31).toUInt32).toInt32) &&& (3 : Int32))))] [(.int (f_has (own_step (own_n p1) (own_step (own_n p1) (own_step (own_n p1) (0 : Int32) (p2 &&& (3 : Int32))) (((p2.toUInt32 >>> ((2 : Int32) &&& 31).toUInt32).toInt32) &&& (3 : Int32))) (((p2.toUInt32 >>> ((4 : Int32) &&& 31).toUInt32).toInt32) &&& (3 : Int32))) (own_n p1)))])) _
    refine XS.iload X62.here hx rfl (hb hby at_164) rfl ?_
    refine XS.iloadN X62.here hx rfl (hb hby at_166) rfl ?_
    show Steps p.tables e below (T62.setTop (mkF m 167 #[.val (.int p1), .val (.int p2), .val (.int (own_n p1)), .val (.ref b1), .val (.ref b7), .val (.int (1 : Int32)), .val (.int (own_step (own_n p1) (own_step (own_n p1) (own_step (own_n p1) (0 : Int32) (p2 &&& (3 : Int32))) (((p2.toUInt32 >>> ((2 : Int32) &&& 31).toUInt32).toInt32) &&& (3 : Int32))) (((p2.toUInt32 >>> ((4 : Int32) &&& 31).toUInt32).toInt32) &&& (3 : Int32))))] [(.int (own_n p1)), (.int (own_step (own_n p1) (own_step (own_n p1) (own_step (own_n p1) (0 : Int32) (p2 &&& (3 : Int32))) (((p2.toUInt32 >>> ((2 : Int32) &&& 31).toUInt32).toInt32) &&& (3 : Int32))) (((p2.toUInt32 >>> ((4 : Int32) &&& 31).toUInt32).toInt32) &&& (3 : Int32)))), (.int (f_has (own_step (own_n p1) (own_step (own_n p1) (own_step (own_n p1) (0 : Int32) (p2 &&& (3 : Int32))) (((p2.toUInt32 >>> ((2 : Int32) &&& 31).toUInt32).toInt32) &&& (3 : Int32))) (((p2.toUInt32 >>> ((4 : Int32) &&& 31).toUInt32).toInt32) &&& (3 : Int32))) (own_n p1)))])) _
    refine XS.icmpYes X62.here hx rfl (pc0 := 167) (pc' := 174) rfl (hb hby at_167) rfl (flt hc6).2.1 (by decide) (by decide) ?_
    show Steps p.tables e below (T62.setTop (mkF m 174 #[.val (.int p1), .val (.int p2), .val (.int (own_n p1)), .val (.ref b1), .val (.ref b7), .val (.int (1 : Int32)), .val (.int (own_step (own_n p1) (own_step (own_n p1) (own_step (own_n p1) (0 : Int32) (p2 &&& (3 : Int32))) (((p2.toUInt32 >>> ((2 : Int32) &&& 31).toUInt32).toInt32) &&& (3 : Int32))) (((p2.toUInt32 >>> ((4 : Int32) &&& 31).toUInt32).toInt32) &&& (3 : Int32))))] [(.int (f_has (own_step (own_n p1) (own_step (own_n p1) (own_step (own_n p1) (0 : Int32) (p2 &&& (3 : Int32))) (((p2.toUInt32 >>> ((2 : Int32) &&& 31).toUInt32).toInt32) &&& (3 : Int32))) (((p2.toUInt32 >>> ((4 : Int32) &&& 31).toUInt32).toInt32) &&& (3 : Int32))) (own_n p1)))])) _
    refine XS.iconst X62.here hx rfl (hb hby at_174) ?_
    show Steps p.tables e below (T62.setTop (mkF m 175 #[.val (.int p1), .val (.int p2), .val (.int (own_n p1)), .val (.ref b1), .val (.ref b7), .val (.int (1 : Int32)), .val (.int (own_step (own_n p1) (own_step (own_n p1) (own_step (own_n p1) (0 : Int32) (p2 &&& (3 : Int32))) (((p2.toUInt32 >>> ((2 : Int32) &&& 31).toUInt32).toInt32) &&& (3 : Int32))) (((p2.toUInt32 >>> ((4 : Int32) &&& 31).toUInt32).toInt32) &&& (3 : Int32))))] [(.int (0 : Int32)), (.int (f_has (own_step (own_n p1) (own_step (own_n p1) (own_step (own_n p1) (0 : Int32) (p2 &&& (3 : Int32))) (((p2.toUInt32 >>> ((2 : Int32) &&& 31).toUInt32).toInt32) &&& (3 : Int32))) (((p2.toUInt32 >>> ((4 : Int32) &&& 31).toUInt32).toInt32) &&& (3 : Int32))) (own_n p1)))])) _
    refine XS.icmpNo X62.here hx rfl (hb hby at_175) rfl (teq hc7).2 ?_
    show Steps p.tables e below (T62.setTop (mkF m 178 #[.val (.int p1), .val (.int p2), .val (.int (own_n p1)), .val (.ref b1), .val (.ref b7), .val (.int (1 : Int32)), .val (.int (own_step (own_n p1) (own_step (own_n p1) (own_step (own_n p1) (0 : Int32) (p2 &&& (3 : Int32))) (((p2.toUInt32 >>> ((2 : Int32) &&& 31).toUInt32).toInt32) &&& (3 : Int32))) (((p2.toUInt32 >>> ((4 : Int32) &&& 31).toUInt32).toInt32) &&& (3 : Int32))))] [])) _
    refine XS.iconst X62.here hx rfl (hb hby at_178) ?_
    show Steps p.tables e below (T62.setTop (mkF m 179 #[.val (.int p1), .val (.int p2), .val (.int (own_n p1)), .val (.ref b1), .val (.ref b7), .val (.int (1 : Int32)), .val (.int (own_step (own_n p1) (own_step (own_n p1) (own_step (own_n p1) (0 : Int32) (p2 &&& (3 : Int32))) (((p2.toUInt32 >>> ((2 : Int32) &&& 31).toUInt32).toInt32) &&& (3 : Int32))) (((p2.toUInt32 >>> ((4 : Int32) &&& 31).toUInt32).toInt32) &&& (3 : Int32))))] [(.int (1 : Int32))])) _
    refine XS.goto X62.here hx rfl (pc0 := 179) (pc' := 183) rfl (hb hby at_179) (by decide) (by decide) ?_
    show Steps p.tables e below (T62.setTop (mkF m 183 #[.val (.int p1), .val (.int p2), .val (.int (own_n p1)), .val (.ref b1), .val (.ref b7), .val (.int (1 : Int32)), .val (.int (own_step (own_n p1) (own_step (own_n p1) (own_step (own_n p1) (0 : Int32) (p2 &&& (3 : Int32))) (((p2.toUInt32 >>> ((2 : Int32) &&& 31).toUInt32).toInt32) &&& (3 : Int32))) (((p2.toUInt32 >>> ((4 : Int32) &&& 31).toUInt32).toInt32) &&& (3 : Int32))))] [(.int (1 : Int32))])) _
    refine XS.istore X62.here hx rfl (hb hby at_183) rfl (l' := #[.val (.int p1), .val (.int p2), .val (.int (own_n p1)), .val (.ref b1), .val (.ref b7), .val (.int (1 : Int32)), .val (.int (own_step (own_n p1) (own_step (own_n p1) (own_step (own_n p1) (0 : Int32) (p2 &&& (3 : Int32))) (((p2.toUInt32 >>> ((2 : Int32) &&& 31).toUInt32).toInt32) &&& (3 : Int32))) (((p2.toUInt32 >>> ((4 : Int32) &&& 31).toUInt32).toInt32) &&& (3 : Int32))))]) rfl ?_
    show Steps p.tables e below (T62.setTop (mkF m 185 #[.val (.int p1), .val (.int p2), .val (.int (own_n p1)), .val (.ref b1), .val (.ref b7), .val (.int (1 : Int32)), .val (.int (own_step (own_n p1) (own_step (own_n p1) (own_step (own_n p1) (0 : Int32) (p2 &&& (3 : Int32))) (((p2.toUInt32 >>> ((2 : Int32) &&& 31).toUInt32).toInt32) &&& (3 : Int32))) (((p2.toUInt32 >>> ((4 : Int32) &&& 31).toUInt32).toInt32) &&& (3 : Int32))))] [])) _
    refine XS.iload X62.here hx rfl (hb hby at_185) rfl ?_
    show Steps p.tables e below (T62.setTop (mkF m 187 #[.val (.int p1), .val (.int p2), .val (.int (own_n p1)), .val (.ref b1), .val (.ref b7), .val (.int (1 : Int32)), .val (.int (own_step (own_n p1) (own_step (own_n p1) (own_step (own_n p1) (0 : Int32) (p2 &&& (3 : Int32))) (((p2.toUInt32 >>> ((2 : Int32) &&& 31).toUInt32).toInt32) &&& (3 : Int32))) (((p2.toUInt32 >>> ((4 : Int32) &&& 31).toUInt32).toInt32) &&& (3 : Int32))))] [(.int (1 : Int32))])) _
    exact retN X62 hx (t := .boolean) Bd.returns (by simp) (hb hby at_187) hr
  · show Q_law Z p1 p2 s_F s_C h0 n0 _ T62.heap _
    rw [e62]
    exact ⟨rfl, N63⟩
  · show CHr Z consts_1 s.vm s.heap T62.vm T62.heap
    rw [hh, e62]
    exact CR.trans (CHv.at X62 hZ hEW CR.1)
def Road_r1 (Z : State) (h0 : Heap) (p1 : Int32) (p2 : Int32) (s_F : Value) (s_C : Addr) : Prop := (Sta Z h0 "jdk/internal/util/Preconditions" "SIOOBE_FORMATTER" "Ljava/util/function/BiFunction;" s_F) ∧ (s_F.isRef = true) ∧ (Sta Z h0 "java/nio/charset/StandardCharsets" "ISO_8859_1" "Ljava/nio/charset/Charset;" (.ref s_C)) ∧ (Exa Z h0 s_C "sun/nio/cs/ISO_8859_1") ∧ (¬ ((own_n p1) < (0 : Int32))) ∧ ((own_n p1).toNatClampNeg ≤ 16) ∧ ((0 : Int32).toInt ≤ (own_n p1).toInt) ∧ ((own_n p1).toInt ≤ 16) ∧ ((p2 &&& (3 : Int32)) = (0 : Int32) ∨ (p2 &&& (3 : Int32)) = (1 : Int32) ∨ (p2 &&& (3 : Int32)) = (2 : Int32) ∨ (p2 &&& (3 : Int32)) = (3 : Int32)) ∧ (0 ≤ (own_step (own_n p1) (0 : Int32) (p2 &&& (3 : Int32))).toInt) ∧ ((own_step (own_n p1) (0 : Int32) (p2 &&& (3 : Int32))).toInt ≤ (own_n p1).toInt) ∧ ((((p2.toUInt32 >>> ((2 : Int32) &&& 31).toUInt32).toInt32) &&& (3 : Int32)) = (0 : Int32) ∨ (((p2.toUInt32 >>> ((2 : Int32) &&& 31).toUInt32).toInt32) &&& (3 : Int32)) = (1 : Int32) ∨ (((p2.toUInt32 >>> ((2 : Int32) &&& 31).toUInt32).toInt32) &&& (3 : Int32)) = (2 : Int32) ∨ (((p2.toUInt32 >>> ((2 : Int32) &&& 31).toUInt32).toInt32) &&& (3 : Int32)) = (3 : Int32)) ∧ (0 ≤ (own_step (own_n p1) (own_step (own_n p1) (0 : Int32) (p2 &&& (3 : Int32))) (((p2.toUInt32 >>> ((2 : Int32) &&& 31).toUInt32).toInt32) &&& (3 : Int32))).toInt) ∧ ((own_step (own_n p1) (own_step (own_n p1) (0 : Int32) (p2 &&& (3 : Int32))) (((p2.toUInt32 >>> ((2 : Int32) &&& 31).toUInt32).toInt32) &&& (3 : Int32))).toInt ≤ (own_n p1).toInt) ∧ ((((p2.toUInt32 >>> ((4 : Int32) &&& 31).toUInt32).toInt32) &&& (3 : Int32)) = (0 : Int32) ∨ (((p2.toUInt32 >>> ((4 : Int32) &&& 31).toUInt32).toInt32) &&& (3 : Int32)) = (1 : Int32) ∨ (((p2.toUInt32 >>> ((4 : Int32) &&& 31).toUInt32).toInt32) &&& (3 : Int32)) = (2 : Int32) ∨ (((p2.toUInt32 >>> ((4 : Int32) &&& 31).toUInt32).toInt32) &&& (3 : Int32)) = (3 : Int32)) ∧ ((0 : Int32) < (own_n p1)) ∧ ((f_has (0 : Int32) (own_n p1)) = (1 : Int32)) ∧ (¬ ((own_step (own_n p1) (0 : Int32) (p2 &&& (3 : Int32))) < (own_n p1))) ∧ ((f_has (own_step (own_n p1) (0 : Int32) (p2 &&& (3 : Int32))) (own_n p1)) = (0 : Int32)) ∧ (¬ ((own_step (own_n p1) (own_step (own_n p1) (0 : Int32) (p2 &&& (3 : Int32))) (((p2.toUInt32 >>> ((2 : Int32) &&& 31).toUInt32).toInt32) &&& (3 : Int32))) < (own_n p1))) ∧ ((f_has (own_step (own_n p1) (own_step (own_n p1) (0 : Int32) (p2 &&& (3 : Int32))) (((p2.toUInt32 >>> ((2 : Int32) &&& 31).toUInt32).toInt32) &&& (3 : Int32))) (own_n p1)) = (0 : Int32)) ∧ (¬ ((own_step (own_n p1) (own_step (own_n p1) (own_step (own_n p1) (0 : Int32) (p2 &&& (3 : Int32))) (((p2.toUInt32 >>> ((2 : Int32) &&& 31).toUInt32).toInt32) &&& (3 : Int32))) (((p2.toUInt32 >>> ((4 : Int32) &&& 31).toUInt32).toInt32) &&& (3 : Int32))) < (own_n p1))) ∧ ((f_has (own_step (own_n p1) (own_step (own_n p1) (own_step (own_n p1) (0 : Int32) (p2 &&& (3 : Int32))) (((p2.toUInt32 >>> ((2 : Int32) &&& 31).toUInt32).toInt32) &&& (3 : Int32))) (((p2.toUInt32 >>> ((4 : Int32) &&& 31).toUInt32).toInt32) &&& (3 : Int32))) (own_n p1)) = (0 : Int32))
set_option maxRecDepth 65536 in
set_option maxHeartbeats 40000000 in
theorem rm_law_r1 (l : Launch) (Z : State) (a0 : Array Value) (hw : ∀ d ∈ tables_1, d.before a0 Z = true) (ws : List Jvm.Cond) (p1 : Int32) (p2 : Int32) (s_F : Value) (s_C : Addr) (h0 : Heap) (n0 : Nat) (Z0 : n0 ≤ h0.size) (hroad : Road_r1 Z h0 p1 p2 s_F s_C) :
    MetFree l x (head1 (Jvm.Cond.code x code maxLocals ret :: ws) room_1) (fun a U => a = #[(.int p1), (.int p2)] ∧ Z.Warmed39 U.vm ∧ U.heap = h0 ∧ CHv Z consts_1 U.vm h0) (fun _ _ _ _ _ => True) (fun _ U o U' => ∃ v L, o = .returned v ∧ Q_law Z p1 p2 s_F s_C h0 n0 v U'.heap L ∧ CHr Z consts_1 U.vm U.heap U'.vm U'.heap ∧ ReturnedEndW U o U' L room_1.cells room_1.slots) := by
  obtain ⟨S_SIOOBE_FORMATTER, hsr, S_ISO_8859_1, E_s_C, hp1, hp2, hp3, hp4, hp5, hp6, hp7, hp8, hp9, hp10, hp11, hc0, hc1, hc2, hc3, hc4, hc5, hc6, hc7⟩ := hroad
  refine MetFree.of_bodySF (plainFor_of_name pn_com_example_fieldstone_fieldstone_core_KeyReaderHasRemainingPinLaw) hisR ?_
  intro p e s m args below meth c s₁ Bd hml0 hP hK
  obtain ⟨rfl, hZ, hh, CH0⟩ := hP
  have hx := Bd.exec
  have hby := Bd.bytes
  have hml : c.maxLocals = 7 := hml0
  have hown : s.vm.findClass "com/example/fieldstone/fieldstone/core/KeyReaderHasRemainingPinLaw" = some m.cls := findClass_of_methodNamed Bd.named
  have hnm := (name_of_methodNamed Bd.named Bd.method).1
  have X0 : Stand p l e room_1 s m #[(.int p1), (.int p2)] below meth c s₁ [] 0 0 := Stand.of_body Bd
  have e0 : s₁.heap = h0 := by rw [← hh, Bd.state]; rfl
  have N0 := Fr.nil n0
  have hZ : Z.Warmed39 (s.setVm s.vm).vm := hZ
  have hown : (s.setVm s.vm).vm.findClass "com/example/fieldstone/fieldstone/core/KeyReaderHasRemainingPinLaw" = some m.cls := hown
  have hZ0 := hZ
  have hown0 := hown
  have X0 : Stand p l e room_1 (s.setVm s.vm) m #[(.int p1), (.int p2)] below meth c s₁ [] 0 0 := X0
  have hS : s.Since s.vm h0.size := own_since s _
  have hk : h0.size ≤ h0.size := Nat.le_refl _
  have hEW := own_EW hw
  have CR : CHr Z consts_1 s.vm h0 s.vm h0 := CHr.refl CH0
  have pre0 : ∀ t, Steps p.tables e below (s₁.setTop (mkF m 0 #[.val (.int p1), .val (.int p2), .unset, .unset, .unset, .unset, .unset] [])) t → Steps p.tables e below (s₁.setTop (entryFrame m #[(.int p1), (.int p2)] maxLocals)) t := fun t k => castTop (ef_0_II m p1 p2) k
  obtain ⟨T1, h1, k1, X1, e1, E1, A1, Ex1, st1⟩ := newPE X0 hx hZ (hw _ (List.mem_of_getElem? (i := 1) rfl)) e0 (g := (mkF m 9 #[.val (.int p1), .val (.int p2), .val (.int (own_n p1)), .unset, .unset, .unset, .unset] [(.int (own_n p1))])) rfl (hb hby at_9) rfl hp1 (cap := 16) hp2 (by decide) (by decide) (by decide) (ad := "[B") (by decide)
  obtain ⟨b1, g1⟩ : ∃ z, z = h0.size := ⟨_, rfl⟩
  rw [← g1] at A1 Ex1 st1
  have g_b1 : n0 ≤ b1 := Nat.le_trans Z0 (Nat.le_of_eq g1.symm)
  have ne_s_C_b1 : s_C ≠ b1 := Nat.ne_of_lt (Nat.lt_of_lt_of_le E_s_C.lt (Nat.le_of_eq g1.symm))
  have CR := CR.trans (CHr.ext E1 CR.1)
  have f2 : Sta Z h1 "jdk/internal/util/Preconditions" "SIOOBE_FORMATTER" "Ljava/util/function/BiFunction;" s_F := S_SIOOBE_FORMATTER.ext E1
  have f3 : Sta Z h1 "java/nio/charset/StandardCharsets" "ISO_8859_1" "Ljava/nio/charset/Charset;" (.ref s_C) := S_ISO_8859_1.ext E1
  have f4 : Exa Z h1 s_C "sun/nio/cs/ISO_8859_1" := E_s_C.ext E1
  have hk : _ ≤ h1.size := Nat.le_trans hk E1.1
  have Zs5 : n0 ≤ h1.size := Nat.le_trans Z0 E1.1
  have f6 : Arv Z h1 b1 k1 .byte (own_n p1) (List.replicate 16 (Value.int (0 : Int32))) (.int (0 : Int32)) := (Arv.new A1 hp1).pad (pad_rep [] (.int (0 : Int32)) 16)
  obtain ⟨T7, h7, X7, e7, E7, A7, D7, -, st7⟩ := newO X1 hx hZ hown (hw _ (List.mem_of_getElem? (i := 2) rfl)) (hw _ (List.mem_of_getElem? (i := 3) rfl)) (hw _ (List.mem_of_getElem? (i := 4) rfl)) e1 (g := (mkF m 12 #[.val (.int p1), .val (.int p2), .val (.int (own_n p1)), .val (.ref b1), .unset, .unset, .unset] [])) rfl (hb hby at_12) (by decide) (by decide)
  obtain ⟨b7, g7⟩ : ∃ z, z = h1.size := ⟨_, rfl⟩
  rw [← g7] at A7 D7 st7
  have g_b7 : n0 ≤ b7 := Nat.le_trans Zs5 (Nat.le_of_eq g7.symm)
  have ne_s_C_b7 : s_C ≠ b7 := Nat.ne_of_lt (Nat.lt_of_lt_of_le f4.lt (Nat.le_of_eq g7.symm))
  have ne_b1_b7 : b1 ≠ b7 := Nat.ne_of_lt (Nat.lt_of_lt_of_le Ex1.lt (Nat.le_of_eq g7.symm))
  have CR := CR.trans (CHr.ext E7 CR.1)
  have f8 : Sta Z h7 "jdk/internal/util/Preconditions" "SIOOBE_FORMATTER" "Ljava/util/function/BiFunction;" s_F := f2.ext E7
  have f9 : Sta Z h7 "java/nio/charset/StandardCharsets" "ISO_8859_1" "Ljava/nio/charset/Charset;" (.ref s_C) := f3.ext E7
  have f10 : Exa Z h7 s_C "sun/nio/cs/ISO_8859_1" := f4.ext E7
  have f11 : Exa Z h7 b1 "[B" := Ex1.ext E7
  have f12 : Arv Z h7 b1 k1 .byte (own_n p1) (List.replicate 16 (Value.int (0 : Int32))) (.int (0 : Int32)) := f6.ext E7
  have hk : _ ≤ h7.size := Nat.le_trans hk E7.1
  have Zs13 : n0 ≤ h7.size := Nat.le_trans Zs5 E7.1
  have f14 : Fld Z h7 b7 "com/example/fieldstone/fieldstone/core/KeyReader" "key" "[B" .null := D7 (Or.inr (hw _ (List.mem_of_getElem? (i := 25) rfl))) (ty := (.array .byte)) (by decide)
  have f15 : Fld Z h7 b7 "com/example/fieldstone/fieldstone/core/KeyReader" "position" "I" (.int (0 : Int32)) := D7 (Or.inl (hw _ (List.mem_of_getElem? (i := 32) rfl))) (ty := .int) (by decide)
  obtain ⟨_, _, ⟨T16, L16, k16, n16⟩, -, X16, hS16, hg16, ⟨Lc16, hQ16, l16, y16, z16, CR16⟩, st16⟩ := X7.specialBackS hx (y := (⟨"com/example/fieldstone/fieldstone/core/KeyReader", "<init>", "([B)V"⟩ : MethodName)) rfl hown (mvT hZ (hw _ (List.mem_of_getElem? (i := 5) rfl))) (mvT hZ (hw _ (List.mem_of_getElem? (i := 6) rfl))) (mvT hZ (hw _ (List.mem_of_getElem? (i := 7) rfl))) (by decide) (backOfSH (W := 1) (rm_init l Z a0 hw [] b7 b1 h7 n0 Zs13 f11 A7 f14 g_b7 f15) hZ (hw _ (List.mem_of_getElem? (i := 7) rfl)) (hw _ (List.mem_of_getElem? (i := 4) rfl)) (by decide) (by decide) hEW CR.1) (g := (mkF m 17 #[.val (.int p1), .val (.int p2), .val (.int (own_n p1)), .val (.ref b1), .unset, .unset, .unset] [(.ref b1), (.ref b7), (.ref b7)])) rfl (by rw [hml]; rfl) (Steps.refl _) (a := b7) (argsL := [(.ref b1)]) (rest := [(.ref b7)]) (lenOf pd_11 rfl) rfl (by show 2 * 0 + _ ≤ _; exact Nat.le_of_eq rfl) (hb hby at_17) (fun _ _ => ⟨rfl, e7, (by decide : 2 + 2 ≤ _), (by decide : 18 + 16 ≤ _)⟩)
  dsimp only [Pt.U, Pt.locs, Pt.cells, Pt.slots] at X16 l16 y16 z16 st16 hQ16 hS16 hg16 CR16
  subst l16 y16 z16
  rw [e7] at hg16
  obtain ⟨X16, hS, hZ, hown⟩ := rebS hS hk X16 hS16 hg16 hZ hown
  have hZ16 := hZ
  have hown16 := hown
  have hk : _ ≤ T16.heap.size := Nat.le_refl _
  have CR := CR.trans CR16
  obtain ⟨rfl, Nq16, Kc16, fq16_0, fq16_1, fq16_2⟩ := hQ16
  have f18 : Sta Z T16.heap "jdk/internal/util/Preconditions" "SIOOBE_FORMATTER" "Ljava/util/function/BiFunction;" s_F := own_sta_keep f8 Kc16 (allS (own_plain_cell A7) all0)
  have f19 : Sta Z T16.heap "java/nio/charset/StandardCharsets" "ISO_8859_1" "Ljava/nio/charset/Charset;" (.ref s_C) := own_sta_keep f9 Kc16 (allS (own_plain_cell A7) all0)
  have f20 : Exa Z T16.heap s_C "sun/nio/cs/ISO_8859_1" := f10.keep Kc16
  have f21 : Exa Z T16.heap b1 "[B" := f11.keep Kc16
  have f22 : Arv Z T16.heap b1 k1 .byte (own_n p1) (List.replicate 16 (Value.int (0 : Int32))) (.int (0 : Int32)) := f12.keep Kc16 (ninS ne_b1_b7 nin0)
  have f23 : Fld Z T16.heap b7 "com/example/fieldstone/fieldstone/core/KeyReader" "key" "[B" (.ref b1) := fq16_1
  have f24 : Fld Z T16.heap b7 "com/example/fieldstone/fieldstone/core/KeyReader" "position" "I" (.int (0 : Int32)) := fq16_2
  have Zs25 : n0 ≤ T16.heap.size := Nat.le_trans Zs13 Kc16.1
  have N17 := Fr.app N0 Nq16
  obtain ⟨cq26, kq26, q26a, q26b, q26c⟩ := isOf hZ rfl fq16_0
  obtain ⟨_, _, ⟨T26, L26, k26, n26⟩, -, X26, ⟨Lc26, hQ26, l26, y26, z26⟩, st26⟩ := X16.virtualBack hx (y := (⟨"com/example/fieldstone/fieldstone/core/KeyReader", "hasRemaining", "()Z"⟩ : MethodName)) (z := (⟨"com/example/fieldstone/fieldstone/core/KeyReader", "hasRemaining", "()Z"⟩ : MethodName)) hown (mvT hZ (hw _ (List.mem_of_getElem? (i := 26) rfl))) (mvT hZ (hw _ (List.mem_of_getElem? (i := 27) rfl))) (notFace_of_selects (args := #[]) (mvT hZ (hw _ (List.mem_of_getElem? (i := 29) rfl)))) (mvT hZ (hw _ (List.mem_of_getElem? (i := 29) rfl))) (mvT hZ (hw _ (List.mem_of_getElem? (i := 28) rfl))) (by decide) (backOf (W := 0) (rm_has l Z a0 hw [] b7 (0 : Int32) b1 k1 (own_n p1) (List.replicate 16 (Value.int (0 : Int32))) T16.heap n0 Zs25 f24 f23 f22) hZ (hw _ (List.mem_of_getElem? (i := 30) rfl)) (hw _ (List.mem_of_getElem? (i := 4) rfl)) (by decide) (by decide)) q26a q26c (g := (mkF m 24 #[.val (.int p1), .val (.int p2), .val (.int (own_n p1)), .val (.ref b1), .val (.ref b7), .unset, .unset] [(.ref b7)])) rfl (by rw [hml]; rfl) (Steps.refl _) (argsL := []) (rest := []) (lenOf pd_7 rfl) rfl (by show 2 * 0 + _ ≤ _; exact Nat.le_of_eq rfl) (hb hby at_24) (fun _ _ => ⟨rfl, rfl, (by decide : 4 + 0 ≤ _), (by decide : 34 + 0 ≤ _)⟩)
  dsimp only [Pt.U, Pt.locs, Pt.cells, Pt.slots] at X26 l26 y26 z26 st26 hQ26
  subst l26 y26 z26
  obtain ⟨rfl, Nq26, e26⟩ := hQ26
  have N27 := Fr.app N17 Nq26
  obtain ⟨_, _, ⟨T28, L28, k28, n28⟩, -, X28, hS28, hg28, ⟨Lc28, hQ28, l28, y28, z28, CR28⟩, st28⟩ := Jvm.RoadKit.callSS X26 hx (y := (⟨"com/example/fieldstone/fieldstone/core/KeyReaderHasRemainingPinLaw", "step", "(Lcom/example/fieldstone/fieldstone/core/KeyReader;III)I"⟩ : MethodName)) hown (mvT hZ (hw _ (List.mem_of_getElem? (i := 33) rfl))) (mvT hZ (hw _ (List.mem_of_getElem? (i := 34) rfl))) (mvT hZ (hw _ (List.mem_of_getElem? (i := 35) rfl))) (mvT hZ (hw _ (List.mem_of_getElem? (i := 36) rfl))) (by decide) (backOfSH (W := 0) (rm_step l Z a0 hw [] b7 (own_n p1) (0 : Int32) (p2 &&& (3 : Int32)) b1 k1 s_F s_C T16.heap n0 Zs25 f23 f21 f22 f24 fq16_0 g_b7 f18 hsr f19 f20 (by decide) hp3 hp4 hp5) hZ (hw _ (List.mem_of_getElem? (i := 36) rfl)) (hw _ (List.mem_of_getElem? (i := 35) rfl)) (by decide) (by decide) hEW CR.1) (g := (mkF m 57 #[.val (.int p1), .val (.int p2), .val (.int (own_n p1)), .val (.ref b1), .val (.ref b7), .val (.int (1 : Int32)), .val (.int (0 : Int32))] [(.int (p2 &&& (3 : Int32))), (.int (0 : Int32)), (.int (own_n p1)), (.ref b7)])) rfl (by rw [hml]; rfl) (argsL := [(.ref b7), (.int (own_n p1)), (.int (0 : Int32)), (.int (p2 &&& (3 : Int32)))]) (rest := []) (lenOf pd_12 rfl) rfl (by show 2 * 0 + _ ≤ _; exact Nat.le_of_eq rfl) (hb hby at_57) (fun _ _ => ⟨rfl, e26, (by decide : 4 + 5 ≤ _), (by decide : 34 + 12 ≤ _)⟩)
  dsimp only [Pt.U, Pt.locs, Pt.cells, Pt.slots] at X28 l28 y28 z28 st28 hQ28 hS28 hg28 CR28
  subst l28 y28 z28
  rw [e26] at hg28
  obtain ⟨X28, hS, hZ, hown⟩ := rebS hS hk X28 hS28 hg28 hZ hown
  have hZ28 := hZ
  have hown28 := hown
  have hk : _ ≤ T28.heap.size := Nat.le_refl _
  have CR := CR.trans CR28
  obtain ⟨rfl, Nq28, Kc28, fq28_0, fq28_1, fq28_2⟩ := hQ28
  have f30 : Sta Z T28.heap "jdk/internal/util/Preconditions" "SIOOBE_FORMATTER" "Ljava/util/function/BiFunction;" s_F := own_sta_keep f18 Kc28 (allS (own_plain_cell fq16_0) all0)
  have f31 : Sta Z T28.heap "java/nio/charset/StandardCharsets" "ISO_8859_1" "Ljava/nio/charset/Charset;" (.ref s_C) := own_sta_keep f19 Kc28 (allS (own_plain_cell fq16_0) all0)
  have f32 : Exa Z T28.heap s_C "sun/nio/cs/ISO_8859_1" := f20.keep Kc28
  have f33 : Exa Z T28.heap b1 "[B" := f21.keep Kc28
  have f34 : Arv Z T28.heap b1 k1 .byte (own_n p1) (List.replicate 16 (Value.int (0 : Int32))) (.int (0 : Int32)) := f22.keep Kc28 (ninS ne_b1_b7 nin0)
  have f35 : Fld Z T28.heap b7 "com/example/fieldstone/fieldstone/core/KeyReader" "key" "[B" (.ref b1) := fq28_1
  have f36 : Fld Z T28.heap b7 "com/example/fieldstone/fieldstone/core/KeyReader" "position" "I" (.int (own_step (own_n p1) (0 : Int32) (p2 &&& (3 : Int32)))) := fq28_2
  have Zs37 : n0 ≤ T28.heap.size := Nat.le_trans Zs25 Kc28.1
  have N29 := Fr.app N27 Nq28
  obtain ⟨cq38, kq38, q38a, q38b, q38c⟩ := isOf hZ rfl fq28_0
  obtain ⟨_, _, ⟨T38, L38, k38, n38⟩, -, X38, ⟨Lc38, hQ38, l38, y38, z38⟩, st38⟩ := X28.virtualBack hx (y := (⟨"com/example/fieldstone/fieldstone/core/KeyReader", "hasRemaining", "()Z"⟩ : MethodName)) (z := (⟨"com/example/fieldstone/fieldstone/core/KeyReader", "hasRemaining", "()Z"⟩ : MethodName)) hown (mvT hZ (hw _ (List.mem_of_getElem? (i := 26) rfl))) (mvT hZ (hw _ (List.mem_of_getElem? (i := 27) rfl))) (notFace_of_selects (args := #[]) (mvT hZ (hw _ (List.mem_of_getElem? (i := 29) rfl)))) (mvT hZ (hw _ (List.mem_of_getElem? (i := 29) rfl))) (mvT hZ (hw _ (List.mem_of_getElem? (i := 28) rfl))) (by decide) (backOf (W := 0) (rm_has l Z a0 hw [] b7 (own_step (own_n p1) (0 : Int32) (p2 &&& (3 : Int32))) b1 k1 (own_n p1) (List.replicate 16 (Value.int (0 : Int32))) T28.heap n0 Zs37 f36 f35 f34) hZ (hw _ (List.mem_of_getElem? (i := 30) rfl)) (hw _ (List.mem_of_getElem? (i := 4) rfl)) (by decide) (by decide)) q38a q38c (g := (mkF m 69 #[.val (.int p1), .val (.int p2), .val (.int (own_n p1)), .val (.ref b1), .val (.ref b7), .val (.int (1 : Int32)), .val (.int (own_step (own_n p1) (0 : Int32) (p2 &&& (3 : Int32))))] [(.ref b7)])) rfl (by rw [hml]; rfl) (Steps.refl _) (argsL := []) (rest := []) (lenOf pd_7 rfl) rfl (by show 2 * 0 + _ ≤ _; exact Nat.le_of_eq rfl) (hb hby at_69) (fun _ _ => ⟨rfl, rfl, (by decide : 9 + 0 ≤ _), (by decide : 46 + 0 ≤ _)⟩)
  dsimp only [Pt.U, Pt.locs, Pt.cells, Pt.slots] at X38 l38 y38 z38 st38 hQ38
  subst l38 y38 z38
  obtain ⟨rfl, Nq38, e38⟩ := hQ38
  have N39 := Fr.app N29 Nq38
  obtain ⟨_, _, ⟨T40, L40, k40, n40⟩, -, X40, hS40, hg40, ⟨Lc40, hQ40, l40, y40, z40, CR40⟩, st40⟩ := Jvm.RoadKit.callSS X38 hx (y := (⟨"com/example/fieldstone/fieldstone/core/KeyReaderHasRemainingPinLaw", "step", "(Lcom/example/fieldstone/fieldstone/core/KeyReader;III)I"⟩ : MethodName)) hown (mvT hZ (hw _ (List.mem_of_getElem? (i := 33) rfl))) (mvT hZ (hw _ (List.mem_of_getElem? (i := 34) rfl))) (mvT hZ (hw _ (List.mem_of_getElem? (i := 35) rfl))) (mvT hZ (hw _ (List.mem_of_getElem? (i := 36) rfl))) (by decide) (backOfSH (W := 0) (rm_step l Z a0 hw [] b7 (own_n p1) (own_step (own_n p1) (0 : Int32) (p2 &&& (3 : Int32))) (((p2.toUInt32 >>> ((2 : Int32) &&& 31).toUInt32).toInt32) &&& (3 : Int32)) b1 k1 s_F s_C T28.heap n0 Zs37 f35 f33 f34 f36 fq28_0 g_b7 f30 hsr f31 f32 hp6 hp7 hp4 hp8) hZ (hw _ (List.mem_of_getElem? (i := 36) rfl)) (hw _ (List.mem_of_getElem? (i := 35) rfl)) (by decide) (by decide) hEW CR.1) (g := (mkF m 103 #[.val (.int p1), .val (.int p2), .val (.int (own_n p1)), .val (.ref b1), .val (.ref b7), .val (.int (1 : Int32)), .val (.int (own_step (own_n p1) (0 : Int32) (p2 &&& (3 : Int32))))] [(.int (((p2.toUInt32 >>> ((2 : Int32) &&& 31).toUInt32).toInt32) &&& (3 : Int32))), (.int (own_step (own_n p1) (0 : Int32) (p2 &&& (3 : Int32)))), (.int (own_n p1)), (.ref b7)])) rfl (by rw [hml]; rfl) (argsL := [(.ref b7), (.int (own_n p1)), (.int (own_step (own_n p1) (0 : Int32) (p2 &&& (3 : Int32)))), (.int (((p2.toUInt32 >>> ((2 : Int32) &&& 31).toUInt32).toInt32) &&& (3 : Int32)))]) (rest := []) (lenOf pd_12 rfl) rfl (by show 2 * 0 + _ ≤ _; exact Nat.le_of_eq rfl) (hb hby at_103) (fun _ _ => ⟨rfl, e38, (by decide : 9 + 5 ≤ _), (by decide : 46 + 12 ≤ _)⟩)
  dsimp only [Pt.U, Pt.locs, Pt.cells, Pt.slots] at X40 l40 y40 z40 st40 hQ40 hS40 hg40 CR40
  subst l40 y40 z40
  rw [e38] at hg40
  obtain ⟨X40, hS, hZ, hown⟩ := rebS hS hk X40 hS40 hg40 hZ hown
  have hZ40 := hZ
  have hown40 := hown
  have hk : _ ≤ T40.heap.size := Nat.le_refl _
  have CR := CR.trans CR40
  obtain ⟨rfl, Nq40, Kc40, fq40_0, fq40_1, fq40_2⟩ := hQ40
  have f42 : Sta Z T40.heap "jdk/internal/util/Preconditions" "SIOOBE_FORMATTER" "Ljava/util/function/BiFunction;" s_F := own_sta_keep f30 Kc40 (allS (own_plain_cell fq28_0) all0)
  have f43 : Sta Z T40.heap "java/nio/charset/StandardCharsets" "ISO_8859_1" "Ljava/nio/charset/Charset;" (.ref s_C) := own_sta_keep f31 Kc40 (allS (own_plain_cell fq28_0) all0)
  have f44 : Exa Z T40.heap s_C "sun/nio/cs/ISO_8859_1" := f32.keep Kc40
  have f45 : Exa Z T40.heap b1 "[B" := f33.keep Kc40
  have f46 : Arv Z T40.heap b1 k1 .byte (own_n p1) (List.replicate 16 (Value.int (0 : Int32))) (.int (0 : Int32)) := f34.keep Kc40 (ninS ne_b1_b7 nin0)
  have f47 : Fld Z T40.heap b7 "com/example/fieldstone/fieldstone/core/KeyReader" "key" "[B" (.ref b1) := fq40_1
  have f48 : Fld Z T40.heap b7 "com/example/fieldstone/fieldstone/core/KeyReader" "position" "I" (.int (own_step (own_n p1) (own_step (own_n p1) (0 : Int32) (p2 &&& (3 : Int32))) (((p2.toUInt32 >>> ((2 : Int32) &&& 31).toUInt32).toInt32) &&& (3 : Int32)))) := fq40_2
  have Zs49 : n0 ≤ T40.heap.size := Nat.le_trans Zs37 Kc40.1
  have N41 := Fr.app N39 Nq40
  obtain ⟨cq50, kq50, q50a, q50b, q50c⟩ := isOf hZ rfl fq40_0
  obtain ⟨_, _, ⟨T50, L50, k50, n50⟩, -, X50, ⟨Lc50, hQ50, l50, y50, z50⟩, st50⟩ := X40.virtualBack hx (y := (⟨"com/example/fieldstone/fieldstone/core/KeyReader", "hasRemaining", "()Z"⟩ : MethodName)) (z := (⟨"com/example/fieldstone/fieldstone/core/KeyReader", "hasRemaining", "()Z"⟩ : MethodName)) hown (mvT hZ (hw _ (List.mem_of_getElem? (i := 26) rfl))) (mvT hZ (hw _ (List.mem_of_getElem? (i := 27) rfl))) (notFace_of_selects (args := #[]) (mvT hZ (hw _ (List.mem_of_getElem? (i := 29) rfl)))) (mvT hZ (hw _ (List.mem_of_getElem? (i := 29) rfl))) (mvT hZ (hw _ (List.mem_of_getElem? (i := 28) rfl))) (by decide) (backOf (W := 0) (rm_has l Z a0 hw [] b7 (own_step (own_n p1) (own_step (own_n p1) (0 : Int32) (p2 &&& (3 : Int32))) (((p2.toUInt32 >>> ((2 : Int32) &&& 31).toUInt32).toInt32) &&& (3 : Int32))) b1 k1 (own_n p1) (List.replicate 16 (Value.int (0 : Int32))) T40.heap n0 Zs49 f48 f47 f46) hZ (hw _ (List.mem_of_getElem? (i := 30) rfl)) (hw _ (List.mem_of_getElem? (i := 4) rfl)) (by decide) (by decide)) q50a q50c (g := (mkF m 115 #[.val (.int p1), .val (.int p2), .val (.int (own_n p1)), .val (.ref b1), .val (.ref b7), .val (.int (1 : Int32)), .val (.int (own_step (own_n p1) (own_step (own_n p1) (0 : Int32) (p2 &&& (3 : Int32))) (((p2.toUInt32 >>> ((2 : Int32) &&& 31).toUInt32).toInt32) &&& (3 : Int32))))] [(.ref b7)])) rfl (by rw [hml]; rfl) (Steps.refl _) (argsL := []) (rest := []) (lenOf pd_7 rfl) rfl (by show 2 * 0 + _ ≤ _; exact Nat.le_of_eq rfl) (hb hby at_115) (fun _ _ => ⟨rfl, rfl, (by decide : 14 + 0 ≤ _), (by decide : 58 + 0 ≤ _)⟩)
  dsimp only [Pt.U, Pt.locs, Pt.cells, Pt.slots] at X50 l50 y50 z50 st50 hQ50
  subst l50 y50 z50
  obtain ⟨rfl, Nq50, e50⟩ := hQ50
  have N51 := Fr.app N41 Nq50
  obtain ⟨_, _, ⟨T52, L52, k52, n52⟩, -, X52, hS52, hg52, ⟨Lc52, hQ52, l52, y52, z52, CR52⟩, st52⟩ := Jvm.RoadKit.callSS X50 hx (y := (⟨"com/example/fieldstone/fieldstone/core/KeyReaderHasRemainingPinLaw", "step", "(Lcom/example/fieldstone/fieldstone/core/KeyReader;III)I"⟩ : MethodName)) hown (mvT hZ (hw _ (List.mem_of_getElem? (i := 33) rfl))) (mvT hZ (hw _ (List.mem_of_getElem? (i := 34) rfl))) (mvT hZ (hw _ (List.mem_of_getElem? (i := 35) rfl))) (mvT hZ (hw _ (List.mem_of_getElem? (i := 36) rfl))) (by decide) (backOfSH (W := 0) (rm_step l Z a0 hw [] b7 (own_n p1) (own_step (own_n p1) (own_step (own_n p1) (0 : Int32) (p2 &&& (3 : Int32))) (((p2.toUInt32 >>> ((2 : Int32) &&& 31).toUInt32).toInt32) &&& (3 : Int32))) (((p2.toUInt32 >>> ((4 : Int32) &&& 31).toUInt32).toInt32) &&& (3 : Int32)) b1 k1 s_F s_C T40.heap n0 Zs49 f47 f45 f46 f48 fq40_0 g_b7 f42 hsr f43 f44 hp9 hp10 hp4 hp11) hZ (hw _ (List.mem_of_getElem? (i := 36) rfl)) (hw _ (List.mem_of_getElem? (i := 35) rfl)) (by decide) (by decide) hEW CR.1) (g := (mkF m 149 #[.val (.int p1), .val (.int p2), .val (.int (own_n p1)), .val (.ref b1), .val (.ref b7), .val (.int (1 : Int32)), .val (.int (own_step (own_n p1) (own_step (own_n p1) (0 : Int32) (p2 &&& (3 : Int32))) (((p2.toUInt32 >>> ((2 : Int32) &&& 31).toUInt32).toInt32) &&& (3 : Int32))))] [(.int (((p2.toUInt32 >>> ((4 : Int32) &&& 31).toUInt32).toInt32) &&& (3 : Int32))), (.int (own_step (own_n p1) (own_step (own_n p1) (0 : Int32) (p2 &&& (3 : Int32))) (((p2.toUInt32 >>> ((2 : Int32) &&& 31).toUInt32).toInt32) &&& (3 : Int32)))), (.int (own_n p1)), (.ref b7)])) rfl (by rw [hml]; rfl) (argsL := [(.ref b7), (.int (own_n p1)), (.int (own_step (own_n p1) (own_step (own_n p1) (0 : Int32) (p2 &&& (3 : Int32))) (((p2.toUInt32 >>> ((2 : Int32) &&& 31).toUInt32).toInt32) &&& (3 : Int32)))), (.int (((p2.toUInt32 >>> ((4 : Int32) &&& 31).toUInt32).toInt32) &&& (3 : Int32)))]) (rest := []) (lenOf pd_12 rfl) rfl (by show 2 * 0 + _ ≤ _; exact Nat.le_of_eq rfl) (hb hby at_149) (fun _ _ => ⟨rfl, e50, (by decide : 14 + 5 ≤ _), (by decide : 58 + 12 ≤ _)⟩)
  dsimp only [Pt.U, Pt.locs, Pt.cells, Pt.slots] at X52 l52 y52 z52 st52 hQ52 hS52 hg52 CR52
  subst l52 y52 z52
  rw [e50] at hg52
  obtain ⟨X52, hS, hZ, hown⟩ := rebS hS hk X52 hS52 hg52 hZ hown
  have hZ52 := hZ
  have hown52 := hown
  have hk : _ ≤ T52.heap.size := Nat.le_refl _
  have CR := CR.trans CR52
  obtain ⟨rfl, Nq52, Kc52, fq52_0, fq52_1, fq52_2⟩ := hQ52
  have f54 : Sta Z T52.heap "jdk/internal/util/Preconditions" "SIOOBE_FORMATTER" "Ljava/util/function/BiFunction;" s_F := own_sta_keep f42 Kc52 (allS (own_plain_cell fq40_0) all0)
  have f55 : Sta Z T52.heap "java/nio/charset/StandardCharsets" "ISO_8859_1" "Ljava/nio/charset/Charset;" (.ref s_C) := own_sta_keep f43 Kc52 (allS (own_plain_cell fq40_0) all0)
  have f56 : Exa Z T52.heap s_C "sun/nio/cs/ISO_8859_1" := f44.keep Kc52
  have f57 : Exa Z T52.heap b1 "[B" := f45.keep Kc52
  have f58 : Arv Z T52.heap b1 k1 .byte (own_n p1) (List.replicate 16 (Value.int (0 : Int32))) (.int (0 : Int32)) := f46.keep Kc52 (ninS ne_b1_b7 nin0)
  have f59 : Fld Z T52.heap b7 "com/example/fieldstone/fieldstone/core/KeyReader" "key" "[B" (.ref b1) := fq52_1
  have f60 : Fld Z T52.heap b7 "com/example/fieldstone/fieldstone/core/KeyReader" "position" "I" (.int (own_step (own_n p1) (own_step (own_n p1) (own_step (own_n p1) (0 : Int32) (p2 &&& (3 : Int32))) (((p2.toUInt32 >>> ((2 : Int32) &&& 31).toUInt32).toInt32) &&& (3 : Int32))) (((p2.toUInt32 >>> ((4 : Int32) &&& 31).toUInt32).toInt32) &&& (3 : Int32)))) := fq52_2
  have Zs61 : n0 ≤ T52.heap.size := Nat.le_trans Zs49 Kc52.1
  have N53 := Fr.app N51 Nq52
  obtain ⟨cq62, kq62, q62a, q62b, q62c⟩ := isOf hZ rfl fq52_0
  obtain ⟨_, _, ⟨T62, L62, k62, n62⟩, -, X62, ⟨Lc62, hQ62, l62, y62, z62⟩, st62⟩ := X52.virtualBack hx (y := (⟨"com/example/fieldstone/fieldstone/core/KeyReader", "hasRemaining", "()Z"⟩ : MethodName)) (z := (⟨"com/example/fieldstone/fieldstone/core/KeyReader", "hasRemaining", "()Z"⟩ : MethodName)) hown (mvT hZ (hw _ (List.mem_of_getElem? (i := 26) rfl))) (mvT hZ (hw _ (List.mem_of_getElem? (i := 27) rfl))) (notFace_of_selects (args := #[]) (mvT hZ (hw _ (List.mem_of_getElem? (i := 29) rfl)))) (mvT hZ (hw _ (List.mem_of_getElem? (i := 29) rfl))) (mvT hZ (hw _ (List.mem_of_getElem? (i := 28) rfl))) (by decide) (backOf (W := 0) (rm_has l Z a0 hw [] b7 (own_step (own_n p1) (own_step (own_n p1) (own_step (own_n p1) (0 : Int32) (p2 &&& (3 : Int32))) (((p2.toUInt32 >>> ((2 : Int32) &&& 31).toUInt32).toInt32) &&& (3 : Int32))) (((p2.toUInt32 >>> ((4 : Int32) &&& 31).toUInt32).toInt32) &&& (3 : Int32))) b1 k1 (own_n p1) (List.replicate 16 (Value.int (0 : Int32))) T52.heap n0 Zs61 f60 f59 f58) hZ (hw _ (List.mem_of_getElem? (i := 30) rfl)) (hw _ (List.mem_of_getElem? (i := 4) rfl)) (by decide) (by decide)) q62a q62c (g := (mkF m 161 #[.val (.int p1), .val (.int p2), .val (.int (own_n p1)), .val (.ref b1), .val (.ref b7), .val (.int (1 : Int32)), .val (.int (own_step (own_n p1) (own_step (own_n p1) (own_step (own_n p1) (0 : Int32) (p2 &&& (3 : Int32))) (((p2.toUInt32 >>> ((2 : Int32) &&& 31).toUInt32).toInt32) &&& (3 : Int32))) (((p2.toUInt32 >>> ((4 : Int32) &&& 31).toUInt32).toInt32) &&& (3 : Int32))))] [(.ref b7)])) rfl (by rw [hml]; rfl) (Steps.refl _) (argsL := []) (rest := []) (lenOf pd_7 rfl) rfl (by show 2 * 0 + _ ≤ _; exact Nat.le_of_eq rfl) (hb hby at_161) (fun _ _ => ⟨rfl, rfl, (by decide : 19 + 0 ≤ _), (by decide : 70 + 0 ≤ _)⟩)
  dsimp only [Pt.U, Pt.locs, Pt.cells, Pt.slots] at X62 l62 y62 z62 st62 hQ62
  subst l62 y62 z62
  obtain ⟨rfl, Nq62, e62⟩ := hQ62
  have N63 := Fr.app N53 Nq62
  obtain ⟨fs, hr, hrun, hended, hRE⟩ := X62.leaveW hS (by rw [e62]; exact hk) (v := some (.int (1 : Int32))) (fun h => by rw [Bd.returns] at h; cases h) Bd.notSynchronized
  refine ⟨_, _, pre0 _ ?_, hrun, hended, _, _, rfl, ?_, ?_, hRE.1, hRE.2.1, hRE.2.2.1, hRE.2.2.2.mono (by decide) (by decide)⟩
  · show Steps p.tables e below (s₁.setTop (mkF m 0 #[.val (.int p1), .val (.int p2), .unset, .unset, .unset, .unset, .unset] [])) _
    refine XS.iloadN X0.here hx rfl (hb hby at_0) rfl ?_
    show Steps p.tables e below (s₁.setTop (mkF m 1 #[.val (.int p1), .val (.int p2), .unset, .unset, .unset, .unset, .unset] [(.int p1)])) _
    refine X0.ldcInt hx hown0 (mvT hZ0 (hw _ (List.mem_of_getElem? (i := 0) rfl))) (g := (mkF m 1 #[.val (.int p1), .val (.int p2), .unset, .unset, .unset, .unset, .unset] [(.int p1)])) rfl (hb hby at_1) _ ?_
    show Steps p.tables e below (s₁.setTop (mkF m 3 #[.val (.int p1), .val (.int p2), .unset, .unset, .unset, .unset, .unset] [(.int (2147483647 : Int32)), (.int p1)])) _
    refine XS.iand X0.here hx rfl (hb hby at_3) rfl ?_
    show Steps p.tables e below (s₁.setTop (mkF m 4 #[.val (.int p1), .val (.int p2), .unset, .unset, .unset, .unset, .unset] [(.int (p1 &&& (2147483647 : Int32)))])) _
    refine XS.bipush X0.here hx rfl (hb hby at_4) ?_
    show Steps p.tables e below (s₁.setTop (mkF m 6 #[.val (.int p1), .val (.int p2), .unset, .unset, .unset, .unset, .unset] [(.int (17 : Int32)), (.int (p1 &&& (2147483647 : Int32)))])) _
    refine iremM X0 hx rfl (hb hby at_6) rfl (by decide) ?_
    show Steps p.tables e below (s₁.setTop (mkF m 7 #[.val (.int p1), .val (.int p2), .unset, .unset, .unset, .unset, .unset] [(.int ((p1 &&& (2147483647 : Int32)) % (17 : Int32)))])) _
    refine XS.istoreN X0.here hx rfl (hb hby at_7) rfl (l' := #[.val (.int p1), .val (.int p2), .val (.int (own_n p1)), .unset, .unset, .unset, .unset]) rfl ?_
    show Steps p.tables e below (s₁.setTop (mkF m 8 #[.val (.int p1), .val (.int p2), .val (.int (own_n p1)), .unset, .unset, .unset, .unset] [])) _
    refine XS.iloadN X0.here hx rfl (hb hby at_8) rfl ?_
    show Steps p.tables e below (s₁.setTop (mkF m 9 #[.val (.int p1), .val (.int p2), .val (.int (own_n p1)), .unset, .unset, .unset, .unset] [(.int (own_n p1))])) _
    refine st1 _ ?_
    show Steps p.tables e below (T1.setTop (mkF m 11 #[.val (.int p1), .val (.int p2), .val (.int (own_n p1)), .unset, .unset, .unset, .unset] [(.ref b1)])) _
    refine XS.astoreN X1.here hx rfl (hb hby at_11) rfl rfl (l' := #[.val (.int p1), .val (.int p2), .val (.int (own_n p1)), .val (.ref b1), .unset, .unset, .unset]) rfl ?_
    show Steps p.tables e below (T1.setTop (mkF m 12 #[.val (.int p1), .val (.int p2), .val (.int (own_n p1)), .val (.ref b1), .unset, .unset, .unset] [])) _
    refine st7 _ ?_
    show Steps p.tables e below (T7.setTop (mkF m 15 #[.val (.int p1), .val (.int p2), .val (.int (own_n p1)), .val (.ref b1), .unset, .unset, .unset] [(.ref b7)])) _
    refine XS.dup X7.here hx rfl (hb hby at_15) rfl rfl ?_
    show Steps p.tables e below (T7.setTop (mkF m 16 #[.val (.int p1), .val (.int p2), .val (.int (own_n p1)), .val (.ref b1), .unset, .unset, .unset] [(.ref b7), (.ref b7)])) _
    refine XS.aloadN X7.here hx rfl (hb hby at_16) rfl rfl ?_
    show Steps p.tables e below (T7.setTop (mkF m 17 #[.val (.int p1), .val (.int p2), .val (.int (own_n p1)), .val (.ref b1), .unset, .unset, .unset] [(.ref b1), (.ref b7), (.ref b7)])) _
    refine st16.trans ?_
    show Steps p.tables e below (T16.setTop (mkF m 20 #[.val (.int p1), .val (.int p2), .val (.int (own_n p1)), .val (.ref b1), .unset, .unset, .unset] [(.ref b7)])) _
    refine XS.astore X16.here hx rfl (hb hby at_20) rfl rfl (l' := #[.val (.int p1), .val (.int p2), .val (.int (own_n p1)), .val (.ref b1), .val (.ref b7), .unset, .unset]) rfl ?_
    show Steps p.tables e below (T16.setTop (mkF m 22 #[.val (.int p1), .val (.int p2), .val (.int (own_n p1)), .val (.ref b1), .val (.ref b7), .unset, .unset] [])) _
    refine XS.aload X16.here hx rfl (hb hby at_22) rfl rfl ?_
    show Steps p.tables e below (T16.setTop (mkF m 24 #[.val (.int p1), .val (.int p2), .val (.int (own_n p1)), .val (.ref b1), .val (.ref b7), .unset, .unset] [(.ref b7)])) _
    refine st26.trans ?_
    show Steps p.tables e below (T26.setTop (mkF m 27 #[.val (.int p1), .val (.int p2), .val (.int (own_n p1)), .val (.ref b1), .val (.ref b7), .unset, .unset] [(.int (f_has (0 : Int32) (own_n p1)))])) _
    refine XS.iloadN X26.here hx rfl (hb hby at_27) rfl ?_
    show Steps p.tables e below (T26.setTop (mkF m 28 #[.val (.int p1), .val (.int p2), .val (.int (own_n p1)), .val (.ref b1), .val (.ref b7), .unset, .unset] [(.int (own_n p1)), (.int (f_has (0 : Int32) (own_n p1)))])) _
    refine XS.ifNo X26.here hx rfl (hb hby at_28) rfl ((if0 _ _).trans (tlt hc0).2.2.2) ?_
    show Steps p.tables e below (T26.setTop (mkF m 31 #[.val (.int p1), .val (.int p2), .val (.int (own_n p1)), .val (.ref b1), .val (.ref b7), .unset, .unset] [(.int (f_has (0 : Int32) (own_n p1)))])) _
    refine XS.iconst X26.here hx rfl (hb hby at_31) ?_
    show Steps p.tables e below (T26.setTop (mkF m 32 #[.val (.int p1), .val (.int p2), .val (.int (own_n p1)), .val (.ref b1), .val (.ref b7), .unset, .unset] [(.int (1 : Int32)), (.int (f_has (0 : Int32) (own_n p1)))])) _
    refine XS.goto X26.here hx rfl (pc0 := 32) (pc' := 36) rfl (hb hby at_32) (by decide) (by decide) ?_
    show Steps p.tables e below (T26.setTop (mkF m 36 #[.val (.int p1), .val (.int p2), .val (.int (own_n p1)), .val (.ref b1), .val (.ref b7), .unset, .unset] [(.int (1 : Int32)), (.int (f_has (0 : Int32) (own_n p1)))])) _
    refine XS.icmpNo X26.here hx rfl (hb hby at_36) rfl (teq hc1).2 ?_
    show Steps p.tables e below (T26.setTop (mkF m 39 #[.val (.int p1), .val (.int p2), .val (.int (own_n p1)), .val (.ref b1), .val (.ref b7), .unset, .unset] [])) _
    refine XS.iconst X26.here hx rfl (hb hby at_39) ?_
    show Steps p.tables e below (T26.setTop (mkF m 40 #[.val (.int p1), .val (.int p2), .val (.int (own_n p1)), .val (.ref b1), .val (.ref b7), .unset, .unset] [(.int (1 : Int32))])) _
    refine XS.goto X26.here hx rfl (pc0 := 40) (pc' := 44) rfl (hb hby at_40) (by decide) (by decide) ?_
    show Steps p.tables e below (T26.setTop (mkF m 44 #[.val (.int p1), .val (.int p2), .val (.int (own_n p1)), .val (.ref b1), .val (.ref b7), .unset, .unset] [(.int (1 : Int32))])) _
    refine XS.istore X26.here hx rfl (hb hby at_44) rfl (l' := #[.val (.int p1), .val (.int p2), .val (.int (own_n p1)), .val (.ref b1), .val (.ref b7), .val (.int (1 : Int32)), .unset]) rfl ?_
    show Steps p.tables e below (T26.setTop (mkF m 46 #[.val (.int p1), .val (.int p2), .val (.int (own_n p1)), .val (.ref b1), .val (.ref b7), .val (.int (1 : Int32)), .unset] [])) _
    refine XS.iconst X26.here hx rfl (hb hby at_46) ?_
    show Steps p.tables e below (T26.setTop (mkF m 47 #[.val (.int p1), .val (.int p2), .val (.int (own_n p1)), .val (.ref b1), .val (.ref b7), .val (.int (1 : Int32)), .unset] [(.int (0 : Int32))])) _
    refine XS.istore X26.here hx rfl (hb hby at_47) rfl (l' := #[.val (.int p1), .val (.int p2), .val (.int (own_n p1)), .val (.ref b1), .val (.ref b7), .val (.int (1 : Int32)), .val (.int (0 : Int32))]) rfl ?_
    show Steps p.tables e below (T26.setTop (mkF m 49 #[.val (.int p1), .val (.int p2), .val (.int (own_n p1)), .val (.ref b1), .val (.ref b7), .val (.int (1 : Int32)), .val (.int (0 : Int32))] [])) _
    refine XS.aload X26.here hx rfl (hb hby at_49) rfl rfl ?_
    refine XS.iloadN X26.here hx rfl (hb hby at_51) rfl ?_
    refine XS.iload X26.here hx rfl (hb hby at_52) rfl ?_
    refine XS.iloadN X26.here hx rfl (hb hby at_54) rfl ?_
    refine XS.iconst X26.here hx rfl (hb hby at_55) ?_
    show Steps p.tables e below (T26.setTop (mkF m 56 #[.val (.int p1), .val (.int p2), .val (.int (own_n p1)), .val (.ref b1), .val (.ref b7), .val (.int (1 : Int32)), .val (.int (0 : Int32))] [(.int (3 : Int32)), (.int p2), (.int (0 : Int32)), (.int (own_n p1)), (.ref b7)])) _
    refine XS.iand X26.here hx rfl (hb hby at_56) rfl ?_
    show Steps p.tables e below (T26.setTop (mkF m 57 #[.val (.int p1), .val (.int p2), .val (.int (own_n p1)), .val (.ref b1), .val (.ref b7), .val (.int (1 : Int32)), .val (.int (0 : Int32))] [(.int (p2 &&& (3 : Int32))), (.int (0 : Int32)), (.int (own_n p1)), (.ref b7)])) _
    refine st28.trans ?_
    show Steps p.tables e below (T28.setTop (mkF m 60 #[.val (.int p1), .val (.int p2), .val (.int (own_n p1)), .val (.ref b1), .val (.ref b7), .val (.int (1 : Int32)), .val (.int (0 : Int32))] [(.int (own_step (own_n p1) (0 : Int32) (p2 &&& (3 : Int32))))])) _
    refine XS.istore X28.here hx rfl (hb hby at_60) rfl (l' := #[.val (.int p1), .val (.int p2), .val (.int (own_n p1)), .val (.ref b1), .val (.ref b7), .val (.int (1 : Int32)), .val (.int (own_step (own_n p1) (0 : Int32) (p2 &&& (3 : Int32))))]) rfl ?_
    show Steps p.tables e below (T28.setTop (mkF m 62 #[.val (.int p1), .val (.int p2), .val (.int (own_n p1)), .val (.ref b1), .val (.ref b7), .val (.int (1 : Int32)), .val (.int (own_step (own_n p1) (0 : Int32) (p2 &&& (3 : Int32))))] [])) _
    refine XS.iload X28.here hx rfl (hb hby at_62) rfl ?_
    show Steps p.tables e below (T28.setTop (mkF m 64 #[.val (.int p1), .val (.int p2), .val (.int (own_n p1)), .val (.ref b1), .val (.ref b7), .val (.int (1 : Int32)), .val (.int (own_step (own_n p1) (0 : Int32) (p2 &&& (3 : Int32))))] [(.int (1 : Int32))])) _
    refine XS.ifNo X28.here hx rfl (hb hby at_64) rfl ((if0 _ _).trans (feq (by decide : ¬ ((1 : Int32) = (0 : Int32)))).1) ?_
    show Steps p.tables e below (T28.setTop (mkF m 67 #[.val (.int p1), .val (.int p2), .val (.int (own_n p1)), .val (.ref b1), .val (.ref b7), .val (.int (1 : Int32)), .val (.int (own_step (own_n p1) (0 : Int32) (p2 &&& (3 : Int32))))] [])) _
    refine XS.aload X28.here hx rfl (hb hby at_67) rfl rfl ?_
    show Steps p.tables e below (T28.setTop (mkF m 69 #[.val (.int p1), .val (.int p2), .val (.int (own_n p1)), .val (.ref b1), .val (.ref b7), .val (.int (1 : Int32)), .val (.int (own_step (own_n p1) (0 : Int32) (p2 &&& (3 : Int32))))] [(.ref b7)])) _
    refine st38.trans ?_
    show Steps p.tables e below (T38.setTop (mkF m 72 #[.val (.int p1), .val (.int p2), .val (.int (own_n p1)), .val (.ref b1), .val (.ref b7), .val (.int (1 : Int32)), .val (.int (own_step (own_n p1) (0 : Int32) (p2 &&& (3 : Int32))))] [(.int (f_has (own_step (own_n p1) (0 : Int32) (p2 &&& (3 : Int32))) (own_n p1)))])) _
    refine XS.iload X38.here hx rfl (hb hby at_72) rfl ?_
    refine XS.iloadN X38.here hx rfl (hb hby at_74) rfl ?_
    show Steps p.tables e below (T38.setTop (mkF m 75 #[.val (.int p1), .val (.int p2), .val (.int (own_n p1)), .val (.ref b1), .val (.ref b7), .val (.int (1 : Int32)), .val (.int (own_step (own_n p1) (0 : Int32) (p2 &&& (3 : Int32))))] [(.int (own_n p1)), (.int (own_step (own_n p1) (0 : Int32) (p2 &&& (3 : Int32)))), (.int (f_has (own_step (own_n p1) (0 : Int32) (p2 &&& (3 : Int32))) (own_n p1)))])) _
    refine XS.icmpYes X38.here hx rfl (pc0 := 75) (pc' := 82) rfl (hb hby at_75) rfl (flt hc2).2.1 (by decide) (by decide) ?_
    show Steps p.tables e below (T38.setTop (mkF m 82 #[.val (.int p1), .val (.int p2), .val (.int (own_n p1)), .val (.ref b1), .val (.ref b7), .val (.int (1 : Int32)), .val (.int (own_step (own_n p1) (0 : Int32) (p2 &&& (3 : Int32))))] [(.int (f_has (own_step (own_n p1) (0 : Int32) (p2 &&& (3 : Int32))) (own_n p1)))])) _
    refine XS.iconst X38.here hx rfl (hb hby at_82) ?_
    show Steps p.tables e below (T38.setTop (mkF m 83 #[.val (.int p1), .val (.int p2), .val (.int (own_n p1)), .val (.ref b1), .val (.ref b7), .val (.int (1 : Int32)), .val (.int (own_step (own_n p1) (0 : Int32) (p2 &&& (3 : Int32))))] [(.int (0 : Int32)), (.int (f_has (own_step (own_n p1) (0 : Int32) (p2 &&& (3 : Int32))) (own_n p1)))])) _
    refine XS.icmpNo X38.here hx rfl (hb hby at_83) rfl (teq hc3).2 ?_
    show Steps p.tables e below (T38.setTop (mkF m 86 #[.val (.int p1), .val (.int p2), .val (.int (own_n p1)), .val (.ref b1), .val (.ref b7), .val (.int (1 : Int32)), .val (.int (own_step (own_n p1) (0 : Int32) (p2 &&& (3 : Int32))))] [])) _
    refine XS.iconst X38.here hx rfl (hb hby at_86) ?_
    show Steps p.tables e below (T38.setTop (mkF m 87 #[.val (.int p1), .val (.int p2), .val (.int (own_n p1)), .val (.ref b1), .val (.ref b7), .val (.int (1 : Int32)), .val (.int (own_step (own_n p1) (0 : Int32) (p2 &&& (3 : Int32))))] [(.int (1 : Int32))])) _
    refine XS.goto X38.here hx rfl (pc0 := 87) (pc' := 91) rfl (hb hby at_87) (by decide) (by decide) ?_
    show Steps p.tables e below (T38.setTop (mkF m 91 #[.val (.int p1), .val (.int p2), .val (.int (own_n p1)), .val (.ref b1), .val (.ref b7), .val (.int (1 : Int32)), .val (.int (own_step (own_n p1) (0 : Int32) (p2 &&& (3 : Int32))))] [(.int (1 : Int32))])) _
    refine XS.istore X38.here hx rfl (hb hby at_91) rfl (l' := #[.val (.int p1), .val (.int p2), .val (.int (own_n p1)), .val (.ref b1), .val (.ref b7), .val (.int (1 : Int32)), .val (.int (own_step (own_n p1) (0 : Int32) (p2 &&& (3 : Int32))))]) rfl ?_
    show Steps p.tables e below (T38.setTop (mkF m 93 #[.val (.int p1), .val (.int p2), .val (.int (own_n p1)), .val (.ref b1), .val (.ref b7), .val (.int (1 : Int32)), .val (.int (own_step (own_n p1) (0 : Int32) (p2 &&& (3 : Int32))))] [])) _
    refine XS.aload X38.here hx rfl (hb hby at_93) rfl rfl ?_
    refine XS.iloadN X38.here hx rfl (hb hby at_95) rfl ?_
    refine XS.iload X38.here hx rfl (hb hby at_96) rfl ?_
    refine XS.iloadN X38.here hx rfl (hb hby at_98) rfl ?_
    refine XS.iconst X38.here hx rfl (hb hby at_99) ?_
    show Steps p.tables e below (T38.setTop (mkF m 100 #[.val (.int p1), .val (.int p2), .val (.int (own_n p1)), .val (.ref b1), .val (.ref b7), .val (.int (1 : Int32)), .val (.int (own_step (own_n p1) (0 : Int32) (p2 &&& (3 : Int32))))] [(.int (2 : Int32)), (.int p2), (.int (own_step (own_n p1) (0 : Int32) (p2 &&& (3 : Int32)))), (.int (own_n p1)), (.ref b7)])) _
    refine XS.iushr X38.here hx rfl (hb hby at_100) rfl ?_
    show Steps p.tables e below (T38.setTop (mkF m 101 #[.val (.int p1), .val (.int p2), .val (.int (own_n p1)), .val (.ref b1), .val (.ref b7), .val (.int (1 : Int32)), .val (.int (own_step (own_n p1) (0 : Int32) (p2 &&& (3 : Int32))))] [(.int ((p2.toUInt32 >>> ((2 : Int32) &&& 31).toUInt32).toInt32)), (.int (own_step (own_n p1) (0 : Int32) (p2 &&& (3 : Int32)))), (.int (own_n p1)), (.ref b7)])) _
    refine XS.iconst X38.here hx rfl (hb hby at_101) ?_
    show Steps p.tables e below (T38.setTop (mkF m 102 #[.val (.int p1), .val (.int p2), .val (.int (own_n p1)), .val (.ref b1), .val (.ref b7), .val (.int (1 : Int32)), .val (.int (own_step (own_n p1) (0 : Int32) (p2 &&& (3 : Int32))))] [(.int (3 : Int32)), (.int ((p2.toUInt32 >>> ((2 : Int32) &&& 31).toUInt32).toInt32)), (.int (own_step (own_n p1) (0 : Int32) (p2 &&& (3 : Int32)))), (.int (own_n p1)), (.ref b7)])) _
    refine XS.iand X38.here hx rfl (hb hby at_102) rfl ?_
    show Steps p.tables e below (T38.setTop (mkF m 103 #[.val (.int p1), .val (.int p2), .val (.int (own_n p1)), .val (.ref b1), .val (.ref b7), .val (.int (1 : Int32)), .val (.int (own_step (own_n p1) (0 : Int32) (p2 &&& (3 : Int32))))] [(.int (((p2.toUInt32 >>> ((2 : Int32) &&& 31).toUInt32).toInt32) &&& (3 : Int32))), (.int (own_step (own_n p1) (0 : Int32) (p2 &&& (3 : Int32)))), (.int (own_n p1)), (.ref b7)])) _
    refine st40.trans ?_
    show Steps p.tables e below (T40.setTop (mkF m 106 #[.val (.int p1), .val (.int p2), .val (.int (own_n p1)), .val (.ref b1), .val (.ref b7), .val (.int (1 : Int32)), .val (.int (own_step (own_n p1) (0 : Int32) (p2 &&& (3 : Int32))))] [(.int (own_step (own_n p1) (own_step (own_n p1) (0 : Int32) (p2 &&& (3 : Int32))) (((p2.toUInt32 >>> ((2 : Int32) &&& 31).toUInt32).toInt32) &&& (3 : Int32))))])) _
    refine XS.istore X40.here hx rfl (hb hby at_106) rfl (l' := #[.val (.int p1), .val (.int p2), .val (.int (own_n p1)), .val (.ref b1), .val (.ref b7), .val (.int (1 : Int32)), .val (.int (own_step (own_n p1) (own_step (own_n p1) (0 : Int32) (p2 &&& (3 : Int32))) (((p2.toUInt32 >>> ((2 : Int32) &&& 31).toUInt32).toInt32) &&& (3 : Int32))))]) rfl ?_
    show Steps p.tables e below (T40.setTop (mkF m 108 #[.val (.int p1), .val (.int p2), .val (.int (own_n p1)), .val (.ref b1), .val (.ref b7), .val (.int (1 : Int32)), .val (.int (own_step (own_n p1) (own_step (own_n p1) (0 : Int32) (p2 &&& (3 : Int32))) (((p2.toUInt32 >>> ((2 : Int32) &&& 31).toUInt32).toInt32) &&& (3 : Int32))))] [])) _
    refine XS.iload X40.here hx rfl (hb hby at_108) rfl ?_
    show Steps p.tables e below (T40.setTop (mkF m 110 #[.val (.int p1), .val (.int p2), .val (.int (own_n p1)), .val (.ref b1), .val (.ref b7), .val (.int (1 : Int32)), .val (.int (own_step (own_n p1) (own_step (own_n p1) (0 : Int32) (p2 &&& (3 : Int32))) (((p2.toUInt32 >>> ((2 : Int32) &&& 31).toUInt32).toInt32) &&& (3 : Int32))))] [(.int (1 : Int32))])) _
    refine XS.ifNo X40.here hx rfl (hb hby at_110) rfl ((if0 _ _).trans (feq (by decide : ¬ ((1 : Int32) = (0 : Int32)))).1) ?_
    show Steps p.tables e below (T40.setTop (mkF m 113 #[.val (.int p1), .val (.int p2), .val (.int (own_n p1)), .val (.ref b1), .val (.ref b7), .val (.int (1 : Int32)), .val (.int (own_step (own_n p1) (own_step (own_n p1) (0 : Int32) (p2 &&& (3 : Int32))) (((p2.toUInt32 >>> ((2 : Int32) &&& 31).toUInt32).toInt32) &&& (3 : Int32))))] [])) _
    refine XS.aload X40.here hx rfl (hb hby at_113) rfl rfl ?_
    show Steps p.tables e below (T40.setTop (mkF m 115 #[.val (.int p1), .val (.int p2), .val (.int (own_n p1)), .val (.ref b1), .val (.ref b7), .val (.int (1 : Int32)), .val (.int (own_step (own_n p1) (own_step (own_n p1) (0 : Int32) (p2 &&& (3 : Int32))) (((p2.toUInt32 >>> ((2 : Int32) &&& 31).toUInt32).toInt32) &&& (3 : Int32))))] [(.ref b7)])) _
    refine st50.trans ?_
    show Steps p.tables e below (T50.setTop (mkF m 118 #[.val (.int p1), .val (.int p2), .val (.int (own_n p1)), .val (.ref b1), .val (.ref b7), .val (.int (1 : Int32)), .val (.int (own_step (own_n p1) (own_step (own_n p1) (0 : Int32) (p2 &&& (3 : Int32))) (((p2.toUInt32 >>> ((2 : Int32) &&& 31).toUInt32).toInt32) &&& (3 : Int32))))] [(.int (f_has (own_step (own_n p1) (own_step (own_n p1) (0 : Int32) (p2 &&& (3 : Int32))) (((p2.toUInt32 >>> ((2 : Int32) &&& 31).toUInt32).toInt32) &&& (3 : Int32))) (own_n p1)))])) _
    refine XS.iload X50.here hx rfl (hb hby at_118) rfl ?_
    refine XS.iloadN X50.here hx rfl (hb hby at_120) rfl ?_
    show Steps p.tables e below (T50.setTop (mkF m 121 #[.val (.int p1), .val (.int p2), .val (.int (own_n p1)), .val (.ref b1), .val (.ref b7), .val (.int (1 : Int32)), .val (.int (own_step (own_n p1) (own_step (own_n p1) (0 : Int32) (p2 &&& (3 : Int32))) (((p2.toUInt32 >>> ((2 : Int32) &&& 31).toUInt32).toInt32) &&& (3 : Int32))))] [(.int (own_n p1)), (.int (own_step (own_n p1) (own_step (own_n p1) (0 : Int32) (p2 &&& (3 : Int32))) (((p2.toUInt32 >>> ((2 : Int32) &&& 31).toUInt32).toInt32) &&& (3 : Int32)))), (.int (f_has (own_step (own_n p1) (own_step (own_n p1) (0 : Int32) (p2 &&& (3 : Int32))) (((p2.toUInt32 >>> ((2 : Int32) &&& 31).toUInt32).toInt32) &&& (3 : Int32))) (own_n p1)))])) _
    refine XS.icmpYes X50.here hx rfl (pc0 := 121) (pc' := 128) rfl (hb hby at_121) rfl (flt hc4).2.1 (by decide) (by decide) ?_
    show Steps p.tables e below (T50.setTop (mkF m 128 #[.val (.int p1), .val (.int p2), .val (.int (own_n p1)), .val (.ref b1), .val (.ref b7), .val (.int (1 : Int32)), .val (.int (own_step (own_n p1) (own_step (own_n p1) (0 : Int32) (p2 &&& (3 : Int32))) (((p2.toUInt32 >>> ((2 : Int32) &&& 31).toUInt32).toInt32) &&& (3 : Int32))))] [(.int (f_has (own_step (own_n p1) (own_step (own_n p1) (0 : Int32) (p2 &&& (3 : Int32))) (((p2.toUInt32 >>> ((2 : Int32) &&& 31).toUInt32).toInt32) &&& (3 : Int32))) (own_n p1)))])) _
    refine XS.iconst X50.here hx rfl (hb hby at_128) ?_
    show Steps p.tables e below (T50.setTop (mkF m 129 #[.val (.int p1), .val (.int p2), .val (.int (own_n p1)), .val (.ref b1), .val (.ref b7), .val (.int (1 : Int32)), .val (.int (own_step (own_n p1) (own_step (own_n p1) (0 : Int32) (p2 &&& (3 : Int32))) (((p2.toUInt32 >>> ((2 : Int32) &&& 31).toUInt32).toInt32) &&& (3 : Int32))))] [(.int (0 : Int32)), (.int (f_has (own_step (own_n p1) (own_step (own_n p1) (0 : Int32) (p2 &&& (3 : Int32))) (((p2.toUInt32 >>> ((2 : Int32) &&& 31).toUInt32).toInt32) &&& (3 : Int32))) (own_n p1)))])) _
    refine XS.icmpNo X50.here hx rfl (hb hby at_129) rfl (teq hc5).2 ?_
    show Steps p.tables e below (T50.setTop (mkF m 132 #[.val (.int p1), .val (.int p2), .val (.int (own_n p1)), .val (.ref b1), .val (.ref b7), .val (.int (1 : Int32)), .val (.int (own_step (own_n p1) (own_step (own_n p1) (0 : Int32) (p2 &&& (3 : Int32))) (((p2.toUInt32 >>> ((2 : Int32) &&& 31).toUInt32).toInt32) &&& (3 : Int32))))] [])) _
    refine XS.iconst X50.here hx rfl (hb hby at_132) ?_
    show Steps p.tables e below (T50.setTop (mkF m 133 #[.val (.int p1), .val (.int p2), .val (.int (own_n p1)), .val (.ref b1), .val (.ref b7), .val (.int (1 : Int32)), .val (.int (own_step (own_n p1) (own_step (own_n p1) (0 : Int32) (p2 &&& (3 : Int32))) (((p2.toUInt32 >>> ((2 : Int32) &&& 31).toUInt32).toInt32) &&& (3 : Int32))))] [(.int (1 : Int32))])) _
    refine XS.goto X50.here hx rfl (pc0 := 133) (pc' := 137) rfl (hb hby at_133) (by decide) (by decide) ?_
    show Steps p.tables e below (T50.setTop (mkF m 137 #[.val (.int p1), .val (.int p2), .val (.int (own_n p1)), .val (.ref b1), .val (.ref b7), .val (.int (1 : Int32)), .val (.int (own_step (own_n p1) (own_step (own_n p1) (0 : Int32) (p2 &&& (3 : Int32))) (((p2.toUInt32 >>> ((2 : Int32) &&& 31).toUInt32).toInt32) &&& (3 : Int32))))] [(.int (1 : Int32))])) _
    refine XS.istore X50.here hx rfl (hb hby at_137) rfl (l' := #[.val (.int p1), .val (.int p2), .val (.int (own_n p1)), .val (.ref b1), .val (.ref b7), .val (.int (1 : Int32)), .val (.int (own_step (own_n p1) (own_step (own_n p1) (0 : Int32) (p2 &&& (3 : Int32))) (((p2.toUInt32 >>> ((2 : Int32) &&& 31).toUInt32).toInt32) &&& (3 : Int32))))]) rfl ?_
    show Steps p.tables e below (T50.setTop (mkF m 139 #[.val (.int p1), .val (.int p2), .val (.int (own_n p1)), .val (.ref b1), .val (.ref b7), .val (.int (1 : Int32)), .val (.int (own_step (own_n p1) (own_step (own_n p1) (0 : Int32) (p2 &&& (3 : Int32))) (((p2.toUInt32 >>> ((2 : Int32) &&& 31).toUInt32).toInt32) &&& (3 : Int32))))] [])) _
    refine XS.aload X50.here hx rfl (hb hby at_139) rfl rfl ?_
    refine XS.iloadN X50.here hx rfl (hb hby at_141) rfl ?_
    refine XS.iload X50.here hx rfl (hb hby at_142) rfl ?_
    refine XS.iloadN X50.here hx rfl (hb hby at_144) rfl ?_
    refine XS.iconst X50.here hx rfl (hb hby at_145) ?_
    show Steps p.tables e below (T50.setTop (mkF m 146 #[.val (.int p1), .val (.int p2), .val (.int (own_n p1)), .val (.ref b1), .val (.ref b7), .val (.int (1 : Int32)), .val (.int (own_step (own_n p1) (own_step (own_n p1) (0 : Int32) (p2 &&& (3 : Int32))) (((p2.toUInt32 >>> ((2 : Int32) &&& 31).toUInt32).toInt32) &&& (3 : Int32))))] [(.int (4 : Int32)), (.int p2), (.int (own_step (own_n p1) (own_step (own_n p1) (0 : Int32) (p2 &&& (3 : Int32))) (((p2.toUInt32 >>> ((2 : Int32) &&& 31).toUInt32).toInt32) &&& (3 : Int32)))), (.int (own_n p1)), (.ref b7)])) _
    refine XS.iushr X50.here hx rfl (hb hby at_146) rfl ?_
    show Steps p.tables e below (T50.setTop (mkF m 147 #[.val (.int p1), .val (.int p2), .val (.int (own_n p1)), .val (.ref b1), .val (.ref b7), .val (.int (1 : Int32)), .val (.int (own_step (own_n p1) (own_step (own_n p1) (0 : Int32) (p2 &&& (3 : Int32))) (((p2.toUInt32 >>> ((2 : Int32) &&& 31).toUInt32).toInt32) &&& (3 : Int32))))] [(.int ((p2.toUInt32 >>> ((4 : Int32) &&& 31).toUInt32).toInt32)), (.int (own_step (own_n p1) (own_step (own_n p1) (0 : Int32) (p2 &&& (3 : Int32))) (((p2.toUInt32 >>> ((2 : Int32) &&& 31).toUInt32).toInt32) &&& (3 : Int32)))), (.int (own_n p1)), (.ref b7)])) _
    refine XS.iconst X50.here hx rfl (hb hby at_147) ?_
    show Steps p.tables e below (T50.setTop (mkF m 148 #[.val (.int p1), .val (.int p2), .val (.int (own_n p1)), .val (.ref b1), .val (.ref b7), .val (.int (1 : Int32)), .val (.int (own_step (own_n p1) (own_step (own_n p1) (0 : Int32) (p2 &&& (3 : Int32))) (((p2.toUInt32 >>> ((2 : Int32) &&& 31).toUInt32).toInt32) &&& (3 : Int32))))] [(.int (3 : Int32)), (.int ((p2.toUInt32 >>> ((4 : Int32) &&& 31).toUInt32).toInt32)), (.int (own_step (own_n p1) (own_step (own_n p1) (0 : Int32) (p2 &&& (3 : Int32))) (((p2.toUInt32 >>> ((2 : Int32) &&& 31).toUInt32).toInt32) &&& (3 : Int32)))), (.int (own_n p1)), (.ref b7)])) _
    refine XS.iand X50.here hx rfl (hb hby at_148) rfl ?_
    show Steps p.tables e below (T50.setTop (mkF m 149 #[.val (.int p1), .val (.int p2), .val (.int (own_n p1)), .val (.ref b1), .val (.ref b7), .val (.int (1 : Int32)), .val (.int (own_step (own_n p1) (own_step (own_n p1) (0 : Int32) (p2 &&& (3 : Int32))) (((p2.toUInt32 >>> ((2 : Int32) &&& 31).toUInt32).toInt32) &&& (3 : Int32))))] [(.int (((p2.toUInt32 >>> ((4 : Int32) &&& 31).toUInt32).toInt32) &&& (3 : Int32))), (.int (own_step (own_n p1) (own_step (own_n p1) (0 : Int32) (p2 &&& (3 : Int32))) (((p2.toUInt32 >>> ((2 : Int32) &&& 31).toUInt32).toInt32) &&& (3 : Int32)))), (.int (own_n p1)), (.ref b7)])) _
    refine st52.trans ?_
    show Steps p.tables e below (T52.setTop (mkF m 152 #[.val (.int p1), .val (.int p2), .val (.int (own_n p1)), .val (.ref b1), .val (.ref b7), .val (.int (1 : Int32)), .val (.int (own_step (own_n p1) (own_step (own_n p1) (0 : Int32) (p2 &&& (3 : Int32))) (((p2.toUInt32 >>> ((2 : Int32) &&& 31).toUInt32).toInt32) &&& (3 : Int32))))] [(.int (own_step (own_n p1) (own_step (own_n p1) (own_step (own_n p1) (0 : Int32) (p2 &&& (3 : Int32))) (((p2.toUInt32 >>> ((2 : Int32) &&& 31).toUInt32).toInt32) &&& (3 : Int32))) (((p2.toUInt32 >>> ((4 : Int32) &&& 31).toUInt32).toInt32) &&& (3 : Int32))))])) _
    refine XS.istore X52.here hx rfl (hb hby at_152) rfl (l' := #[.val (.int p1), .val (.int p2), .val (.int (own_n p1)), .val (.ref b1), .val (.ref b7), .val (.int (1 : Int32)), .val (.int (own_step (own_n p1) (own_step (own_n p1) (own_step (own_n p1) (0 : Int32) (p2 &&& (3 : Int32))) (((p2.toUInt32 >>> ((2 : Int32) &&& 31).toUInt32).toInt32) &&& (3 : Int32))) (((p2.toUInt32 >>> ((4 : Int32) &&& 31).toUInt32).toInt32) &&& (3 : Int32))))]) rfl ?_
    show Steps p.tables e below (T52.setTop (mkF m 154 #[.val (.int p1), .val (.int p2), .val (.int (own_n p1)), .val (.ref b1), .val (.ref b7), .val (.int (1 : Int32)), .val (.int (own_step (own_n p1) (own_step (own_n p1) (own_step (own_n p1) (0 : Int32) (p2 &&& (3 : Int32))) (((p2.toUInt32 >>> ((2 : Int32) &&& 31).toUInt32).toInt32) &&& (3 : Int32))) (((p2.toUInt32 >>> ((4 : Int32) &&& 31).toUInt32).toInt32) &&& (3 : Int32))))] [])) _
    refine XS.iload X52.here hx rfl (hb hby at_154) rfl ?_
    show Steps p.tables e below (T52.setTop (mkF m 156 #[.val (.int p1), .val (.int p2), .val (.int (own_n p1)), .val (.ref b1), .val (.ref b7), .val (.int (1 : Int32)), .val (.int (own_step (own_n p1) (own_step (own_n p1) (own_step (own_n p1) (0 : Int32) (p2 &&& (3 : Int32))) (((p2.toUInt32 >>> ((2 : Int32) &&& 31).toUInt32).toInt32) &&& (3 : Int32))) (((p2.toUInt32 >>> ((4 : Int32) &&& 31).toUInt32).toInt32) &&& (3 : Int32))))] [(.int (1 : Int32))])) _
    refine XS.ifNo X52.here hx rfl (hb hby at_156) rfl ((if0 _ _).trans (feq (by decide : ¬ ((1 : Int32) = (0 : Int32)))).1) ?_
    show Steps p.tables e below (T52.setTop (mkF m 159 #[.val (.int p1), .val (.int p2), .val (.int (own_n p1)), .val (.ref b1), .val (.ref b7), .val (.int (1 : Int32)), .val (.int (own_step (own_n p1) (own_step (own_n p1) (own_step (own_n p1) (0 : Int32) (p2 &&& (3 : Int32))) (((p2.toUInt32 >>> ((2 : Int32) &&& 31).toUInt32).toInt32) &&& (3 : Int32))) (((p2.toUInt32 >>> ((4 : Int32) &&& 31).toUInt32).toInt32) &&& (3 : Int32))))] [])) _
    refine XS.aload X52.here hx rfl (hb hby at_159) rfl rfl ?_
    show Steps p.tables e below (T52.setTop (mkF m 161 #[.val (.int p1), .val (.int p2), .val (.int (own_n p1)), .val (.ref b1), .val (.ref b7), .val (.int (1 : Int32)), .val (.int (own_step (own_n p1) (own_step (own_n p1) (own_step (own_n p1) (0 : Int32) (p2 &&& (3 : Int32))) (((p2.toUInt32 >>> ((2 : Int32) &&& 31).toUInt32).toInt32) &&& (3 : Int32))) (((p2.toUInt32 >>> ((4 : Int32) &&& 31).toUInt32).toInt32) &&& (3 : Int32))))] [(.ref b7)])) _
    refine st62.trans ?_
    show Steps p.tables e below (T62.setTop (mkF m 164 #[.val (.int p1), .val (.int p2), .val (.int (own_n p1)), .val (.ref b1), .val (.ref b7), .val (.int (1 : Int32)), .val (.int (own_step (own_n p1) (own_step (own_n p1) (own_step (own_n p1) (0 : Int32) (p2 &&& (3 : Int32))) (((p2.toUInt32 >>> ((2 : Int32) &&& 31).toUInt32).toInt32) &&& (3 : Int32))) (((p2.toUInt32 >>> ((4 : Int32) &&& 31).toUInt32).toInt32) &&& (3 : Int32))))] [(.int (f_has (own_step (own_n p1) (own_step (own_n p1) (own_step (own_n p1) (0 : Int32) (p2 &&& (3 : Int32))) (((p2.toUInt32 >>> ((2 : Int32) &&& 31).toUInt32).toInt32) &&& (3 : Int32))) (((p2.toUInt32 >>> ((4 : Int32) &&& 31).toUInt32).toInt32) &&& (3 : Int32))) (own_n p1)))])) _
    refine XS.iload X62.here hx rfl (hb hby at_164) rfl ?_
    refine XS.iloadN X62.here hx rfl (hb hby at_166) rfl ?_
    show Steps p.tables e below (T62.setTop (mkF m 167 #[.val (.int p1), .val (.int p2), .val (.int (own_n p1)), .val (.ref b1), .val (.ref b7), .val (.int (1 : Int32)), .val (.int (own_step (own_n p1) (own_step (own_n p1) (own_step (own_n p1) (0 : Int32) (p2 &&& (3 : Int32))) (((p2.toUInt32 >>> ((2 : Int32) &&& 31).toUInt32).toInt32) &&& (3 : Int32))) (((p2.toUInt32 >>> ((4 : Int32) &&& 31).toUInt32).toInt32) &&& (3 : Int32))))] [(.int (own_n p1)), (.int (own_step (own_n p1) (own_step (own_n p1) (own_step (own_n p1) (0 : Int32) (p2 &&& (3 : Int32))) (((p2.toUInt32 >>> ((2 : Int32) &&& 31).toUInt32).toInt32) &&& (3 : Int32))) (((p2.toUInt32 >>> ((4 : Int32) &&& 31).toUInt32).toInt32) &&& (3 : Int32)))), (.int (f_has (own_step (own_n p1) (own_step (own_n p1) (own_step (own_n p1) (0 : Int32) (p2 &&& (3 : Int32))) (((p2.toUInt32 >>> ((2 : Int32) &&& 31).toUInt32).toInt32) &&& (3 : Int32))) (((p2.toUInt32 >>> ((4 : Int32) &&& 31).toUInt32).toInt32) &&& (3 : Int32))) (own_n p1)))])) _
    refine XS.icmpYes X62.here hx rfl (pc0 := 167) (pc' := 174) rfl (hb hby at_167) rfl (flt hc6).2.1 (by decide) (by decide) ?_
    show Steps p.tables e below (T62.setTop (mkF m 174 #[.val (.int p1), .val (.int p2), .val (.int (own_n p1)), .val (.ref b1), .val (.ref b7), .val (.int (1 : Int32)), .val (.int (own_step (own_n p1) (own_step (own_n p1) (own_step (own_n p1) (0 : Int32) (p2 &&& (3 : Int32))) (((p2.toUInt32 >>> ((2 : Int32) &&& 31).toUInt32).toInt32) &&& (3 : Int32))) (((p2.toUInt32 >>> ((4 : Int32) &&& 31).toUInt32).toInt32) &&& (3 : Int32))))] [(.int (f_has (own_step (own_n p1) (own_step (own_n p1) (own_step (own_n p1) (0 : Int32) (p2 &&& (3 : Int32))) (((p2.toUInt32 >>> ((2 : Int32) &&& 31).toUInt32).toInt32) &&& (3 : Int32))) (((p2.toUInt32 >>> ((4 : Int32) &&& 31).toUInt32).toInt32) &&& (3 : Int32))) (own_n p1)))])) _
    refine XS.iconst X62.here hx rfl (hb hby at_174) ?_
    show Steps p.tables e below (T62.setTop (mkF m 175 #[.val (.int p1), .val (.int p2), .val (.int (own_n p1)), .val (.ref b1), .val (.ref b7), .val (.int (1 : Int32)), .val (.int (own_step (own_n p1) (own_step (own_n p1) (own_step (own_n p1) (0 : Int32) (p2 &&& (3 : Int32))) (((p2.toUInt32 >>> ((2 : Int32) &&& 31).toUInt32).toInt32) &&& (3 : Int32))) (((p2.toUInt32 >>> ((4 : Int32) &&& 31).toUInt32).toInt32) &&& (3 : Int32))))] [(.int (0 : Int32)), (.int (f_has (own_step (own_n p1) (own_step (own_n p1) (own_step (own_n p1) (0 : Int32) (p2 &&& (3 : Int32))) (((p2.toUInt32 >>> ((2 : Int32) &&& 31).toUInt32).toInt32) &&& (3 : Int32))) (((p2.toUInt32 >>> ((4 : Int32) &&& 31).toUInt32).toInt32) &&& (3 : Int32))) (own_n p1)))])) _
    refine XS.icmpNo X62.here hx rfl (hb hby at_175) rfl (teq hc7).2 ?_
    show Steps p.tables e below (T62.setTop (mkF m 178 #[.val (.int p1), .val (.int p2), .val (.int (own_n p1)), .val (.ref b1), .val (.ref b7), .val (.int (1 : Int32)), .val (.int (own_step (own_n p1) (own_step (own_n p1) (own_step (own_n p1) (0 : Int32) (p2 &&& (3 : Int32))) (((p2.toUInt32 >>> ((2 : Int32) &&& 31).toUInt32).toInt32) &&& (3 : Int32))) (((p2.toUInt32 >>> ((4 : Int32) &&& 31).toUInt32).toInt32) &&& (3 : Int32))))] [])) _
    refine XS.iconst X62.here hx rfl (hb hby at_178) ?_
    show Steps p.tables e below (T62.setTop (mkF m 179 #[.val (.int p1), .val (.int p2), .val (.int (own_n p1)), .val (.ref b1), .val (.ref b7), .val (.int (1 : Int32)), .val (.int (own_step (own_n p1) (own_step (own_n p1) (own_step (own_n p1) (0 : Int32) (p2 &&& (3 : Int32))) (((p2.toUInt32 >>> ((2 : Int32) &&& 31).toUInt32).toInt32) &&& (3 : Int32))) (((p2.toUInt32 >>> ((4 : Int32) &&& 31).toUInt32).toInt32) &&& (3 : Int32))))] [(.int (1 : Int32))])) _
    refine XS.goto X62.here hx rfl (pc0 := 179) (pc' := 183) rfl (hb hby at_179) (by decide) (by decide) ?_
    show Steps p.tables e below (T62.setTop (mkF m 183 #[.val (.int p1), .val (.int p2), .val (.int (own_n p1)), .val (.ref b1), .val (.ref b7), .val (.int (1 : Int32)), .val (.int (own_step (own_n p1) (own_step (own_n p1) (own_step (own_n p1) (0 : Int32) (p2 &&& (3 : Int32))) (((p2.toUInt32 >>> ((2 : Int32) &&& 31).toUInt32).toInt32) &&& (3 : Int32))) (((p2.toUInt32 >>> ((4 : Int32) &&& 31).toUInt32).toInt32) &&& (3 : Int32))))] [(.int (1 : Int32))])) _
    refine XS.istore X62.here hx rfl (hb hby at_183) rfl (l' := #[.val (.int p1), .val (.int p2), .val (.int (own_n p1)), .val (.ref b1), .val (.ref b7), .val (.int (1 : Int32)), .val (.int (own_step (own_n p1) (own_step (own_n p1) (own_step (own_n p1) (0 : Int32) (p2 &&& (3 : Int32))) (((p2.toUInt32 >>> ((2 : Int32) &&& 31).toUInt32).toInt32) &&& (3 : Int32))) (((p2.toUInt32 >>> ((4 : Int32) &&& 31).toUInt32).toInt32) &&& (3 : Int32))))]) rfl ?_
    show Steps p.tables e below (T62.setTop (mkF m 185 #[.val (.int p1), .val (.int p2), .val (.int (own_n p1)), .val (.ref b1), .val (.ref b7), .val (.int (1 : Int32)), .val (.int (own_step (own_n p1) (own_step (own_n p1) (own_step (own_n p1) (0 : Int32) (p2 &&& (3 : Int32))) (((p2.toUInt32 >>> ((2 : Int32) &&& 31).toUInt32).toInt32) &&& (3 : Int32))) (((p2.toUInt32 >>> ((4 : Int32) &&& 31).toUInt32).toInt32) &&& (3 : Int32))))] [])) _
    refine XS.iload X62.here hx rfl (hb hby at_185) rfl ?_
    show Steps p.tables e below (T62.setTop (mkF m 187 #[.val (.int p1), .val (.int p2), .val (.int (own_n p1)), .val (.ref b1), .val (.ref b7), .val (.int (1 : Int32)), .val (.int (own_step (own_n p1) (own_step (own_n p1) (own_step (own_n p1) (0 : Int32) (p2 &&& (3 : Int32))) (((p2.toUInt32 >>> ((2 : Int32) &&& 31).toUInt32).toInt32) &&& (3 : Int32))) (((p2.toUInt32 >>> ((4 : Int32) &&& 31).toUInt32).toInt32) &&& (3 : Int32))))] [(.int (1 : Int32))])) _
    exact retN X62 hx (t := .boolean) Bd.returns (by simp) (hb hby at_187) hr
  · show Q_law Z p1 p2 s_F s_C h0 n0 _ T62.heap _
    rw [e62]
    exact ⟨rfl, N63⟩
  · show CHr Z consts_1 s.vm s.heap T62.vm T62.heap
    rw [hh, e62]
    exact CR.trans (CHv.at X62 hZ hEW CR.1)
def Road_r2 (Z : State) (h0 : Heap) (p1 : Int32) (p2 : Int32) (s_F : Value) (s_C : Addr) : Prop := (Sta Z h0 "jdk/internal/util/Preconditions" "SIOOBE_FORMATTER" "Ljava/util/function/BiFunction;" s_F) ∧ (s_F.isRef = true) ∧ (Sta Z h0 "java/nio/charset/StandardCharsets" "ISO_8859_1" "Ljava/nio/charset/Charset;" (.ref s_C)) ∧ (Exa Z h0 s_C "sun/nio/cs/ISO_8859_1") ∧ (¬ ((own_n p1) < (0 : Int32))) ∧ ((own_n p1).toNatClampNeg ≤ 16) ∧ ((0 : Int32).toInt ≤ (own_n p1).toInt) ∧ ((own_n p1).toInt ≤ 16) ∧ ((p2 &&& (3 : Int32)) = (0 : Int32) ∨ (p2 &&& (3 : Int32)) = (1 : Int32) ∨ (p2 &&& (3 : Int32)) = (2 : Int32) ∨ (p2 &&& (3 : Int32)) = (3 : Int32)) ∧ (0 ≤ (own_step (own_n p1) (0 : Int32) (p2 &&& (3 : Int32))).toInt) ∧ ((own_step (own_n p1) (0 : Int32) (p2 &&& (3 : Int32))).toInt ≤ (own_n p1).toInt) ∧ ((((p2.toUInt32 >>> ((2 : Int32) &&& 31).toUInt32).toInt32) &&& (3 : Int32)) = (0 : Int32) ∨ (((p2.toUInt32 >>> ((2 : Int32) &&& 31).toUInt32).toInt32) &&& (3 : Int32)) = (1 : Int32) ∨ (((p2.toUInt32 >>> ((2 : Int32) &&& 31).toUInt32).toInt32) &&& (3 : Int32)) = (2 : Int32) ∨ (((p2.toUInt32 >>> ((2 : Int32) &&& 31).toUInt32).toInt32) &&& (3 : Int32)) = (3 : Int32)) ∧ (0 ≤ (own_step (own_n p1) (own_step (own_n p1) (0 : Int32) (p2 &&& (3 : Int32))) (((p2.toUInt32 >>> ((2 : Int32) &&& 31).toUInt32).toInt32) &&& (3 : Int32))).toInt) ∧ ((own_step (own_n p1) (own_step (own_n p1) (0 : Int32) (p2 &&& (3 : Int32))) (((p2.toUInt32 >>> ((2 : Int32) &&& 31).toUInt32).toInt32) &&& (3 : Int32))).toInt ≤ (own_n p1).toInt) ∧ ((((p2.toUInt32 >>> ((4 : Int32) &&& 31).toUInt32).toInt32) &&& (3 : Int32)) = (0 : Int32) ∨ (((p2.toUInt32 >>> ((4 : Int32) &&& 31).toUInt32).toInt32) &&& (3 : Int32)) = (1 : Int32) ∨ (((p2.toUInt32 >>> ((4 : Int32) &&& 31).toUInt32).toInt32) &&& (3 : Int32)) = (2 : Int32) ∨ (((p2.toUInt32 >>> ((4 : Int32) &&& 31).toUInt32).toInt32) &&& (3 : Int32)) = (3 : Int32)) ∧ ((0 : Int32) < (own_n p1)) ∧ ((f_has (0 : Int32) (own_n p1)) = (1 : Int32)) ∧ ((own_step (own_n p1) (0 : Int32) (p2 &&& (3 : Int32))) < (own_n p1)) ∧ ((f_has (own_step (own_n p1) (0 : Int32) (p2 &&& (3 : Int32))) (own_n p1)) = (1 : Int32)) ∧ (¬ ((own_step (own_n p1) (own_step (own_n p1) (0 : Int32) (p2 &&& (3 : Int32))) (((p2.toUInt32 >>> ((2 : Int32) &&& 31).toUInt32).toInt32) &&& (3 : Int32))) < (own_n p1))) ∧ ((f_has (own_step (own_n p1) (own_step (own_n p1) (0 : Int32) (p2 &&& (3 : Int32))) (((p2.toUInt32 >>> ((2 : Int32) &&& 31).toUInt32).toInt32) &&& (3 : Int32))) (own_n p1)) = (0 : Int32)) ∧ (¬ ((own_step (own_n p1) (own_step (own_n p1) (own_step (own_n p1) (0 : Int32) (p2 &&& (3 : Int32))) (((p2.toUInt32 >>> ((2 : Int32) &&& 31).toUInt32).toInt32) &&& (3 : Int32))) (((p2.toUInt32 >>> ((4 : Int32) &&& 31).toUInt32).toInt32) &&& (3 : Int32))) < (own_n p1))) ∧ ((f_has (own_step (own_n p1) (own_step (own_n p1) (own_step (own_n p1) (0 : Int32) (p2 &&& (3 : Int32))) (((p2.toUInt32 >>> ((2 : Int32) &&& 31).toUInt32).toInt32) &&& (3 : Int32))) (((p2.toUInt32 >>> ((4 : Int32) &&& 31).toUInt32).toInt32) &&& (3 : Int32))) (own_n p1)) = (0 : Int32))
set_option maxRecDepth 65536 in
set_option maxHeartbeats 40000000 in
theorem rm_law_r2 (l : Launch) (Z : State) (a0 : Array Value) (hw : ∀ d ∈ tables_1, d.before a0 Z = true) (ws : List Jvm.Cond) (p1 : Int32) (p2 : Int32) (s_F : Value) (s_C : Addr) (h0 : Heap) (n0 : Nat) (Z0 : n0 ≤ h0.size) (hroad : Road_r2 Z h0 p1 p2 s_F s_C) :
    MetFree l x (head1 (Jvm.Cond.code x code maxLocals ret :: ws) room_1) (fun a U => a = #[(.int p1), (.int p2)] ∧ Z.Warmed39 U.vm ∧ U.heap = h0 ∧ CHv Z consts_1 U.vm h0) (fun _ _ _ _ _ => True) (fun _ U o U' => ∃ v L, o = .returned v ∧ Q_law Z p1 p2 s_F s_C h0 n0 v U'.heap L ∧ CHr Z consts_1 U.vm U.heap U'.vm U'.heap ∧ ReturnedEndW U o U' L room_1.cells room_1.slots) := by
  obtain ⟨S_SIOOBE_FORMATTER, hsr, S_ISO_8859_1, E_s_C, hp1, hp2, hp3, hp4, hp5, hp6, hp7, hp8, hp9, hp10, hp11, hc0, hc1, hc2, hc3, hc4, hc5, hc6, hc7⟩ := hroad
  refine MetFree.of_bodySF (plainFor_of_name pn_com_example_fieldstone_fieldstone_core_KeyReaderHasRemainingPinLaw) hisR ?_
  intro p e s m args below meth c s₁ Bd hml0 hP hK
  obtain ⟨rfl, hZ, hh, CH0⟩ := hP
  have hx := Bd.exec
  have hby := Bd.bytes
  have hml : c.maxLocals = 7 := hml0
  have hown : s.vm.findClass "com/example/fieldstone/fieldstone/core/KeyReaderHasRemainingPinLaw" = some m.cls := findClass_of_methodNamed Bd.named
  have hnm := (name_of_methodNamed Bd.named Bd.method).1
  have X0 : Stand p l e room_1 s m #[(.int p1), (.int p2)] below meth c s₁ [] 0 0 := Stand.of_body Bd
  have e0 : s₁.heap = h0 := by rw [← hh, Bd.state]; rfl
  have N0 := Fr.nil n0
  have hZ : Z.Warmed39 (s.setVm s.vm).vm := hZ
  have hown : (s.setVm s.vm).vm.findClass "com/example/fieldstone/fieldstone/core/KeyReaderHasRemainingPinLaw" = some m.cls := hown
  have hZ0 := hZ
  have hown0 := hown
  have X0 : Stand p l e room_1 (s.setVm s.vm) m #[(.int p1), (.int p2)] below meth c s₁ [] 0 0 := X0
  have hS : s.Since s.vm h0.size := own_since s _
  have hk : h0.size ≤ h0.size := Nat.le_refl _
  have hEW := own_EW hw
  have CR : CHr Z consts_1 s.vm h0 s.vm h0 := CHr.refl CH0
  have pre0 : ∀ t, Steps p.tables e below (s₁.setTop (mkF m 0 #[.val (.int p1), .val (.int p2), .unset, .unset, .unset, .unset, .unset] [])) t → Steps p.tables e below (s₁.setTop (entryFrame m #[(.int p1), (.int p2)] maxLocals)) t := fun t k => castTop (ef_0_II m p1 p2) k
  obtain ⟨T1, h1, k1, X1, e1, E1, A1, Ex1, st1⟩ := newPE X0 hx hZ (hw _ (List.mem_of_getElem? (i := 1) rfl)) e0 (g := (mkF m 9 #[.val (.int p1), .val (.int p2), .val (.int (own_n p1)), .unset, .unset, .unset, .unset] [(.int (own_n p1))])) rfl (hb hby at_9) rfl hp1 (cap := 16) hp2 (by decide) (by decide) (by decide) (ad := "[B") (by decide)
  obtain ⟨b1, g1⟩ : ∃ z, z = h0.size := ⟨_, rfl⟩
  rw [← g1] at A1 Ex1 st1
  have g_b1 : n0 ≤ b1 := Nat.le_trans Z0 (Nat.le_of_eq g1.symm)
  have ne_s_C_b1 : s_C ≠ b1 := Nat.ne_of_lt (Nat.lt_of_lt_of_le E_s_C.lt (Nat.le_of_eq g1.symm))
  have CR := CR.trans (CHr.ext E1 CR.1)
  have f2 : Sta Z h1 "jdk/internal/util/Preconditions" "SIOOBE_FORMATTER" "Ljava/util/function/BiFunction;" s_F := S_SIOOBE_FORMATTER.ext E1
  have f3 : Sta Z h1 "java/nio/charset/StandardCharsets" "ISO_8859_1" "Ljava/nio/charset/Charset;" (.ref s_C) := S_ISO_8859_1.ext E1
  have f4 : Exa Z h1 s_C "sun/nio/cs/ISO_8859_1" := E_s_C.ext E1
  have hk : _ ≤ h1.size := Nat.le_trans hk E1.1
  have Zs5 : n0 ≤ h1.size := Nat.le_trans Z0 E1.1
  have f6 : Arv Z h1 b1 k1 .byte (own_n p1) (List.replicate 16 (Value.int (0 : Int32))) (.int (0 : Int32)) := (Arv.new A1 hp1).pad (pad_rep [] (.int (0 : Int32)) 16)
  obtain ⟨T7, h7, X7, e7, E7, A7, D7, -, st7⟩ := newO X1 hx hZ hown (hw _ (List.mem_of_getElem? (i := 2) rfl)) (hw _ (List.mem_of_getElem? (i := 3) rfl)) (hw _ (List.mem_of_getElem? (i := 4) rfl)) e1 (g := (mkF m 12 #[.val (.int p1), .val (.int p2), .val (.int (own_n p1)), .val (.ref b1), .unset, .unset, .unset] [])) rfl (hb hby at_12) (by decide) (by decide)
  obtain ⟨b7, g7⟩ : ∃ z, z = h1.size := ⟨_, rfl⟩
  rw [← g7] at A7 D7 st7
  have g_b7 : n0 ≤ b7 := Nat.le_trans Zs5 (Nat.le_of_eq g7.symm)
  have ne_s_C_b7 : s_C ≠ b7 := Nat.ne_of_lt (Nat.lt_of_lt_of_le f4.lt (Nat.le_of_eq g7.symm))
  have ne_b1_b7 : b1 ≠ b7 := Nat.ne_of_lt (Nat.lt_of_lt_of_le Ex1.lt (Nat.le_of_eq g7.symm))
  have CR := CR.trans (CHr.ext E7 CR.1)
  have f8 : Sta Z h7 "jdk/internal/util/Preconditions" "SIOOBE_FORMATTER" "Ljava/util/function/BiFunction;" s_F := f2.ext E7
  have f9 : Sta Z h7 "java/nio/charset/StandardCharsets" "ISO_8859_1" "Ljava/nio/charset/Charset;" (.ref s_C) := f3.ext E7
  have f10 : Exa Z h7 s_C "sun/nio/cs/ISO_8859_1" := f4.ext E7
  have f11 : Exa Z h7 b1 "[B" := Ex1.ext E7
  have f12 : Arv Z h7 b1 k1 .byte (own_n p1) (List.replicate 16 (Value.int (0 : Int32))) (.int (0 : Int32)) := f6.ext E7
  have hk : _ ≤ h7.size := Nat.le_trans hk E7.1
  have Zs13 : n0 ≤ h7.size := Nat.le_trans Zs5 E7.1
  have f14 : Fld Z h7 b7 "com/example/fieldstone/fieldstone/core/KeyReader" "key" "[B" .null := D7 (Or.inr (hw _ (List.mem_of_getElem? (i := 25) rfl))) (ty := (.array .byte)) (by decide)
  have f15 : Fld Z h7 b7 "com/example/fieldstone/fieldstone/core/KeyReader" "position" "I" (.int (0 : Int32)) := D7 (Or.inl (hw _ (List.mem_of_getElem? (i := 32) rfl))) (ty := .int) (by decide)
  obtain ⟨_, _, ⟨T16, L16, k16, n16⟩, -, X16, hS16, hg16, ⟨Lc16, hQ16, l16, y16, z16, CR16⟩, st16⟩ := X7.specialBackS hx (y := (⟨"com/example/fieldstone/fieldstone/core/KeyReader", "<init>", "([B)V"⟩ : MethodName)) rfl hown (mvT hZ (hw _ (List.mem_of_getElem? (i := 5) rfl))) (mvT hZ (hw _ (List.mem_of_getElem? (i := 6) rfl))) (mvT hZ (hw _ (List.mem_of_getElem? (i := 7) rfl))) (by decide) (backOfSH (W := 1) (rm_init l Z a0 hw [] b7 b1 h7 n0 Zs13 f11 A7 f14 g_b7 f15) hZ (hw _ (List.mem_of_getElem? (i := 7) rfl)) (hw _ (List.mem_of_getElem? (i := 4) rfl)) (by decide) (by decide) hEW CR.1) (g := (mkF m 17 #[.val (.int p1), .val (.int p2), .val (.int (own_n p1)), .val (.ref b1), .unset, .unset, .unset] [(.ref b1), (.ref b7), (.ref b7)])) rfl (by rw [hml]; rfl) (Steps.refl _) (a := b7) (argsL := [(.ref b1)]) (rest := [(.ref b7)]) (lenOf pd_11 rfl) rfl (by show 2 * 0 + _ ≤ _; exact Nat.le_of_eq rfl) (hb hby at_17) (fun _ _ => ⟨rfl, e7, (by decide : 2 + 2 ≤ _), (by decide : 18 + 16 ≤ _)⟩)
  dsimp only [Pt.U, Pt.locs, Pt.cells, Pt.slots] at X16 l16 y16 z16 st16 hQ16 hS16 hg16 CR16
  subst l16 y16 z16
  rw [e7] at hg16
  obtain ⟨X16, hS, hZ, hown⟩ := rebS hS hk X16 hS16 hg16 hZ hown
  have hZ16 := hZ
  have hown16 := hown
  have hk : _ ≤ T16.heap.size := Nat.le_refl _
  have CR := CR.trans CR16
  obtain ⟨rfl, Nq16, Kc16, fq16_0, fq16_1, fq16_2⟩ := hQ16
  have f18 : Sta Z T16.heap "jdk/internal/util/Preconditions" "SIOOBE_FORMATTER" "Ljava/util/function/BiFunction;" s_F := own_sta_keep f8 Kc16 (allS (own_plain_cell A7) all0)
  have f19 : Sta Z T16.heap "java/nio/charset/StandardCharsets" "ISO_8859_1" "Ljava/nio/charset/Charset;" (.ref s_C) := own_sta_keep f9 Kc16 (allS (own_plain_cell A7) all0)
  have f20 : Exa Z T16.heap s_C "sun/nio/cs/ISO_8859_1" := f10.keep Kc16
  have f21 : Exa Z T16.heap b1 "[B" := f11.keep Kc16
  have f22 : Arv Z T16.heap b1 k1 .byte (own_n p1) (List.replicate 16 (Value.int (0 : Int32))) (.int (0 : Int32)) := f12.keep Kc16 (ninS ne_b1_b7 nin0)
  have f23 : Fld Z T16.heap b7 "com/example/fieldstone/fieldstone/core/KeyReader" "key" "[B" (.ref b1) := fq16_1
  have f24 : Fld Z T16.heap b7 "com/example/fieldstone/fieldstone/core/KeyReader" "position" "I" (.int (0 : Int32)) := fq16_2
  have Zs25 : n0 ≤ T16.heap.size := Nat.le_trans Zs13 Kc16.1
  have N17 := Fr.app N0 Nq16
  obtain ⟨cq26, kq26, q26a, q26b, q26c⟩ := isOf hZ rfl fq16_0
  obtain ⟨_, _, ⟨T26, L26, k26, n26⟩, -, X26, ⟨Lc26, hQ26, l26, y26, z26⟩, st26⟩ := X16.virtualBack hx (y := (⟨"com/example/fieldstone/fieldstone/core/KeyReader", "hasRemaining", "()Z"⟩ : MethodName)) (z := (⟨"com/example/fieldstone/fieldstone/core/KeyReader", "hasRemaining", "()Z"⟩ : MethodName)) hown (mvT hZ (hw _ (List.mem_of_getElem? (i := 26) rfl))) (mvT hZ (hw _ (List.mem_of_getElem? (i := 27) rfl))) (notFace_of_selects (args := #[]) (mvT hZ (hw _ (List.mem_of_getElem? (i := 29) rfl)))) (mvT hZ (hw _ (List.mem_of_getElem? (i := 29) rfl))) (mvT hZ (hw _ (List.mem_of_getElem? (i := 28) rfl))) (by decide) (backOf (W := 0) (rm_has l Z a0 hw [] b7 (0 : Int32) b1 k1 (own_n p1) (List.replicate 16 (Value.int (0 : Int32))) T16.heap n0 Zs25 f24 f23 f22) hZ (hw _ (List.mem_of_getElem? (i := 30) rfl)) (hw _ (List.mem_of_getElem? (i := 4) rfl)) (by decide) (by decide)) q26a q26c (g := (mkF m 24 #[.val (.int p1), .val (.int p2), .val (.int (own_n p1)), .val (.ref b1), .val (.ref b7), .unset, .unset] [(.ref b7)])) rfl (by rw [hml]; rfl) (Steps.refl _) (argsL := []) (rest := []) (lenOf pd_7 rfl) rfl (by show 2 * 0 + _ ≤ _; exact Nat.le_of_eq rfl) (hb hby at_24) (fun _ _ => ⟨rfl, rfl, (by decide : 4 + 0 ≤ _), (by decide : 34 + 0 ≤ _)⟩)
  dsimp only [Pt.U, Pt.locs, Pt.cells, Pt.slots] at X26 l26 y26 z26 st26 hQ26
  subst l26 y26 z26
  obtain ⟨rfl, Nq26, e26⟩ := hQ26
  have N27 := Fr.app N17 Nq26
  obtain ⟨_, _, ⟨T28, L28, k28, n28⟩, -, X28, hS28, hg28, ⟨Lc28, hQ28, l28, y28, z28, CR28⟩, st28⟩ := Jvm.RoadKit.callSS X26 hx (y := (⟨"com/example/fieldstone/fieldstone/core/KeyReaderHasRemainingPinLaw", "step", "(Lcom/example/fieldstone/fieldstone/core/KeyReader;III)I"⟩ : MethodName)) hown (mvT hZ (hw _ (List.mem_of_getElem? (i := 33) rfl))) (mvT hZ (hw _ (List.mem_of_getElem? (i := 34) rfl))) (mvT hZ (hw _ (List.mem_of_getElem? (i := 35) rfl))) (mvT hZ (hw _ (List.mem_of_getElem? (i := 36) rfl))) (by decide) (backOfSH (W := 0) (rm_step l Z a0 hw [] b7 (own_n p1) (0 : Int32) (p2 &&& (3 : Int32)) b1 k1 s_F s_C T16.heap n0 Zs25 f23 f21 f22 f24 fq16_0 g_b7 f18 hsr f19 f20 (by decide) hp3 hp4 hp5) hZ (hw _ (List.mem_of_getElem? (i := 36) rfl)) (hw _ (List.mem_of_getElem? (i := 35) rfl)) (by decide) (by decide) hEW CR.1) (g := (mkF m 57 #[.val (.int p1), .val (.int p2), .val (.int (own_n p1)), .val (.ref b1), .val (.ref b7), .val (.int (1 : Int32)), .val (.int (0 : Int32))] [(.int (p2 &&& (3 : Int32))), (.int (0 : Int32)), (.int (own_n p1)), (.ref b7)])) rfl (by rw [hml]; rfl) (argsL := [(.ref b7), (.int (own_n p1)), (.int (0 : Int32)), (.int (p2 &&& (3 : Int32)))]) (rest := []) (lenOf pd_12 rfl) rfl (by show 2 * 0 + _ ≤ _; exact Nat.le_of_eq rfl) (hb hby at_57) (fun _ _ => ⟨rfl, e26, (by decide : 4 + 5 ≤ _), (by decide : 34 + 12 ≤ _)⟩)
  dsimp only [Pt.U, Pt.locs, Pt.cells, Pt.slots] at X28 l28 y28 z28 st28 hQ28 hS28 hg28 CR28
  subst l28 y28 z28
  rw [e26] at hg28
  obtain ⟨X28, hS, hZ, hown⟩ := rebS hS hk X28 hS28 hg28 hZ hown
  have hZ28 := hZ
  have hown28 := hown
  have hk : _ ≤ T28.heap.size := Nat.le_refl _
  have CR := CR.trans CR28
  obtain ⟨rfl, Nq28, Kc28, fq28_0, fq28_1, fq28_2⟩ := hQ28
  have f30 : Sta Z T28.heap "jdk/internal/util/Preconditions" "SIOOBE_FORMATTER" "Ljava/util/function/BiFunction;" s_F := own_sta_keep f18 Kc28 (allS (own_plain_cell fq16_0) all0)
  have f31 : Sta Z T28.heap "java/nio/charset/StandardCharsets" "ISO_8859_1" "Ljava/nio/charset/Charset;" (.ref s_C) := own_sta_keep f19 Kc28 (allS (own_plain_cell fq16_0) all0)
  have f32 : Exa Z T28.heap s_C "sun/nio/cs/ISO_8859_1" := f20.keep Kc28
  have f33 : Exa Z T28.heap b1 "[B" := f21.keep Kc28
  have f34 : Arv Z T28.heap b1 k1 .byte (own_n p1) (List.replicate 16 (Value.int (0 : Int32))) (.int (0 : Int32)) := f22.keep Kc28 (ninS ne_b1_b7 nin0)
  have f35 : Fld Z T28.heap b7 "com/example/fieldstone/fieldstone/core/KeyReader" "key" "[B" (.ref b1) := fq28_1
  have f36 : Fld Z T28.heap b7 "com/example/fieldstone/fieldstone/core/KeyReader" "position" "I" (.int (own_step (own_n p1) (0 : Int32) (p2 &&& (3 : Int32)))) := fq28_2
  have Zs37 : n0 ≤ T28.heap.size := Nat.le_trans Zs25 Kc28.1
  have N29 := Fr.app N27 Nq28
  obtain ⟨cq38, kq38, q38a, q38b, q38c⟩ := isOf hZ rfl fq28_0
  obtain ⟨_, _, ⟨T38, L38, k38, n38⟩, -, X38, ⟨Lc38, hQ38, l38, y38, z38⟩, st38⟩ := X28.virtualBack hx (y := (⟨"com/example/fieldstone/fieldstone/core/KeyReader", "hasRemaining", "()Z"⟩ : MethodName)) (z := (⟨"com/example/fieldstone/fieldstone/core/KeyReader", "hasRemaining", "()Z"⟩ : MethodName)) hown (mvT hZ (hw _ (List.mem_of_getElem? (i := 26) rfl))) (mvT hZ (hw _ (List.mem_of_getElem? (i := 27) rfl))) (notFace_of_selects (args := #[]) (mvT hZ (hw _ (List.mem_of_getElem? (i := 29) rfl)))) (mvT hZ (hw _ (List.mem_of_getElem? (i := 29) rfl))) (mvT hZ (hw _ (List.mem_of_getElem? (i := 28) rfl))) (by decide) (backOf (W := 0) (rm_has l Z a0 hw [] b7 (own_step (own_n p1) (0 : Int32) (p2 &&& (3 : Int32))) b1 k1 (own_n p1) (List.replicate 16 (Value.int (0 : Int32))) T28.heap n0 Zs37 f36 f35 f34) hZ (hw _ (List.mem_of_getElem? (i := 30) rfl)) (hw _ (List.mem_of_getElem? (i := 4) rfl)) (by decide) (by decide)) q38a q38c (g := (mkF m 69 #[.val (.int p1), .val (.int p2), .val (.int (own_n p1)), .val (.ref b1), .val (.ref b7), .val (.int (1 : Int32)), .val (.int (own_step (own_n p1) (0 : Int32) (p2 &&& (3 : Int32))))] [(.ref b7)])) rfl (by rw [hml]; rfl) (Steps.refl _) (argsL := []) (rest := []) (lenOf pd_7 rfl) rfl (by show 2 * 0 + _ ≤ _; exact Nat.le_of_eq rfl) (hb hby at_69) (fun _ _ => ⟨rfl, rfl, (by decide : 9 + 0 ≤ _), (by decide : 46 + 0 ≤ _)⟩)
  dsimp only [Pt.U, Pt.locs, Pt.cells, Pt.slots] at X38 l38 y38 z38 st38 hQ38
  subst l38 y38 z38
  obtain ⟨rfl, Nq38, e38⟩ := hQ38
  have N39 := Fr.app N29 Nq38
  obtain ⟨_, _, ⟨T40, L40, k40, n40⟩, -, X40, hS40, hg40, ⟨Lc40, hQ40, l40, y40, z40, CR40⟩, st40⟩ := Jvm.RoadKit.callSS X38 hx (y := (⟨"com/example/fieldstone/fieldstone/core/KeyReaderHasRemainingPinLaw", "step", "(Lcom/example/fieldstone/fieldstone/core/KeyReader;III)I"⟩ : MethodName)) hown (mvT hZ (hw _ (List.mem_of_getElem? (i := 33) rfl))) (mvT hZ (hw _ (List.mem_of_getElem? (i := 34) rfl))) (mvT hZ (hw _ (List.mem_of_getElem? (i := 35) rfl))) (mvT hZ (hw _ (List.mem_of_getElem? (i := 36) rfl))) (by decide) (backOfSH (W := 0) (rm_step l Z a0 hw [] b7 (own_n p1) (own_step (own_n p1) (0 : Int32) (p2 &&& (3 : Int32))) (((p2.toUInt32 >>> ((2 : Int32) &&& 31).toUInt32).toInt32) &&& (3 : Int32)) b1 k1 s_F s_C T28.heap n0 Zs37 f35 f33 f34 f36 fq28_0 g_b7 f30 hsr f31 f32 hp6 hp7 hp4 hp8) hZ (hw _ (List.mem_of_getElem? (i := 36) rfl)) (hw _ (List.mem_of_getElem? (i := 35) rfl)) (by decide) (by decide) hEW CR.1) (g := (mkF m 103 #[.val (.int p1), .val (.int p2), .val (.int (own_n p1)), .val (.ref b1), .val (.ref b7), .val (.int (1 : Int32)), .val (.int (own_step (own_n p1) (0 : Int32) (p2 &&& (3 : Int32))))] [(.int (((p2.toUInt32 >>> ((2 : Int32) &&& 31).toUInt32).toInt32) &&& (3 : Int32))), (.int (own_step (own_n p1) (0 : Int32) (p2 &&& (3 : Int32)))), (.int (own_n p1)), (.ref b7)])) rfl (by rw [hml]; rfl) (argsL := [(.ref b7), (.int (own_n p1)), (.int (own_step (own_n p1) (0 : Int32) (p2 &&& (3 : Int32)))), (.int (((p2.toUInt32 >>> ((2 : Int32) &&& 31).toUInt32).toInt32) &&& (3 : Int32)))]) (rest := []) (lenOf pd_12 rfl) rfl (by show 2 * 0 + _ ≤ _; exact Nat.le_of_eq rfl) (hb hby at_103) (fun _ _ => ⟨rfl, e38, (by decide : 9 + 5 ≤ _), (by decide : 46 + 12 ≤ _)⟩)
  dsimp only [Pt.U, Pt.locs, Pt.cells, Pt.slots] at X40 l40 y40 z40 st40 hQ40 hS40 hg40 CR40
  subst l40 y40 z40
  rw [e38] at hg40
  obtain ⟨X40, hS, hZ, hown⟩ := rebS hS hk X40 hS40 hg40 hZ hown
  have hZ40 := hZ
  have hown40 := hown
  have hk : _ ≤ T40.heap.size := Nat.le_refl _
  have CR := CR.trans CR40
  obtain ⟨rfl, Nq40, Kc40, fq40_0, fq40_1, fq40_2⟩ := hQ40
  have f42 : Sta Z T40.heap "jdk/internal/util/Preconditions" "SIOOBE_FORMATTER" "Ljava/util/function/BiFunction;" s_F := own_sta_keep f30 Kc40 (allS (own_plain_cell fq28_0) all0)
  have f43 : Sta Z T40.heap "java/nio/charset/StandardCharsets" "ISO_8859_1" "Ljava/nio/charset/Charset;" (.ref s_C) := own_sta_keep f31 Kc40 (allS (own_plain_cell fq28_0) all0)
  have f44 : Exa Z T40.heap s_C "sun/nio/cs/ISO_8859_1" := f32.keep Kc40
  have f45 : Exa Z T40.heap b1 "[B" := f33.keep Kc40
  have f46 : Arv Z T40.heap b1 k1 .byte (own_n p1) (List.replicate 16 (Value.int (0 : Int32))) (.int (0 : Int32)) := f34.keep Kc40 (ninS ne_b1_b7 nin0)
  have f47 : Fld Z T40.heap b7 "com/example/fieldstone/fieldstone/core/KeyReader" "key" "[B" (.ref b1) := fq40_1
  have f48 : Fld Z T40.heap b7 "com/example/fieldstone/fieldstone/core/KeyReader" "position" "I" (.int (own_step (own_n p1) (own_step (own_n p1) (0 : Int32) (p2 &&& (3 : Int32))) (((p2.toUInt32 >>> ((2 : Int32) &&& 31).toUInt32).toInt32) &&& (3 : Int32)))) := fq40_2
  have Zs49 : n0 ≤ T40.heap.size := Nat.le_trans Zs37 Kc40.1
  have N41 := Fr.app N39 Nq40
  obtain ⟨cq50, kq50, q50a, q50b, q50c⟩ := isOf hZ rfl fq40_0
  obtain ⟨_, _, ⟨T50, L50, k50, n50⟩, -, X50, ⟨Lc50, hQ50, l50, y50, z50⟩, st50⟩ := X40.virtualBack hx (y := (⟨"com/example/fieldstone/fieldstone/core/KeyReader", "hasRemaining", "()Z"⟩ : MethodName)) (z := (⟨"com/example/fieldstone/fieldstone/core/KeyReader", "hasRemaining", "()Z"⟩ : MethodName)) hown (mvT hZ (hw _ (List.mem_of_getElem? (i := 26) rfl))) (mvT hZ (hw _ (List.mem_of_getElem? (i := 27) rfl))) (notFace_of_selects (args := #[]) (mvT hZ (hw _ (List.mem_of_getElem? (i := 29) rfl)))) (mvT hZ (hw _ (List.mem_of_getElem? (i := 29) rfl))) (mvT hZ (hw _ (List.mem_of_getElem? (i := 28) rfl))) (by decide) (backOf (W := 0) (rm_has l Z a0 hw [] b7 (own_step (own_n p1) (own_step (own_n p1) (0 : Int32) (p2 &&& (3 : Int32))) (((p2.toUInt32 >>> ((2 : Int32) &&& 31).toUInt32).toInt32) &&& (3 : Int32))) b1 k1 (own_n p1) (List.replicate 16 (Value.int (0 : Int32))) T40.heap n0 Zs49 f48 f47 f46) hZ (hw _ (List.mem_of_getElem? (i := 30) rfl)) (hw _ (List.mem_of_getElem? (i := 4) rfl)) (by decide) (by decide)) q50a q50c (g := (mkF m 115 #[.val (.int p1), .val (.int p2), .val (.int (own_n p1)), .val (.ref b1), .val (.ref b7), .val (.int (1 : Int32)), .val (.int (own_step (own_n p1) (own_step (own_n p1) (0 : Int32) (p2 &&& (3 : Int32))) (((p2.toUInt32 >>> ((2 : Int32) &&& 31).toUInt32).toInt32) &&& (3 : Int32))))] [(.ref b7)])) rfl (by rw [hml]; rfl) (Steps.refl _) (argsL := []) (rest := []) (lenOf pd_7 rfl) rfl (by show 2 * 0 + _ ≤ _; exact Nat.le_of_eq rfl) (hb hby at_115) (fun _ _ => ⟨rfl, rfl, (by decide : 14 + 0 ≤ _), (by decide : 58 + 0 ≤ _)⟩)
  dsimp only [Pt.U, Pt.locs, Pt.cells, Pt.slots] at X50 l50 y50 z50 st50 hQ50
  subst l50 y50 z50
  obtain ⟨rfl, Nq50, e50⟩ := hQ50
  have N51 := Fr.app N41 Nq50
  obtain ⟨_, _, ⟨T52, L52, k52, n52⟩, -, X52, hS52, hg52, ⟨Lc52, hQ52, l52, y52, z52, CR52⟩, st52⟩ := Jvm.RoadKit.callSS X50 hx (y := (⟨"com/example/fieldstone/fieldstone/core/KeyReaderHasRemainingPinLaw", "step", "(Lcom/example/fieldstone/fieldstone/core/KeyReader;III)I"⟩ : MethodName)) hown (mvT hZ (hw _ (List.mem_of_getElem? (i := 33) rfl))) (mvT hZ (hw _ (List.mem_of_getElem? (i := 34) rfl))) (mvT hZ (hw _ (List.mem_of_getElem? (i := 35) rfl))) (mvT hZ (hw _ (List.mem_of_getElem? (i := 36) rfl))) (by decide) (backOfSH (W := 0) (rm_step l Z a0 hw [] b7 (own_n p1) (own_step (own_n p1) (own_step (own_n p1) (0 : Int32) (p2 &&& (3 : Int32))) (((p2.toUInt32 >>> ((2 : Int32) &&& 31).toUInt32).toInt32) &&& (3 : Int32))) (((p2.toUInt32 >>> ((4 : Int32) &&& 31).toUInt32).toInt32) &&& (3 : Int32)) b1 k1 s_F s_C T40.heap n0 Zs49 f47 f45 f46 f48 fq40_0 g_b7 f42 hsr f43 f44 hp9 hp10 hp4 hp11) hZ (hw _ (List.mem_of_getElem? (i := 36) rfl)) (hw _ (List.mem_of_getElem? (i := 35) rfl)) (by decide) (by decide) hEW CR.1) (g := (mkF m 149 #[.val (.int p1), .val (.int p2), .val (.int (own_n p1)), .val (.ref b1), .val (.ref b7), .val (.int (1 : Int32)), .val (.int (own_step (own_n p1) (own_step (own_n p1) (0 : Int32) (p2 &&& (3 : Int32))) (((p2.toUInt32 >>> ((2 : Int32) &&& 31).toUInt32).toInt32) &&& (3 : Int32))))] [(.int (((p2.toUInt32 >>> ((4 : Int32) &&& 31).toUInt32).toInt32) &&& (3 : Int32))), (.int (own_step (own_n p1) (own_step (own_n p1) (0 : Int32) (p2 &&& (3 : Int32))) (((p2.toUInt32 >>> ((2 : Int32) &&& 31).toUInt32).toInt32) &&& (3 : Int32)))), (.int (own_n p1)), (.ref b7)])) rfl (by rw [hml]; rfl) (argsL := [(.ref b7), (.int (own_n p1)), (.int (own_step (own_n p1) (own_step (own_n p1) (0 : Int32) (p2 &&& (3 : Int32))) (((p2.toUInt32 >>> ((2 : Int32) &&& 31).toUInt32).toInt32) &&& (3 : Int32)))), (.int (((p2.toUInt32 >>> ((4 : Int32) &&& 31).toUInt32).toInt32) &&& (3 : Int32)))]) (rest := []) (lenOf pd_12 rfl) rfl (by show 2 * 0 + _ ≤ _; exact Nat.le_of_eq rfl) (hb hby at_149) (fun _ _ => ⟨rfl, e50, (by decide : 14 + 5 ≤ _), (by decide : 58 + 12 ≤ _)⟩)
  dsimp only [Pt.U, Pt.locs, Pt.cells, Pt.slots] at X52 l52 y52 z52 st52 hQ52 hS52 hg52 CR52
  subst l52 y52 z52
  rw [e50] at hg52
  obtain ⟨X52, hS, hZ, hown⟩ := rebS hS hk X52 hS52 hg52 hZ hown
  have hZ52 := hZ
  have hown52 := hown
  have hk : _ ≤ T52.heap.size := Nat.le_refl _
  have CR := CR.trans CR52
  obtain ⟨rfl, Nq52, Kc52, fq52_0, fq52_1, fq52_2⟩ := hQ52
  have f54 : Sta Z T52.heap "jdk/internal/util/Preconditions" "SIOOBE_FORMATTER" "Ljava/util/function/BiFunction;" s_F := own_sta_keep f42 Kc52 (allS (own_plain_cell fq40_0) all0)
  have f55 : Sta Z T52.heap "java/nio/charset/StandardCharsets" "ISO_8859_1" "Ljava/nio/charset/Charset;" (.ref s_C) := own_sta_keep f43 Kc52 (allS (own_plain_cell fq40_0) all0)
  have f56 : Exa Z T52.heap s_C "sun/nio/cs/ISO_8859_1" := f44.keep Kc52
  have f57 : Exa Z T52.heap b1 "[B" := f45.keep Kc52
  have f58 : Arv Z T52.heap b1 k1 .byte (own_n p1) (List.replicate 16 (Value.int (0 : Int32))) (.int (0 : Int32)) := f46.keep Kc52 (ninS ne_b1_b7 nin0)
  have f59 : Fld Z T52.heap b7 "com/example/fieldstone/fieldstone/core/KeyReader" "key" "[B" (.ref b1) := fq52_1
  have f60 : Fld Z T52.heap b7 "com/example/fieldstone/fieldstone/core/KeyReader" "position" "I" (.int (own_step (own_n p1) (own_step (own_n p1) (own_step (own_n p1) (0 : Int32) (p2 &&& (3 : Int32))) (((p2.toUInt32 >>> ((2 : Int32) &&& 31).toUInt32).toInt32) &&& (3 : Int32))) (((p2.toUInt32 >>> ((4 : Int32) &&& 31).toUInt32).toInt32) &&& (3 : Int32)))) := fq52_2
  have Zs61 : n0 ≤ T52.heap.size := Nat.le_trans Zs49 Kc52.1
  have N53 := Fr.app N51 Nq52
  obtain ⟨cq62, kq62, q62a, q62b, q62c⟩ := isOf hZ rfl fq52_0
  obtain ⟨_, _, ⟨T62, L62, k62, n62⟩, -, X62, ⟨Lc62, hQ62, l62, y62, z62⟩, st62⟩ := X52.virtualBack hx (y := (⟨"com/example/fieldstone/fieldstone/core/KeyReader", "hasRemaining", "()Z"⟩ : MethodName)) (z := (⟨"com/example/fieldstone/fieldstone/core/KeyReader", "hasRemaining", "()Z"⟩ : MethodName)) hown (mvT hZ (hw _ (List.mem_of_getElem? (i := 26) rfl))) (mvT hZ (hw _ (List.mem_of_getElem? (i := 27) rfl))) (notFace_of_selects (args := #[]) (mvT hZ (hw _ (List.mem_of_getElem? (i := 29) rfl)))) (mvT hZ (hw _ (List.mem_of_getElem? (i := 29) rfl))) (mvT hZ (hw _ (List.mem_of_getElem? (i := 28) rfl))) (by decide) (backOf (W := 0) (rm_has l Z a0 hw [] b7 (own_step (own_n p1) (own_step (own_n p1) (own_step (own_n p1) (0 : Int32) (p2 &&& (3 : Int32))) (((p2.toUInt32 >>> ((2 : Int32) &&& 31).toUInt32).toInt32) &&& (3 : Int32))) (((p2.toUInt32 >>> ((4 : Int32) &&& 31).toUInt32).toInt32) &&& (3 : Int32))) b1 k1 (own_n p1) (List.replicate 16 (Value.int (0 : Int32))) T52.heap n0 Zs61 f60 f59 f58) hZ (hw _ (List.mem_of_getElem? (i := 30) rfl)) (hw _ (List.mem_of_getElem? (i := 4) rfl)) (by decide) (by decide)) q62a q62c (g := (mkF m 161 #[.val (.int p1), .val (.int p2), .val (.int (own_n p1)), .val (.ref b1), .val (.ref b7), .val (.int (1 : Int32)), .val (.int (own_step (own_n p1) (own_step (own_n p1) (own_step (own_n p1) (0 : Int32) (p2 &&& (3 : Int32))) (((p2.toUInt32 >>> ((2 : Int32) &&& 31).toUInt32).toInt32) &&& (3 : Int32))) (((p2.toUInt32 >>> ((4 : Int32) &&& 31).toUInt32).toInt32) &&& (3 : Int32))))] [(.ref b7)])) rfl (by rw [hml]; rfl) (Steps.refl _) (argsL := []) (rest := []) (lenOf pd_7 rfl) rfl (by show 2 * 0 + _ ≤ _; exact Nat.le_of_eq rfl) (hb hby at_161) (fun _ _ => ⟨rfl, rfl, (by decide : 19 + 0 ≤ _), (by decide : 70 + 0 ≤ _)⟩)
  dsimp only [Pt.U, Pt.locs, Pt.cells, Pt.slots] at X62 l62 y62 z62 st62 hQ62
  subst l62 y62 z62
  obtain ⟨rfl, Nq62, e62⟩ := hQ62
  have N63 := Fr.app N53 Nq62
  obtain ⟨fs, hr, hrun, hended, hRE⟩ := X62.leaveW hS (by rw [e62]; exact hk) (v := some (.int (1 : Int32))) (fun h => by rw [Bd.returns] at h; cases h) Bd.notSynchronized
  refine ⟨_, _, pre0 _ ?_, hrun, hended, _, _, rfl, ?_, ?_, hRE.1, hRE.2.1, hRE.2.2.1, hRE.2.2.2.mono (by decide) (by decide)⟩
  · show Steps p.tables e below (s₁.setTop (mkF m 0 #[.val (.int p1), .val (.int p2), .unset, .unset, .unset, .unset, .unset] [])) _
    refine XS.iloadN X0.here hx rfl (hb hby at_0) rfl ?_
    show Steps p.tables e below (s₁.setTop (mkF m 1 #[.val (.int p1), .val (.int p2), .unset, .unset, .unset, .unset, .unset] [(.int p1)])) _
    refine X0.ldcInt hx hown0 (mvT hZ0 (hw _ (List.mem_of_getElem? (i := 0) rfl))) (g := (mkF m 1 #[.val (.int p1), .val (.int p2), .unset, .unset, .unset, .unset, .unset] [(.int p1)])) rfl (hb hby at_1) _ ?_
    show Steps p.tables e below (s₁.setTop (mkF m 3 #[.val (.int p1), .val (.int p2), .unset, .unset, .unset, .unset, .unset] [(.int (2147483647 : Int32)), (.int p1)])) _
    refine XS.iand X0.here hx rfl (hb hby at_3) rfl ?_
    show Steps p.tables e below (s₁.setTop (mkF m 4 #[.val (.int p1), .val (.int p2), .unset, .unset, .unset, .unset, .unset] [(.int (p1 &&& (2147483647 : Int32)))])) _
    refine XS.bipush X0.here hx rfl (hb hby at_4) ?_
    show Steps p.tables e below (s₁.setTop (mkF m 6 #[.val (.int p1), .val (.int p2), .unset, .unset, .unset, .unset, .unset] [(.int (17 : Int32)), (.int (p1 &&& (2147483647 : Int32)))])) _
    refine iremM X0 hx rfl (hb hby at_6) rfl (by decide) ?_
    show Steps p.tables e below (s₁.setTop (mkF m 7 #[.val (.int p1), .val (.int p2), .unset, .unset, .unset, .unset, .unset] [(.int ((p1 &&& (2147483647 : Int32)) % (17 : Int32)))])) _
    refine XS.istoreN X0.here hx rfl (hb hby at_7) rfl (l' := #[.val (.int p1), .val (.int p2), .val (.int (own_n p1)), .unset, .unset, .unset, .unset]) rfl ?_
    show Steps p.tables e below (s₁.setTop (mkF m 8 #[.val (.int p1), .val (.int p2), .val (.int (own_n p1)), .unset, .unset, .unset, .unset] [])) _
    refine XS.iloadN X0.here hx rfl (hb hby at_8) rfl ?_
    show Steps p.tables e below (s₁.setTop (mkF m 9 #[.val (.int p1), .val (.int p2), .val (.int (own_n p1)), .unset, .unset, .unset, .unset] [(.int (own_n p1))])) _
    refine st1 _ ?_
    show Steps p.tables e below (T1.setTop (mkF m 11 #[.val (.int p1), .val (.int p2), .val (.int (own_n p1)), .unset, .unset, .unset, .unset] [(.ref b1)])) _
    refine XS.astoreN X1.here hx rfl (hb hby at_11) rfl rfl (l' := #[.val (.int p1), .val (.int p2), .val (.int (own_n p1)), .val (.ref b1), .unset, .unset, .unset]) rfl ?_
    show Steps p.tables e below (T1.setTop (mkF m 12 #[.val (.int p1), .val (.int p2), .val (.int (own_n p1)), .val (.ref b1), .unset, .unset, .unset] [])) _
    refine st7 _ ?_
    show Steps p.tables e below (T7.setTop (mkF m 15 #[.val (.int p1), .val (.int p2), .val (.int (own_n p1)), .val (.ref b1), .unset, .unset, .unset] [(.ref b7)])) _
    refine XS.dup X7.here hx rfl (hb hby at_15) rfl rfl ?_
    show Steps p.tables e below (T7.setTop (mkF m 16 #[.val (.int p1), .val (.int p2), .val (.int (own_n p1)), .val (.ref b1), .unset, .unset, .unset] [(.ref b7), (.ref b7)])) _
    refine XS.aloadN X7.here hx rfl (hb hby at_16) rfl rfl ?_
    show Steps p.tables e below (T7.setTop (mkF m 17 #[.val (.int p1), .val (.int p2), .val (.int (own_n p1)), .val (.ref b1), .unset, .unset, .unset] [(.ref b1), (.ref b7), (.ref b7)])) _
    refine st16.trans ?_
    show Steps p.tables e below (T16.setTop (mkF m 20 #[.val (.int p1), .val (.int p2), .val (.int (own_n p1)), .val (.ref b1), .unset, .unset, .unset] [(.ref b7)])) _
    refine XS.astore X16.here hx rfl (hb hby at_20) rfl rfl (l' := #[.val (.int p1), .val (.int p2), .val (.int (own_n p1)), .val (.ref b1), .val (.ref b7), .unset, .unset]) rfl ?_
    show Steps p.tables e below (T16.setTop (mkF m 22 #[.val (.int p1), .val (.int p2), .val (.int (own_n p1)), .val (.ref b1), .val (.ref b7), .unset, .unset] [])) _
    refine XS.aload X16.here hx rfl (hb hby at_22) rfl rfl ?_
    show Steps p.tables e below (T16.setTop (mkF m 24 #[.val (.int p1), .val (.int p2), .val (.int (own_n p1)), .val (.ref b1), .val (.ref b7), .unset, .unset] [(.ref b7)])) _
    refine st26.trans ?_
    show Steps p.tables e below (T26.setTop (mkF m 27 #[.val (.int p1), .val (.int p2), .val (.int (own_n p1)), .val (.ref b1), .val (.ref b7), .unset, .unset] [(.int (f_has (0 : Int32) (own_n p1)))])) _
    refine XS.iloadN X26.here hx rfl (hb hby at_27) rfl ?_
    show Steps p.tables e below (T26.setTop (mkF m 28 #[.val (.int p1), .val (.int p2), .val (.int (own_n p1)), .val (.ref b1), .val (.ref b7), .unset, .unset] [(.int (own_n p1)), (.int (f_has (0 : Int32) (own_n p1)))])) _
    refine XS.ifNo X26.here hx rfl (hb hby at_28) rfl ((if0 _ _).trans (tlt hc0).2.2.2) ?_
    show Steps p.tables e below (T26.setTop (mkF m 31 #[.val (.int p1), .val (.int p2), .val (.int (own_n p1)), .val (.ref b1), .val (.ref b7), .unset, .unset] [(.int (f_has (0 : Int32) (own_n p1)))])) _
    refine XS.iconst X26.here hx rfl (hb hby at_31) ?_
    show Steps p.tables e below (T26.setTop (mkF m 32 #[.val (.int p1), .val (.int p2), .val (.int (own_n p1)), .val (.ref b1), .val (.ref b7), .unset, .unset] [(.int (1 : Int32)), (.int (f_has (0 : Int32) (own_n p1)))])) _
    refine XS.goto X26.here hx rfl (pc0 := 32) (pc' := 36) rfl (hb hby at_32) (by decide) (by decide) ?_
    show Steps p.tables e below (T26.setTop (mkF m 36 #[.val (.int p1), .val (.int p2), .val (.int (own_n p1)), .val (.ref b1), .val (.ref b7), .unset, .unset] [(.int (1 : Int32)), (.int (f_has (0 : Int32) (own_n p1)))])) _
    refine XS.icmpNo X26.here hx rfl (hb hby at_36) rfl (teq hc1).2 ?_
    show Steps p.tables e below (T26.setTop (mkF m 39 #[.val (.int p1), .val (.int p2), .val (.int (own_n p1)), .val (.ref b1), .val (.ref b7), .unset, .unset] [])) _
    refine XS.iconst X26.here hx rfl (hb hby at_39) ?_
    show Steps p.tables e below (T26.setTop (mkF m 40 #[.val (.int p1), .val (.int p2), .val (.int (own_n p1)), .val (.ref b1), .val (.ref b7), .unset, .unset] [(.int (1 : Int32))])) _
    refine XS.goto X26.here hx rfl (pc0 := 40) (pc' := 44) rfl (hb hby at_40) (by decide) (by decide) ?_
    show Steps p.tables e below (T26.setTop (mkF m 44 #[.val (.int p1), .val (.int p2), .val (.int (own_n p1)), .val (.ref b1), .val (.ref b7), .unset, .unset] [(.int (1 : Int32))])) _
    refine XS.istore X26.here hx rfl (hb hby at_44) rfl (l' := #[.val (.int p1), .val (.int p2), .val (.int (own_n p1)), .val (.ref b1), .val (.ref b7), .val (.int (1 : Int32)), .unset]) rfl ?_
    show Steps p.tables e below (T26.setTop (mkF m 46 #[.val (.int p1), .val (.int p2), .val (.int (own_n p1)), .val (.ref b1), .val (.ref b7), .val (.int (1 : Int32)), .unset] [])) _
    refine XS.iconst X26.here hx rfl (hb hby at_46) ?_
    show Steps p.tables e below (T26.setTop (mkF m 47 #[.val (.int p1), .val (.int p2), .val (.int (own_n p1)), .val (.ref b1), .val (.ref b7), .val (.int (1 : Int32)), .unset] [(.int (0 : Int32))])) _
    refine XS.istore X26.here hx rfl (hb hby at_47) rfl (l' := #[.val (.int p1), .val (.int p2), .val (.int (own_n p1)), .val (.ref b1), .val (.ref b7), .val (.int (1 : Int32)), .val (.int (0 : Int32))]) rfl ?_
    show Steps p.tables e below (T26.setTop (mkF m 49 #[.val (.int p1), .val (.int p2), .val (.int (own_n p1)), .val (.ref b1), .val (.ref b7), .val (.int (1 : Int32)), .val (.int (0 : Int32))] [])) _
    refine XS.aload X26.here hx rfl (hb hby at_49) rfl rfl ?_
    refine XS.iloadN X26.here hx rfl (hb hby at_51) rfl ?_
    refine XS.iload X26.here hx rfl (hb hby at_52) rfl ?_
    refine XS.iloadN X26.here hx rfl (hb hby at_54) rfl ?_
    refine XS.iconst X26.here hx rfl (hb hby at_55) ?_
    show Steps p.tables e below (T26.setTop (mkF m 56 #[.val (.int p1), .val (.int p2), .val (.int (own_n p1)), .val (.ref b1), .val (.ref b7), .val (.int (1 : Int32)), .val (.int (0 : Int32))] [(.int (3 : Int32)), (.int p2), (.int (0 : Int32)), (.int (own_n p1)), (.ref b7)])) _
    refine XS.iand X26.here hx rfl (hb hby at_56) rfl ?_
    show Steps p.tables e below (T26.setTop (mkF m 57 #[.val (.int p1), .val (.int p2), .val (.int (own_n p1)), .val (.ref b1), .val (.ref b7), .val (.int (1 : Int32)), .val (.int (0 : Int32))] [(.int (p2 &&& (3 : Int32))), (.int (0 : Int32)), (.int (own_n p1)), (.ref b7)])) _
    refine st28.trans ?_
    show Steps p.tables e below (T28.setTop (mkF m 60 #[.val (.int p1), .val (.int p2), .val (.int (own_n p1)), .val (.ref b1), .val (.ref b7), .val (.int (1 : Int32)), .val (.int (0 : Int32))] [(.int (own_step (own_n p1) (0 : Int32) (p2 &&& (3 : Int32))))])) _
    refine XS.istore X28.here hx rfl (hb hby at_60) rfl (l' := #[.val (.int p1), .val (.int p2), .val (.int (own_n p1)), .val (.ref b1), .val (.ref b7), .val (.int (1 : Int32)), .val (.int (own_step (own_n p1) (0 : Int32) (p2 &&& (3 : Int32))))]) rfl ?_
    show Steps p.tables e below (T28.setTop (mkF m 62 #[.val (.int p1), .val (.int p2), .val (.int (own_n p1)), .val (.ref b1), .val (.ref b7), .val (.int (1 : Int32)), .val (.int (own_step (own_n p1) (0 : Int32) (p2 &&& (3 : Int32))))] [])) _
    refine XS.iload X28.here hx rfl (hb hby at_62) rfl ?_
    show Steps p.tables e below (T28.setTop (mkF m 64 #[.val (.int p1), .val (.int p2), .val (.int (own_n p1)), .val (.ref b1), .val (.ref b7), .val (.int (1 : Int32)), .val (.int (own_step (own_n p1) (0 : Int32) (p2 &&& (3 : Int32))))] [(.int (1 : Int32))])) _
    refine XS.ifNo X28.here hx rfl (hb hby at_64) rfl ((if0 _ _).trans (feq (by decide : ¬ ((1 : Int32) = (0 : Int32)))).1) ?_
    show Steps p.tables e below (T28.setTop (mkF m 67 #[.val (.int p1), .val (.int p2), .val (.int (own_n p1)), .val (.ref b1), .val (.ref b7), .val (.int (1 : Int32)), .val (.int (own_step (own_n p1) (0 : Int32) (p2 &&& (3 : Int32))))] [])) _
    refine XS.aload X28.here hx rfl (hb hby at_67) rfl rfl ?_
    show Steps p.tables e below (T28.setTop (mkF m 69 #[.val (.int p1), .val (.int p2), .val (.int (own_n p1)), .val (.ref b1), .val (.ref b7), .val (.int (1 : Int32)), .val (.int (own_step (own_n p1) (0 : Int32) (p2 &&& (3 : Int32))))] [(.ref b7)])) _
    refine st38.trans ?_
    show Steps p.tables e below (T38.setTop (mkF m 72 #[.val (.int p1), .val (.int p2), .val (.int (own_n p1)), .val (.ref b1), .val (.ref b7), .val (.int (1 : Int32)), .val (.int (own_step (own_n p1) (0 : Int32) (p2 &&& (3 : Int32))))] [(.int (f_has (own_step (own_n p1) (0 : Int32) (p2 &&& (3 : Int32))) (own_n p1)))])) _
    refine XS.iload X38.here hx rfl (hb hby at_72) rfl ?_
    refine XS.iloadN X38.here hx rfl (hb hby at_74) rfl ?_
    show Steps p.tables e below (T38.setTop (mkF m 75 #[.val (.int p1), .val (.int p2), .val (.int (own_n p1)), .val (.ref b1), .val (.ref b7), .val (.int (1 : Int32)), .val (.int (own_step (own_n p1) (0 : Int32) (p2 &&& (3 : Int32))))] [(.int (own_n p1)), (.int (own_step (own_n p1) (0 : Int32) (p2 &&& (3 : Int32)))), (.int (f_has (own_step (own_n p1) (0 : Int32) (p2 &&& (3 : Int32))) (own_n p1)))])) _
    refine XS.icmpNo X38.here hx rfl (hb hby at_75) rfl (tlt hc2).2.1 ?_
    show Steps p.tables e below (T38.setTop (mkF m 78 #[.val (.int p1), .val (.int p2), .val (.int (own_n p1)), .val (.ref b1), .val (.ref b7), .val (.int (1 : Int32)), .val (.int (own_step (own_n p1) (0 : Int32) (p2 &&& (3 : Int32))))] [(.int (f_has (own_step (own_n p1) (0 : Int32) (p2 &&& (3 : Int32))) (own_n p1)))])) _
    refine XS.iconst X38.here hx rfl (hb hby at_78) ?_
    show Steps p.tables e below (T38.setTop (mkF m 79 #[.val (.int p1), .val (.int p2), .val (.int (own_n p1)), .val (.ref b1), .val (.ref b7), .val (.int (1 : Int32)), .val (.int (own_step (own_n p1) (0 : Int32) (p2 &&& (3 : Int32))))] [(.int (1 : Int32)), (.int (f_has (own_step (own_n p1) (0 : Int32) (p2 &&& (3 : Int32))) (own_n p1)))])) _
    refine XS.goto X38.here hx rfl (pc0 := 79) (pc' := 83) rfl (hb hby at_79) (by decide) (by decide) ?_
    show Steps p.tables e below (T38.setTop (mkF m 83 #[.val (.int p1), .val (.int p2), .val (.int (own_n p1)), .val (.ref b1), .val (.ref b7), .val (.int (1 : Int32)), .val (.int (own_step (own_n p1) (0 : Int32) (p2 &&& (3 : Int32))))] [(.int (1 : Int32)), (.int (f_has (own_step (own_n p1) (0 : Int32) (p2 &&& (3 : Int32))) (own_n p1)))])) _
    refine XS.icmpNo X38.here hx rfl (hb hby at_83) rfl (teq hc3).2 ?_
    show Steps p.tables e below (T38.setTop (mkF m 86 #[.val (.int p1), .val (.int p2), .val (.int (own_n p1)), .val (.ref b1), .val (.ref b7), .val (.int (1 : Int32)), .val (.int (own_step (own_n p1) (0 : Int32) (p2 &&& (3 : Int32))))] [])) _
    refine XS.iconst X38.here hx rfl (hb hby at_86) ?_
    show Steps p.tables e below (T38.setTop (mkF m 87 #[.val (.int p1), .val (.int p2), .val (.int (own_n p1)), .val (.ref b1), .val (.ref b7), .val (.int (1 : Int32)), .val (.int (own_step (own_n p1) (0 : Int32) (p2 &&& (3 : Int32))))] [(.int (1 : Int32))])) _
    refine XS.goto X38.here hx rfl (pc0 := 87) (pc' := 91) rfl (hb hby at_87) (by decide) (by decide) ?_
    show Steps p.tables e below (T38.setTop (mkF m 91 #[.val (.int p1), .val (.int p2), .val (.int (own_n p1)), .val (.ref b1), .val (.ref b7), .val (.int (1 : Int32)), .val (.int (own_step (own_n p1) (0 : Int32) (p2 &&& (3 : Int32))))] [(.int (1 : Int32))])) _
    refine XS.istore X38.here hx rfl (hb hby at_91) rfl (l' := #[.val (.int p1), .val (.int p2), .val (.int (own_n p1)), .val (.ref b1), .val (.ref b7), .val (.int (1 : Int32)), .val (.int (own_step (own_n p1) (0 : Int32) (p2 &&& (3 : Int32))))]) rfl ?_
    show Steps p.tables e below (T38.setTop (mkF m 93 #[.val (.int p1), .val (.int p2), .val (.int (own_n p1)), .val (.ref b1), .val (.ref b7), .val (.int (1 : Int32)), .val (.int (own_step (own_n p1) (0 : Int32) (p2 &&& (3 : Int32))))] [])) _
    refine XS.aload X38.here hx rfl (hb hby at_93) rfl rfl ?_
    refine XS.iloadN X38.here hx rfl (hb hby at_95) rfl ?_
    refine XS.iload X38.here hx rfl (hb hby at_96) rfl ?_
    refine XS.iloadN X38.here hx rfl (hb hby at_98) rfl ?_
    refine XS.iconst X38.here hx rfl (hb hby at_99) ?_
    show Steps p.tables e below (T38.setTop (mkF m 100 #[.val (.int p1), .val (.int p2), .val (.int (own_n p1)), .val (.ref b1), .val (.ref b7), .val (.int (1 : Int32)), .val (.int (own_step (own_n p1) (0 : Int32) (p2 &&& (3 : Int32))))] [(.int (2 : Int32)), (.int p2), (.int (own_step (own_n p1) (0 : Int32) (p2 &&& (3 : Int32)))), (.int (own_n p1)), (.ref b7)])) _
    refine XS.iushr X38.here hx rfl (hb hby at_100) rfl ?_
    show Steps p.tables e below (T38.setTop (mkF m 101 #[.val (.int p1), .val (.int p2), .val (.int (own_n p1)), .val (.ref b1), .val (.ref b7), .val (.int (1 : Int32)), .val (.int (own_step (own_n p1) (0 : Int32) (p2 &&& (3 : Int32))))] [(.int ((p2.toUInt32 >>> ((2 : Int32) &&& 31).toUInt32).toInt32)), (.int (own_step (own_n p1) (0 : Int32) (p2 &&& (3 : Int32)))), (.int (own_n p1)), (.ref b7)])) _
    refine XS.iconst X38.here hx rfl (hb hby at_101) ?_
    show Steps p.tables e below (T38.setTop (mkF m 102 #[.val (.int p1), .val (.int p2), .val (.int (own_n p1)), .val (.ref b1), .val (.ref b7), .val (.int (1 : Int32)), .val (.int (own_step (own_n p1) (0 : Int32) (p2 &&& (3 : Int32))))] [(.int (3 : Int32)), (.int ((p2.toUInt32 >>> ((2 : Int32) &&& 31).toUInt32).toInt32)), (.int (own_step (own_n p1) (0 : Int32) (p2 &&& (3 : Int32)))), (.int (own_n p1)), (.ref b7)])) _
    refine XS.iand X38.here hx rfl (hb hby at_102) rfl ?_
    show Steps p.tables e below (T38.setTop (mkF m 103 #[.val (.int p1), .val (.int p2), .val (.int (own_n p1)), .val (.ref b1), .val (.ref b7), .val (.int (1 : Int32)), .val (.int (own_step (own_n p1) (0 : Int32) (p2 &&& (3 : Int32))))] [(.int (((p2.toUInt32 >>> ((2 : Int32) &&& 31).toUInt32).toInt32) &&& (3 : Int32))), (.int (own_step (own_n p1) (0 : Int32) (p2 &&& (3 : Int32)))), (.int (own_n p1)), (.ref b7)])) _
    refine st40.trans ?_
    show Steps p.tables e below (T40.setTop (mkF m 106 #[.val (.int p1), .val (.int p2), .val (.int (own_n p1)), .val (.ref b1), .val (.ref b7), .val (.int (1 : Int32)), .val (.int (own_step (own_n p1) (0 : Int32) (p2 &&& (3 : Int32))))] [(.int (own_step (own_n p1) (own_step (own_n p1) (0 : Int32) (p2 &&& (3 : Int32))) (((p2.toUInt32 >>> ((2 : Int32) &&& 31).toUInt32).toInt32) &&& (3 : Int32))))])) _
    refine XS.istore X40.here hx rfl (hb hby at_106) rfl (l' := #[.val (.int p1), .val (.int p2), .val (.int (own_n p1)), .val (.ref b1), .val (.ref b7), .val (.int (1 : Int32)), .val (.int (own_step (own_n p1) (own_step (own_n p1) (0 : Int32) (p2 &&& (3 : Int32))) (((p2.toUInt32 >>> ((2 : Int32) &&& 31).toUInt32).toInt32) &&& (3 : Int32))))]) rfl ?_
    show Steps p.tables e below (T40.setTop (mkF m 108 #[.val (.int p1), .val (.int p2), .val (.int (own_n p1)), .val (.ref b1), .val (.ref b7), .val (.int (1 : Int32)), .val (.int (own_step (own_n p1) (own_step (own_n p1) (0 : Int32) (p2 &&& (3 : Int32))) (((p2.toUInt32 >>> ((2 : Int32) &&& 31).toUInt32).toInt32) &&& (3 : Int32))))] [])) _
    refine XS.iload X40.here hx rfl (hb hby at_108) rfl ?_
    show Steps p.tables e below (T40.setTop (mkF m 110 #[.val (.int p1), .val (.int p2), .val (.int (own_n p1)), .val (.ref b1), .val (.ref b7), .val (.int (1 : Int32)), .val (.int (own_step (own_n p1) (own_step (own_n p1) (0 : Int32) (p2 &&& (3 : Int32))) (((p2.toUInt32 >>> ((2 : Int32) &&& 31).toUInt32).toInt32) &&& (3 : Int32))))] [(.int (1 : Int32))])) _
    refine XS.ifNo X40.here hx rfl (hb hby at_110) rfl ((if0 _ _).trans (feq (by decide : ¬ ((1 : Int32) = (0 : Int32)))).1) ?_
    show Steps p.tables e below (T40.setTop (mkF m 113 #[.val (.int p1), .val (.int p2), .val (.int (own_n p1)), .val (.ref b1), .val (.ref b7), .val (.int (1 : Int32)), .val (.int (own_step (own_n p1) (own_step (own_n p1) (0 : Int32) (p2 &&& (3 : Int32))) (((p2.toUInt32 >>> ((2 : Int32) &&& 31).toUInt32).toInt32) &&& (3 : Int32))))] [])) _
    refine XS.aload X40.here hx rfl (hb hby at_113) rfl rfl ?_
    show Steps p.tables e below (T40.setTop (mkF m 115 #[.val (.int p1), .val (.int p2), .val (.int (own_n p1)), .val (.ref b1), .val (.ref b7), .val (.int (1 : Int32)), .val (.int (own_step (own_n p1) (own_step (own_n p1) (0 : Int32) (p2 &&& (3 : Int32))) (((p2.toUInt32 >>> ((2 : Int32) &&& 31).toUInt32).toInt32) &&& (3 : Int32))))] [(.ref b7)])) _
    refine st50.trans ?_
    show Steps p.tables e below (T50.setTop (mkF m 118 #[.val (.int p1), .val (.int p2), .val (.int (own_n p1)), .val (.ref b1), .val (.ref b7), .val (.int (1 : Int32)), .val (.int (own_step (own_n p1) (own_step (own_n p1) (0 : Int32) (p2 &&& (3 : Int32))) (((p2.toUInt32 >>> ((2 : Int32) &&& 31).toUInt32).toInt32) &&& (3 : Int32))))] [(.int (f_has (own_step (own_n p1) (own_step (own_n p1) (0 : Int32) (p2 &&& (3 : Int32))) (((p2.toUInt32 >>> ((2 : Int32) &&& 31).toUInt32).toInt32) &&& (3 : Int32))) (own_n p1)))])) _
    refine XS.iload X50.here hx rfl (hb hby at_118) rfl ?_
    refine XS.iloadN X50.here hx rfl (hb hby at_120) rfl ?_
    show Steps p.tables e below (T50.setTop (mkF m 121 #[.val (.int p1), .val (.int p2), .val (.int (own_n p1)), .val (.ref b1), .val (.ref b7), .val (.int (1 : Int32)), .val (.int (own_step (own_n p1) (own_step (own_n p1) (0 : Int32) (p2 &&& (3 : Int32))) (((p2.toUInt32 >>> ((2 : Int32) &&& 31).toUInt32).toInt32) &&& (3 : Int32))))] [(.int (own_n p1)), (.int (own_step (own_n p1) (own_step (own_n p1) (0 : Int32) (p2 &&& (3 : Int32))) (((p2.toUInt32 >>> ((2 : Int32) &&& 31).toUInt32).toInt32) &&& (3 : Int32)))), (.int (f_has (own_step (own_n p1) (own_step (own_n p1) (0 : Int32) (p2 &&& (3 : Int32))) (((p2.toUInt32 >>> ((2 : Int32) &&& 31).toUInt32).toInt32) &&& (3 : Int32))) (own_n p1)))])) _
    refine XS.icmpYes X50.here hx rfl (pc0 := 121) (pc' := 128) rfl (hb hby at_121) rfl (flt hc4).2.1 (by decide) (by decide) ?_
    show Steps p.tables e below (T50.setTop (mkF m 128 #[.val (.int p1), .val (.int p2), .val (.int (own_n p1)), .val (.ref b1), .val (.ref b7), .val (.int (1 : Int32)), .val (.int (own_step (own_n p1) (own_step (own_n p1) (0 : Int32) (p2 &&& (3 : Int32))) (((p2.toUInt32 >>> ((2 : Int32) &&& 31).toUInt32).toInt32) &&& (3 : Int32))))] [(.int (f_has (own_step (own_n p1) (own_step (own_n p1) (0 : Int32) (p2 &&& (3 : Int32))) (((p2.toUInt32 >>> ((2 : Int32) &&& 31).toUInt32).toInt32) &&& (3 : Int32))) (own_n p1)))])) _
    refine XS.iconst X50.here hx rfl (hb hby at_128) ?_
    show Steps p.tables e below (T50.setTop (mkF m 129 #[.val (.int p1), .val (.int p2), .val (.int (own_n p1)), .val (.ref b1), .val (.ref b7), .val (.int (1 : Int32)), .val (.int (own_step (own_n p1) (own_step (own_n p1) (0 : Int32) (p2 &&& (3 : Int32))) (((p2.toUInt32 >>> ((2 : Int32) &&& 31).toUInt32).toInt32) &&& (3 : Int32))))] [(.int (0 : Int32)), (.int (f_has (own_step (own_n p1) (own_step (own_n p1) (0 : Int32) (p2 &&& (3 : Int32))) (((p2.toUInt32 >>> ((2 : Int32) &&& 31).toUInt32).toInt32) &&& (3 : Int32))) (own_n p1)))])) _
    refine XS.icmpNo X50.here hx rfl (hb hby at_129) rfl (teq hc5).2 ?_
    show Steps p.tables e below (T50.setTop (mkF m 132 #[.val (.int p1), .val (.int p2), .val (.int (own_n p1)), .val (.ref b1), .val (.ref b7), .val (.int (1 : Int32)), .val (.int (own_step (own_n p1) (own_step (own_n p1) (0 : Int32) (p2 &&& (3 : Int32))) (((p2.toUInt32 >>> ((2 : Int32) &&& 31).toUInt32).toInt32) &&& (3 : Int32))))] [])) _
    refine XS.iconst X50.here hx rfl (hb hby at_132) ?_
    show Steps p.tables e below (T50.setTop (mkF m 133 #[.val (.int p1), .val (.int p2), .val (.int (own_n p1)), .val (.ref b1), .val (.ref b7), .val (.int (1 : Int32)), .val (.int (own_step (own_n p1) (own_step (own_n p1) (0 : Int32) (p2 &&& (3 : Int32))) (((p2.toUInt32 >>> ((2 : Int32) &&& 31).toUInt32).toInt32) &&& (3 : Int32))))] [(.int (1 : Int32))])) _
    refine XS.goto X50.here hx rfl (pc0 := 133) (pc' := 137) rfl (hb hby at_133) (by decide) (by decide) ?_
    show Steps p.tables e below (T50.setTop (mkF m 137 #[.val (.int p1), .val (.int p2), .val (.int (own_n p1)), .val (.ref b1), .val (.ref b7), .val (.int (1 : Int32)), .val (.int (own_step (own_n p1) (own_step (own_n p1) (0 : Int32) (p2 &&& (3 : Int32))) (((p2.toUInt32 >>> ((2 : Int32) &&& 31).toUInt32).toInt32) &&& (3 : Int32))))] [(.int (1 : Int32))])) _
    refine XS.istore X50.here hx rfl (hb hby at_137) rfl (l' := #[.val (.int p1), .val (.int p2), .val (.int (own_n p1)), .val (.ref b1), .val (.ref b7), .val (.int (1 : Int32)), .val (.int (own_step (own_n p1) (own_step (own_n p1) (0 : Int32) (p2 &&& (3 : Int32))) (((p2.toUInt32 >>> ((2 : Int32) &&& 31).toUInt32).toInt32) &&& (3 : Int32))))]) rfl ?_
    show Steps p.tables e below (T50.setTop (mkF m 139 #[.val (.int p1), .val (.int p2), .val (.int (own_n p1)), .val (.ref b1), .val (.ref b7), .val (.int (1 : Int32)), .val (.int (own_step (own_n p1) (own_step (own_n p1) (0 : Int32) (p2 &&& (3 : Int32))) (((p2.toUInt32 >>> ((2 : Int32) &&& 31).toUInt32).toInt32) &&& (3 : Int32))))] [])) _
    refine XS.aload X50.here hx rfl (hb hby at_139) rfl rfl ?_
    refine XS.iloadN X50.here hx rfl (hb hby at_141) rfl ?_
    refine XS.iload X50.here hx rfl (hb hby at_142) rfl ?_
    refine XS.iloadN X50.here hx rfl (hb hby at_144) rfl ?_
    refine XS.iconst X50.here hx rfl (hb hby at_145) ?_
    show Steps p.tables e below (T50.setTop (mkF m 146 #[.val (.int p1), .val (.int p2), .val (.int (own_n p1)), .val (.ref b1), .val (.ref b7), .val (.int (1 : Int32)), .val (.int (own_step (own_n p1) (own_step (own_n p1) (0 : Int32) (p2 &&& (3 : Int32))) (((p2.toUInt32 >>> ((2 : Int32) &&& 31).toUInt32).toInt32) &&& (3 : Int32))))] [(.int (4 : Int32)), (.int p2), (.int (own_step (own_n p1) (own_step (own_n p1) (0 : Int32) (p2 &&& (3 : Int32))) (((p2.toUInt32 >>> ((2 : Int32) &&& 31).toUInt32).toInt32) &&& (3 : Int32)))), (.int (own_n p1)), (.ref b7)])) _
    refine XS.iushr X50.here hx rfl (hb hby at_146) rfl ?_
    show Steps p.tables e below (T50.setTop (mkF m 147 #[.val (.int p1), .val (.int p2), .val (.int (own_n p1)), .val (.ref b1), .val (.ref b7), .val (.int (1 : Int32)), .val (.int (own_step (own_n p1) (own_step (own_n p1) (0 : Int32) (p2 &&& (3 : Int32))) (((p2.toUInt32 >>> ((2 : Int32) &&& 31).toUInt32).toInt32) &&& (3 : Int32))))] [(.int ((p2.toUInt32 >>> ((4 : Int32) &&& 31).toUInt32).toInt32)), (.int (own_step (own_n p1) (own_step (own_n p1) (0 : Int32) (p2 &&& (3 : Int32))) (((p2.toUInt32 >>> ((2 : Int32) &&& 31).toUInt32).toInt32) &&& (3 : Int32)))), (.int (own_n p1)), (.ref b7)])) _
    refine XS.iconst X50.here hx rfl (hb hby at_147) ?_
    show Steps p.tables e below (T50.setTop (mkF m 148 #[.val (.int p1), .val (.int p2), .val (.int (own_n p1)), .val (.ref b1), .val (.ref b7), .val (.int (1 : Int32)), .val (.int (own_step (own_n p1) (own_step (own_n p1) (0 : Int32) (p2 &&& (3 : Int32))) (((p2.toUInt32 >>> ((2 : Int32) &&& 31).toUInt32).toInt32) &&& (3 : Int32))))] [(.int (3 : Int32)), (.int ((p2.toUInt32 >>> ((4 : Int32) &&& 31).toUInt32).toInt32)), (.int (own_step (own_n p1) (own_step (own_n p1) (0 : Int32) (p2 &&& (3 : Int32))) (((p2.toUInt32 >>> ((2 : Int32) &&& 31).toUInt32).toInt32) &&& (3 : Int32)))), (.int (own_n p1)), (.ref b7)])) _
    refine XS.iand X50.here hx rfl (hb hby at_148) rfl ?_
    show Steps p.tables e below (T50.setTop (mkF m 149 #[.val (.int p1), .val (.int p2), .val (.int (own_n p1)), .val (.ref b1), .val (.ref b7), .val (.int (1 : Int32)), .val (.int (own_step (own_n p1) (own_step (own_n p1) (0 : Int32) (p2 &&& (3 : Int32))) (((p2.toUInt32 >>> ((2 : Int32) &&& 31).toUInt32).toInt32) &&& (3 : Int32))))] [(.int (((p2.toUInt32 >>> ((4 : Int32) &&& 31).toUInt32).toInt32) &&& (3 : Int32))), (.int (own_step (own_n p1) (own_step (own_n p1) (0 : Int32) (p2 &&& (3 : Int32))) (((p2.toUInt32 >>> ((2 : Int32) &&& 31).toUInt32).toInt32) &&& (3 : Int32)))), (.int (own_n p1)), (.ref b7)])) _
    refine st52.trans ?_
    show Steps p.tables e below (T52.setTop (mkF m 152 #[.val (.int p1), .val (.int p2), .val (.int (own_n p1)), .val (.ref b1), .val (.ref b7), .val (.int (1 : Int32)), .val (.int (own_step (own_n p1) (own_step (own_n p1) (0 : Int32) (p2 &&& (3 : Int32))) (((p2.toUInt32 >>> ((2 : Int32) &&& 31).toUInt32).toInt32) &&& (3 : Int32))))] [(.int (own_step (own_n p1) (own_step (own_n p1) (own_step (own_n p1) (0 : Int32) (p2 &&& (3 : Int32))) (((p2.toUInt32 >>> ((2 : Int32) &&& 31).toUInt32).toInt32) &&& (3 : Int32))) (((p2.toUInt32 >>> ((4 : Int32) &&& 31).toUInt32).toInt32) &&& (3 : Int32))))])) _
    refine XS.istore X52.here hx rfl (hb hby at_152) rfl (l' := #[.val (.int p1), .val (.int p2), .val (.int (own_n p1)), .val (.ref b1), .val (.ref b7), .val (.int (1 : Int32)), .val (.int (own_step (own_n p1) (own_step (own_n p1) (own_step (own_n p1) (0 : Int32) (p2 &&& (3 : Int32))) (((p2.toUInt32 >>> ((2 : Int32) &&& 31).toUInt32).toInt32) &&& (3 : Int32))) (((p2.toUInt32 >>> ((4 : Int32) &&& 31).toUInt32).toInt32) &&& (3 : Int32))))]) rfl ?_
    show Steps p.tables e below (T52.setTop (mkF m 154 #[.val (.int p1), .val (.int p2), .val (.int (own_n p1)), .val (.ref b1), .val (.ref b7), .val (.int (1 : Int32)), .val (.int (own_step (own_n p1) (own_step (own_n p1) (own_step (own_n p1) (0 : Int32) (p2 &&& (3 : Int32))) (((p2.toUInt32 >>> ((2 : Int32) &&& 31).toUInt32).toInt32) &&& (3 : Int32))) (((p2.toUInt32 >>> ((4 : Int32) &&& 31).toUInt32).toInt32) &&& (3 : Int32))))] [])) _
    refine XS.iload X52.here hx rfl (hb hby at_154) rfl ?_
    show Steps p.tables e below (T52.setTop (mkF m 156 #[.val (.int p1), .val (.int p2), .val (.int (own_n p1)), .val (.ref b1), .val (.ref b7), .val (.int (1 : Int32)), .val (.int (own_step (own_n p1) (own_step (own_n p1) (own_step (own_n p1) (0 : Int32) (p2 &&& (3 : Int32))) (((p2.toUInt32 >>> ((2 : Int32) &&& 31).toUInt32).toInt32) &&& (3 : Int32))) (((p2.toUInt32 >>> ((4 : Int32) &&& 31).toUInt32).toInt32) &&& (3 : Int32))))] [(.int (1 : Int32))])) _
    refine XS.ifNo X52.here hx rfl (hb hby at_156) rfl ((if0 _ _).trans (feq (by decide : ¬ ((1 : Int32) = (0 : Int32)))).1) ?_
    show Steps p.tables e below (T52.setTop (mkF m 159 #[.val (.int p1), .val (.int p2), .val (.int (own_n p1)), .val (.ref b1), .val (.ref b7), .val (.int (1 : Int32)), .val (.int (own_step (own_n p1) (own_step (own_n p1) (own_step (own_n p1) (0 : Int32) (p2 &&& (3 : Int32))) (((p2.toUInt32 >>> ((2 : Int32) &&& 31).toUInt32).toInt32) &&& (3 : Int32))) (((p2.toUInt32 >>> ((4 : Int32) &&& 31).toUInt32).toInt32) &&& (3 : Int32))))] [])) _
    refine XS.aload X52.here hx rfl (hb hby at_159) rfl rfl ?_
    show Steps p.tables e below (T52.setTop (mkF m 161 #[.val (.int p1), .val (.int p2), .val (.int (own_n p1)), .val (.ref b1), .val (.ref b7), .val (.int (1 : Int32)), .val (.int (own_step (own_n p1) (own_step (own_n p1) (own_step (own_n p1) (0 : Int32) (p2 &&& (3 : Int32))) (((p2.toUInt32 >>> ((2 : Int32) &&& 31).toUInt32).toInt32) &&& (3 : Int32))) (((p2.toUInt32 >>> ((4 : Int32) &&& 31).toUInt32).toInt32) &&& (3 : Int32))))] [(.ref b7)])) _
    refine st62.trans ?_
    show Steps p.tables e below (T62.setTop (mkF m 164 #[.val (.int p1), .val (.int p2), .val (.int (own_n p1)), .val (.ref b1), .val (.ref b7), .val (.int (1 : Int32)), .val (.int (own_step (own_n p1) (own_step (own_n p1) (own_step (own_n p1) (0 : Int32) (p2 &&& (3 : Int32))) (((p2.toUInt32 >>> ((2 : Int32) &&& 31).toUInt32).toInt32) &&& (3 : Int32))) (((p2.toUInt32 >>> ((4 : Int32) &&& 31).toUInt32).toInt32) &&& (3 : Int32))))] [(.int (f_has (own_step (own_n p1) (own_step (own_n p1) (own_step (own_n p1) (0 : Int32) (p2 &&& (3 : Int32))) (((p2.toUInt32 >>> ((2 : Int32) &&& 31).toUInt32).toInt32) &&& (3 : Int32))) (((p2.toUInt32 >>> ((4 : Int32) &&& 31).toUInt32).toInt32) &&& (3 : Int32))) (own_n p1)))])) _
    refine XS.iload X62.here hx rfl (hb hby at_164) rfl ?_
    refine XS.iloadN X62.here hx rfl (hb hby at_166) rfl ?_
    show Steps p.tables e below (T62.setTop (mkF m 167 #[.val (.int p1), .val (.int p2), .val (.int (own_n p1)), .val (.ref b1), .val (.ref b7), .val (.int (1 : Int32)), .val (.int (own_step (own_n p1) (own_step (own_n p1) (own_step (own_n p1) (0 : Int32) (p2 &&& (3 : Int32))) (((p2.toUInt32 >>> ((2 : Int32) &&& 31).toUInt32).toInt32) &&& (3 : Int32))) (((p2.toUInt32 >>> ((4 : Int32) &&& 31).toUInt32).toInt32) &&& (3 : Int32))))] [(.int (own_n p1)), (.int (own_step (own_n p1) (own_step (own_n p1) (own_step (own_n p1) (0 : Int32) (p2 &&& (3 : Int32))) (((p2.toUInt32 >>> ((2 : Int32) &&& 31).toUInt32).toInt32) &&& (3 : Int32))) (((p2.toUInt32 >>> ((4 : Int32) &&& 31).toUInt32).toInt32) &&& (3 : Int32)))), (.int (f_has (own_step (own_n p1) (own_step (own_n p1) (own_step (own_n p1) (0 : Int32) (p2 &&& (3 : Int32))) (((p2.toUInt32 >>> ((2 : Int32) &&& 31).toUInt32).toInt32) &&& (3 : Int32))) (((p2.toUInt32 >>> ((4 : Int32) &&& 31).toUInt32).toInt32) &&& (3 : Int32))) (own_n p1)))])) _
    refine XS.icmpYes X62.here hx rfl (pc0 := 167) (pc' := 174) rfl (hb hby at_167) rfl (flt hc6).2.1 (by decide) (by decide) ?_
    show Steps p.tables e below (T62.setTop (mkF m 174 #[.val (.int p1), .val (.int p2), .val (.int (own_n p1)), .val (.ref b1), .val (.ref b7), .val (.int (1 : Int32)), .val (.int (own_step (own_n p1) (own_step (own_n p1) (own_step (own_n p1) (0 : Int32) (p2 &&& (3 : Int32))) (((p2.toUInt32 >>> ((2 : Int32) &&& 31).toUInt32).toInt32) &&& (3 : Int32))) (((p2.toUInt32 >>> ((4 : Int32) &&& 31).toUInt32).toInt32) &&& (3 : Int32))))] [(.int (f_has (own_step (own_n p1) (own_step (own_n p1) (own_step (own_n p1) (0 : Int32) (p2 &&& (3 : Int32))) (((p2.toUInt32 >>> ((2 : Int32) &&& 31).toUInt32).toInt32) &&& (3 : Int32))) (((p2.toUInt32 >>> ((4 : Int32) &&& 31).toUInt32).toInt32) &&& (3 : Int32))) (own_n p1)))])) _
    refine XS.iconst X62.here hx rfl (hb hby at_174) ?_
    show Steps p.tables e below (T62.setTop (mkF m 175 #[.val (.int p1), .val (.int p2), .val (.int (own_n p1)), .val (.ref b1), .val (.ref b7), .val (.int (1 : Int32)), .val (.int (own_step (own_n p1) (own_step (own_n p1) (own_step (own_n p1) (0 : Int32) (p2 &&& (3 : Int32))) (((p2.toUInt32 >>> ((2 : Int32) &&& 31).toUInt32).toInt32) &&& (3 : Int32))) (((p2.toUInt32 >>> ((4 : Int32) &&& 31).toUInt32).toInt32) &&& (3 : Int32))))] [(.int (0 : Int32)), (.int (f_has (own_step (own_n p1) (own_step (own_n p1) (own_step (own_n p1) (0 : Int32) (p2 &&& (3 : Int32))) (((p2.toUInt32 >>> ((2 : Int32) &&& 31).toUInt32).toInt32) &&& (3 : Int32))) (((p2.toUInt32 >>> ((4 : Int32) &&& 31).toUInt32).toInt32) &&& (3 : Int32))) (own_n p1)))])) _
    refine XS.icmpNo X62.here hx rfl (hb hby at_175) rfl (teq hc7).2 ?_
    show Steps p.tables e below (T62.setTop (mkF m 178 #[.val (.int p1), .val (.int p2), .val (.int (own_n p1)), .val (.ref b1), .val (.ref b7), .val (.int (1 : Int32)), .val (.int (own_step (own_n p1) (own_step (own_n p1) (own_step (own_n p1) (0 : Int32) (p2 &&& (3 : Int32))) (((p2.toUInt32 >>> ((2 : Int32) &&& 31).toUInt32).toInt32) &&& (3 : Int32))) (((p2.toUInt32 >>> ((4 : Int32) &&& 31).toUInt32).toInt32) &&& (3 : Int32))))] [])) _
    refine XS.iconst X62.here hx rfl (hb hby at_178) ?_
    show Steps p.tables e below (T62.setTop (mkF m 179 #[.val (.int p1), .val (.int p2), .val (.int (own_n p1)), .val (.ref b1), .val (.ref b7), .val (.int (1 : Int32)), .val (.int (own_step (own_n p1) (own_step (own_n p1) (own_step (own_n p1) (0 : Int32) (p2 &&& (3 : Int32))) (((p2.toUInt32 >>> ((2 : Int32) &&& 31).toUInt32).toInt32) &&& (3 : Int32))) (((p2.toUInt32 >>> ((4 : Int32) &&& 31).toUInt32).toInt32) &&& (3 : Int32))))] [(.int (1 : Int32))])) _
    refine XS.goto X62.here hx rfl (pc0 := 179) (pc' := 183) rfl (hb hby at_179) (by decide) (by decide) ?_
    show Steps p.tables e below (T62.setTop (mkF m 183 #[.val (.int p1), .val (.int p2), .val (.int (own_n p1)), .val (.ref b1), .val (.ref b7), .val (.int (1 : Int32)), .val (.int (own_step (own_n p1) (own_step (own_n p1) (own_step (own_n p1) (0 : Int32) (p2 &&& (3 : Int32))) (((p2.toUInt32 >>> ((2 : Int32) &&& 31).toUInt32).toInt32) &&& (3 : Int32))) (((p2.toUInt32 >>> ((4 : Int32) &&& 31).toUInt32).toInt32) &&& (3 : Int32))))] [(.int (1 : Int32))])) _
    refine XS.istore X62.here hx rfl (hb hby at_183) rfl (l' := #[.val (.int p1), .val (.int p2), .val (.int (own_n p1)), .val (.ref b1), .val (.ref b7), .val (.int (1 : Int32)), .val (.int (own_step (own_n p1) (own_step (own_n p1) (own_step (own_n p1) (0 : Int32) (p2 &&& (3 : Int32))) (((p2.toUInt32 >>> ((2 : Int32) &&& 31).toUInt32).toInt32) &&& (3 : Int32))) (((p2.toUInt32 >>> ((4 : Int32) &&& 31).toUInt32).toInt32) &&& (3 : Int32))))]) rfl ?_
    show Steps p.tables e below (T62.setTop (mkF m 185 #[.val (.int p1), .val (.int p2), .val (.int (own_n p1)), .val (.ref b1), .val (.ref b7), .val (.int (1 : Int32)), .val (.int (own_step (own_n p1) (own_step (own_n p1) (own_step (own_n p1) (0 : Int32) (p2 &&& (3 : Int32))) (((p2.toUInt32 >>> ((2 : Int32) &&& 31).toUInt32).toInt32) &&& (3 : Int32))) (((p2.toUInt32 >>> ((4 : Int32) &&& 31).toUInt32).toInt32) &&& (3 : Int32))))] [])) _
    refine XS.iload X62.here hx rfl (hb hby at_185) rfl ?_
    show Steps p.tables e below (T62.setTop (mkF m 187 #[.val (.int p1), .val (.int p2), .val (.int (own_n p1)), .val (.ref b1), .val (.ref b7), .val (.int (1 : Int32)), .val (.int (own_step (own_n p1) (own_step (own_n p1) (own_step (own_n p1) (0 : Int32) (p2 &&& (3 : Int32))) (((p2.toUInt32 >>> ((2 : Int32) &&& 31).toUInt32).toInt32) &&& (3 : Int32))) (((p2.toUInt32 >>> ((4 : Int32) &&& 31).toUInt32).toInt32) &&& (3 : Int32))))] [(.int (1 : Int32))])) _
    exact retN X62 hx (t := .boolean) Bd.returns (by simp) (hb hby at_187) hr
  · show Q_law Z p1 p2 s_F s_C h0 n0 _ T62.heap _
    rw [e62]
    exact ⟨rfl, N63⟩
  · show CHr Z consts_1 s.vm s.heap T62.vm T62.heap
    rw [hh, e62]
    exact CR.trans (CHv.at X62 hZ hEW CR.1)
def Road_r3 (Z : State) (h0 : Heap) (p1 : Int32) (p2 : Int32) (s_F : Value) (s_C : Addr) : Prop := (Sta Z h0 "jdk/internal/util/Preconditions" "SIOOBE_FORMATTER" "Ljava/util/function/BiFunction;" s_F) ∧ (s_F.isRef = true) ∧ (Sta Z h0 "java/nio/charset/StandardCharsets" "ISO_8859_1" "Ljava/nio/charset/Charset;" (.ref s_C)) ∧ (Exa Z h0 s_C "sun/nio/cs/ISO_8859_1") ∧ (¬ ((own_n p1) < (0 : Int32))) ∧ ((own_n p1).toNatClampNeg ≤ 16) ∧ ((0 : Int32).toInt ≤ (own_n p1).toInt) ∧ ((own_n p1).toInt ≤ 16) ∧ ((p2 &&& (3 : Int32)) = (0 : Int32) ∨ (p2 &&& (3 : Int32)) = (1 : Int32) ∨ (p2 &&& (3 : Int32)) = (2 : Int32) ∨ (p2 &&& (3 : Int32)) = (3 : Int32)) ∧ (0 ≤ (own_step (own_n p1) (0 : Int32) (p2 &&& (3 : Int32))).toInt) ∧ ((own_step (own_n p1) (0 : Int32) (p2 &&& (3 : Int32))).toInt ≤ (own_n p1).toInt) ∧ ((((p2.toUInt32 >>> ((2 : Int32) &&& 31).toUInt32).toInt32) &&& (3 : Int32)) = (0 : Int32) ∨ (((p2.toUInt32 >>> ((2 : Int32) &&& 31).toUInt32).toInt32) &&& (3 : Int32)) = (1 : Int32) ∨ (((p2.toUInt32 >>> ((2 : Int32) &&& 31).toUInt32).toInt32) &&& (3 : Int32)) = (2 : Int32) ∨ (((p2.toUInt32 >>> ((2 : Int32) &&& 31).toUInt32).toInt32) &&& (3 : Int32)) = (3 : Int32)) ∧ (0 ≤ (own_step (own_n p1) (own_step (own_n p1) (0 : Int32) (p2 &&& (3 : Int32))) (((p2.toUInt32 >>> ((2 : Int32) &&& 31).toUInt32).toInt32) &&& (3 : Int32))).toInt) ∧ ((own_step (own_n p1) (own_step (own_n p1) (0 : Int32) (p2 &&& (3 : Int32))) (((p2.toUInt32 >>> ((2 : Int32) &&& 31).toUInt32).toInt32) &&& (3 : Int32))).toInt ≤ (own_n p1).toInt) ∧ ((((p2.toUInt32 >>> ((4 : Int32) &&& 31).toUInt32).toInt32) &&& (3 : Int32)) = (0 : Int32) ∨ (((p2.toUInt32 >>> ((4 : Int32) &&& 31).toUInt32).toInt32) &&& (3 : Int32)) = (1 : Int32) ∨ (((p2.toUInt32 >>> ((4 : Int32) &&& 31).toUInt32).toInt32) &&& (3 : Int32)) = (2 : Int32) ∨ (((p2.toUInt32 >>> ((4 : Int32) &&& 31).toUInt32).toInt32) &&& (3 : Int32)) = (3 : Int32)) ∧ ((0 : Int32) < (own_n p1)) ∧ ((f_has (0 : Int32) (own_n p1)) = (1 : Int32)) ∧ ((own_step (own_n p1) (0 : Int32) (p2 &&& (3 : Int32))) < (own_n p1)) ∧ ((f_has (own_step (own_n p1) (0 : Int32) (p2 &&& (3 : Int32))) (own_n p1)) = (1 : Int32)) ∧ ((own_step (own_n p1) (own_step (own_n p1) (0 : Int32) (p2 &&& (3 : Int32))) (((p2.toUInt32 >>> ((2 : Int32) &&& 31).toUInt32).toInt32) &&& (3 : Int32))) < (own_n p1)) ∧ ((f_has (own_step (own_n p1) (own_step (own_n p1) (0 : Int32) (p2 &&& (3 : Int32))) (((p2.toUInt32 >>> ((2 : Int32) &&& 31).toUInt32).toInt32) &&& (3 : Int32))) (own_n p1)) = (1 : Int32)) ∧ (¬ ((own_step (own_n p1) (own_step (own_n p1) (own_step (own_n p1) (0 : Int32) (p2 &&& (3 : Int32))) (((p2.toUInt32 >>> ((2 : Int32) &&& 31).toUInt32).toInt32) &&& (3 : Int32))) (((p2.toUInt32 >>> ((4 : Int32) &&& 31).toUInt32).toInt32) &&& (3 : Int32))) < (own_n p1))) ∧ ((f_has (own_step (own_n p1) (own_step (own_n p1) (own_step (own_n p1) (0 : Int32) (p2 &&& (3 : Int32))) (((p2.toUInt32 >>> ((2 : Int32) &&& 31).toUInt32).toInt32) &&& (3 : Int32))) (((p2.toUInt32 >>> ((4 : Int32) &&& 31).toUInt32).toInt32) &&& (3 : Int32))) (own_n p1)) = (0 : Int32))
set_option maxRecDepth 65536 in
set_option maxHeartbeats 40000000 in
theorem rm_law_r3 (l : Launch) (Z : State) (a0 : Array Value) (hw : ∀ d ∈ tables_1, d.before a0 Z = true) (ws : List Jvm.Cond) (p1 : Int32) (p2 : Int32) (s_F : Value) (s_C : Addr) (h0 : Heap) (n0 : Nat) (Z0 : n0 ≤ h0.size) (hroad : Road_r3 Z h0 p1 p2 s_F s_C) :
    MetFree l x (head1 (Jvm.Cond.code x code maxLocals ret :: ws) room_1) (fun a U => a = #[(.int p1), (.int p2)] ∧ Z.Warmed39 U.vm ∧ U.heap = h0 ∧ CHv Z consts_1 U.vm h0) (fun _ _ _ _ _ => True) (fun _ U o U' => ∃ v L, o = .returned v ∧ Q_law Z p1 p2 s_F s_C h0 n0 v U'.heap L ∧ CHr Z consts_1 U.vm U.heap U'.vm U'.heap ∧ ReturnedEndW U o U' L room_1.cells room_1.slots) := by
  obtain ⟨S_SIOOBE_FORMATTER, hsr, S_ISO_8859_1, E_s_C, hp1, hp2, hp3, hp4, hp5, hp6, hp7, hp8, hp9, hp10, hp11, hc0, hc1, hc2, hc3, hc4, hc5, hc6, hc7⟩ := hroad
  refine MetFree.of_bodySF (plainFor_of_name pn_com_example_fieldstone_fieldstone_core_KeyReaderHasRemainingPinLaw) hisR ?_
  intro p e s m args below meth c s₁ Bd hml0 hP hK
  obtain ⟨rfl, hZ, hh, CH0⟩ := hP
  have hx := Bd.exec
  have hby := Bd.bytes
  have hml : c.maxLocals = 7 := hml0
  have hown : s.vm.findClass "com/example/fieldstone/fieldstone/core/KeyReaderHasRemainingPinLaw" = some m.cls := findClass_of_methodNamed Bd.named
  have hnm := (name_of_methodNamed Bd.named Bd.method).1
  have X0 : Stand p l e room_1 s m #[(.int p1), (.int p2)] below meth c s₁ [] 0 0 := Stand.of_body Bd
  have e0 : s₁.heap = h0 := by rw [← hh, Bd.state]; rfl
  have N0 := Fr.nil n0
  have hZ : Z.Warmed39 (s.setVm s.vm).vm := hZ
  have hown : (s.setVm s.vm).vm.findClass "com/example/fieldstone/fieldstone/core/KeyReaderHasRemainingPinLaw" = some m.cls := hown
  have hZ0 := hZ
  have hown0 := hown
  have X0 : Stand p l e room_1 (s.setVm s.vm) m #[(.int p1), (.int p2)] below meth c s₁ [] 0 0 := X0
  have hS : s.Since s.vm h0.size := own_since s _
  have hk : h0.size ≤ h0.size := Nat.le_refl _
  have hEW := own_EW hw
  have CR : CHr Z consts_1 s.vm h0 s.vm h0 := CHr.refl CH0
  have pre0 : ∀ t, Steps p.tables e below (s₁.setTop (mkF m 0 #[.val (.int p1), .val (.int p2), .unset, .unset, .unset, .unset, .unset] [])) t → Steps p.tables e below (s₁.setTop (entryFrame m #[(.int p1), (.int p2)] maxLocals)) t := fun t k => castTop (ef_0_II m p1 p2) k
  obtain ⟨T1, h1, k1, X1, e1, E1, A1, Ex1, st1⟩ := newPE X0 hx hZ (hw _ (List.mem_of_getElem? (i := 1) rfl)) e0 (g := (mkF m 9 #[.val (.int p1), .val (.int p2), .val (.int (own_n p1)), .unset, .unset, .unset, .unset] [(.int (own_n p1))])) rfl (hb hby at_9) rfl hp1 (cap := 16) hp2 (by decide) (by decide) (by decide) (ad := "[B") (by decide)
  obtain ⟨b1, g1⟩ : ∃ z, z = h0.size := ⟨_, rfl⟩
  rw [← g1] at A1 Ex1 st1
  have g_b1 : n0 ≤ b1 := Nat.le_trans Z0 (Nat.le_of_eq g1.symm)
  have ne_s_C_b1 : s_C ≠ b1 := Nat.ne_of_lt (Nat.lt_of_lt_of_le E_s_C.lt (Nat.le_of_eq g1.symm))
  have CR := CR.trans (CHr.ext E1 CR.1)
  have f2 : Sta Z h1 "jdk/internal/util/Preconditions" "SIOOBE_FORMATTER" "Ljava/util/function/BiFunction;" s_F := S_SIOOBE_FORMATTER.ext E1
  have f3 : Sta Z h1 "java/nio/charset/StandardCharsets" "ISO_8859_1" "Ljava/nio/charset/Charset;" (.ref s_C) := S_ISO_8859_1.ext E1
  have f4 : Exa Z h1 s_C "sun/nio/cs/ISO_8859_1" := E_s_C.ext E1
  have hk : _ ≤ h1.size := Nat.le_trans hk E1.1
  have Zs5 : n0 ≤ h1.size := Nat.le_trans Z0 E1.1
  have f6 : Arv Z h1 b1 k1 .byte (own_n p1) (List.replicate 16 (Value.int (0 : Int32))) (.int (0 : Int32)) := (Arv.new A1 hp1).pad (pad_rep [] (.int (0 : Int32)) 16)
  obtain ⟨T7, h7, X7, e7, E7, A7, D7, -, st7⟩ := newO X1 hx hZ hown (hw _ (List.mem_of_getElem? (i := 2) rfl)) (hw _ (List.mem_of_getElem? (i := 3) rfl)) (hw _ (List.mem_of_getElem? (i := 4) rfl)) e1 (g := (mkF m 12 #[.val (.int p1), .val (.int p2), .val (.int (own_n p1)), .val (.ref b1), .unset, .unset, .unset] [])) rfl (hb hby at_12) (by decide) (by decide)
  obtain ⟨b7, g7⟩ : ∃ z, z = h1.size := ⟨_, rfl⟩
  rw [← g7] at A7 D7 st7
  have g_b7 : n0 ≤ b7 := Nat.le_trans Zs5 (Nat.le_of_eq g7.symm)
  have ne_s_C_b7 : s_C ≠ b7 := Nat.ne_of_lt (Nat.lt_of_lt_of_le f4.lt (Nat.le_of_eq g7.symm))
  have ne_b1_b7 : b1 ≠ b7 := Nat.ne_of_lt (Nat.lt_of_lt_of_le Ex1.lt (Nat.le_of_eq g7.symm))
  have CR := CR.trans (CHr.ext E7 CR.1)
  have f8 : Sta Z h7 "jdk/internal/util/Preconditions" "SIOOBE_FORMATTER" "Ljava/util/function/BiFunction;" s_F := f2.ext E7
  have f9 : Sta Z h7 "java/nio/charset/StandardCharsets" "ISO_8859_1" "Ljava/nio/charset/Charset;" (.ref s_C) := f3.ext E7
  have f10 : Exa Z h7 s_C "sun/nio/cs/ISO_8859_1" := f4.ext E7
  have f11 : Exa Z h7 b1 "[B" := Ex1.ext E7
  have f12 : Arv Z h7 b1 k1 .byte (own_n p1) (List.replicate 16 (Value.int (0 : Int32))) (.int (0 : Int32)) := f6.ext E7
  have hk : _ ≤ h7.size := Nat.le_trans hk E7.1
  have Zs13 : n0 ≤ h7.size := Nat.le_trans Zs5 E7.1
  have f14 : Fld Z h7 b7 "com/example/fieldstone/fieldstone/core/KeyReader" "key" "[B" .null := D7 (Or.inr (hw _ (List.mem_of_getElem? (i := 25) rfl))) (ty := (.array .byte)) (by decide)
  have f15 : Fld Z h7 b7 "com/example/fieldstone/fieldstone/core/KeyReader" "position" "I" (.int (0 : Int32)) := D7 (Or.inl (hw _ (List.mem_of_getElem? (i := 32) rfl))) (ty := .int) (by decide)
  obtain ⟨_, _, ⟨T16, L16, k16, n16⟩, -, X16, hS16, hg16, ⟨Lc16, hQ16, l16, y16, z16, CR16⟩, st16⟩ := X7.specialBackS hx (y := (⟨"com/example/fieldstone/fieldstone/core/KeyReader", "<init>", "([B)V"⟩ : MethodName)) rfl hown (mvT hZ (hw _ (List.mem_of_getElem? (i := 5) rfl))) (mvT hZ (hw _ (List.mem_of_getElem? (i := 6) rfl))) (mvT hZ (hw _ (List.mem_of_getElem? (i := 7) rfl))) (by decide) (backOfSH (W := 1) (rm_init l Z a0 hw [] b7 b1 h7 n0 Zs13 f11 A7 f14 g_b7 f15) hZ (hw _ (List.mem_of_getElem? (i := 7) rfl)) (hw _ (List.mem_of_getElem? (i := 4) rfl)) (by decide) (by decide) hEW CR.1) (g := (mkF m 17 #[.val (.int p1), .val (.int p2), .val (.int (own_n p1)), .val (.ref b1), .unset, .unset, .unset] [(.ref b1), (.ref b7), (.ref b7)])) rfl (by rw [hml]; rfl) (Steps.refl _) (a := b7) (argsL := [(.ref b1)]) (rest := [(.ref b7)]) (lenOf pd_11 rfl) rfl (by show 2 * 0 + _ ≤ _; exact Nat.le_of_eq rfl) (hb hby at_17) (fun _ _ => ⟨rfl, e7, (by decide : 2 + 2 ≤ _), (by decide : 18 + 16 ≤ _)⟩)
  dsimp only [Pt.U, Pt.locs, Pt.cells, Pt.slots] at X16 l16 y16 z16 st16 hQ16 hS16 hg16 CR16
  subst l16 y16 z16
  rw [e7] at hg16
  obtain ⟨X16, hS, hZ, hown⟩ := rebS hS hk X16 hS16 hg16 hZ hown
  have hZ16 := hZ
  have hown16 := hown
  have hk : _ ≤ T16.heap.size := Nat.le_refl _
  have CR := CR.trans CR16
  obtain ⟨rfl, Nq16, Kc16, fq16_0, fq16_1, fq16_2⟩ := hQ16
  have f18 : Sta Z T16.heap "jdk/internal/util/Preconditions" "SIOOBE_FORMATTER" "Ljava/util/function/BiFunction;" s_F := own_sta_keep f8 Kc16 (allS (own_plain_cell A7) all0)
  have f19 : Sta Z T16.heap "java/nio/charset/StandardCharsets" "ISO_8859_1" "Ljava/nio/charset/Charset;" (.ref s_C) := own_sta_keep f9 Kc16 (allS (own_plain_cell A7) all0)
  have f20 : Exa Z T16.heap s_C "sun/nio/cs/ISO_8859_1" := f10.keep Kc16
  have f21 : Exa Z T16.heap b1 "[B" := f11.keep Kc16
  have f22 : Arv Z T16.heap b1 k1 .byte (own_n p1) (List.replicate 16 (Value.int (0 : Int32))) (.int (0 : Int32)) := f12.keep Kc16 (ninS ne_b1_b7 nin0)
  have f23 : Fld Z T16.heap b7 "com/example/fieldstone/fieldstone/core/KeyReader" "key" "[B" (.ref b1) := fq16_1
  have f24 : Fld Z T16.heap b7 "com/example/fieldstone/fieldstone/core/KeyReader" "position" "I" (.int (0 : Int32)) := fq16_2
  have Zs25 : n0 ≤ T16.heap.size := Nat.le_trans Zs13 Kc16.1
  have N17 := Fr.app N0 Nq16
  obtain ⟨cq26, kq26, q26a, q26b, q26c⟩ := isOf hZ rfl fq16_0
  obtain ⟨_, _, ⟨T26, L26, k26, n26⟩, -, X26, ⟨Lc26, hQ26, l26, y26, z26⟩, st26⟩ := X16.virtualBack hx (y := (⟨"com/example/fieldstone/fieldstone/core/KeyReader", "hasRemaining", "()Z"⟩ : MethodName)) (z := (⟨"com/example/fieldstone/fieldstone/core/KeyReader", "hasRemaining", "()Z"⟩ : MethodName)) hown (mvT hZ (hw _ (List.mem_of_getElem? (i := 26) rfl))) (mvT hZ (hw _ (List.mem_of_getElem? (i := 27) rfl))) (notFace_of_selects (args := #[]) (mvT hZ (hw _ (List.mem_of_getElem? (i := 29) rfl)))) (mvT hZ (hw _ (List.mem_of_getElem? (i := 29) rfl))) (mvT hZ (hw _ (List.mem_of_getElem? (i := 28) rfl))) (by decide) (backOf (W := 0) (rm_has l Z a0 hw [] b7 (0 : Int32) b1 k1 (own_n p1) (List.replicate 16 (Value.int (0 : Int32))) T16.heap n0 Zs25 f24 f23 f22) hZ (hw _ (List.mem_of_getElem? (i := 30) rfl)) (hw _ (List.mem_of_getElem? (i := 4) rfl)) (by decide) (by decide)) q26a q26c (g := (mkF m 24 #[.val (.int p1), .val (.int p2), .val (.int (own_n p1)), .val (.ref b1), .val (.ref b7), .unset, .unset] [(.ref b7)])) rfl (by rw [hml]; rfl) (Steps.refl _) (argsL := []) (rest := []) (lenOf pd_7 rfl) rfl (by show 2 * 0 + _ ≤ _; exact Nat.le_of_eq rfl) (hb hby at_24) (fun _ _ => ⟨rfl, rfl, (by decide : 4 + 0 ≤ _), (by decide : 34 + 0 ≤ _)⟩)
  dsimp only [Pt.U, Pt.locs, Pt.cells, Pt.slots] at X26 l26 y26 z26 st26 hQ26
  subst l26 y26 z26
  obtain ⟨rfl, Nq26, e26⟩ := hQ26
  have N27 := Fr.app N17 Nq26
  obtain ⟨_, _, ⟨T28, L28, k28, n28⟩, -, X28, hS28, hg28, ⟨Lc28, hQ28, l28, y28, z28, CR28⟩, st28⟩ := Jvm.RoadKit.callSS X26 hx (y := (⟨"com/example/fieldstone/fieldstone/core/KeyReaderHasRemainingPinLaw", "step", "(Lcom/example/fieldstone/fieldstone/core/KeyReader;III)I"⟩ : MethodName)) hown (mvT hZ (hw _ (List.mem_of_getElem? (i := 33) rfl))) (mvT hZ (hw _ (List.mem_of_getElem? (i := 34) rfl))) (mvT hZ (hw _ (List.mem_of_getElem? (i := 35) rfl))) (mvT hZ (hw _ (List.mem_of_getElem? (i := 36) rfl))) (by decide) (backOfSH (W := 0) (rm_step l Z a0 hw [] b7 (own_n p1) (0 : Int32) (p2 &&& (3 : Int32)) b1 k1 s_F s_C T16.heap n0 Zs25 f23 f21 f22 f24 fq16_0 g_b7 f18 hsr f19 f20 (by decide) hp3 hp4 hp5) hZ (hw _ (List.mem_of_getElem? (i := 36) rfl)) (hw _ (List.mem_of_getElem? (i := 35) rfl)) (by decide) (by decide) hEW CR.1) (g := (mkF m 57 #[.val (.int p1), .val (.int p2), .val (.int (own_n p1)), .val (.ref b1), .val (.ref b7), .val (.int (1 : Int32)), .val (.int (0 : Int32))] [(.int (p2 &&& (3 : Int32))), (.int (0 : Int32)), (.int (own_n p1)), (.ref b7)])) rfl (by rw [hml]; rfl) (argsL := [(.ref b7), (.int (own_n p1)), (.int (0 : Int32)), (.int (p2 &&& (3 : Int32)))]) (rest := []) (lenOf pd_12 rfl) rfl (by show 2 * 0 + _ ≤ _; exact Nat.le_of_eq rfl) (hb hby at_57) (fun _ _ => ⟨rfl, e26, (by decide : 4 + 5 ≤ _), (by decide : 34 + 12 ≤ _)⟩)
  dsimp only [Pt.U, Pt.locs, Pt.cells, Pt.slots] at X28 l28 y28 z28 st28 hQ28 hS28 hg28 CR28
  subst l28 y28 z28
  rw [e26] at hg28
  obtain ⟨X28, hS, hZ, hown⟩ := rebS hS hk X28 hS28 hg28 hZ hown
  have hZ28 := hZ
  have hown28 := hown
  have hk : _ ≤ T28.heap.size := Nat.le_refl _
  have CR := CR.trans CR28
  obtain ⟨rfl, Nq28, Kc28, fq28_0, fq28_1, fq28_2⟩ := hQ28
  have f30 : Sta Z T28.heap "jdk/internal/util/Preconditions" "SIOOBE_FORMATTER" "Ljava/util/function/BiFunction;" s_F := own_sta_keep f18 Kc28 (allS (own_plain_cell fq16_0) all0)
  have f31 : Sta Z T28.heap "java/nio/charset/StandardCharsets" "ISO_8859_1" "Ljava/nio/charset/Charset;" (.ref s_C) := own_sta_keep f19 Kc28 (allS (own_plain_cell fq16_0) all0)
  have f32 : Exa Z T28.heap s_C "sun/nio/cs/ISO_8859_1" := f20.keep Kc28
  have f33 : Exa Z T28.heap b1 "[B" := f21.keep Kc28
  have f34 : Arv Z T28.heap b1 k1 .byte (own_n p1) (List.replicate 16 (Value.int (0 : Int32))) (.int (0 : Int32)) := f22.keep Kc28 (ninS ne_b1_b7 nin0)
  have f35 : Fld Z T28.heap b7 "com/example/fieldstone/fieldstone/core/KeyReader" "key" "[B" (.ref b1) := fq28_1
  have f36 : Fld Z T28.heap b7 "com/example/fieldstone/fieldstone/core/KeyReader" "position" "I" (.int (own_step (own_n p1) (0 : Int32) (p2 &&& (3 : Int32)))) := fq28_2
  have Zs37 : n0 ≤ T28.heap.size := Nat.le_trans Zs25 Kc28.1
  have N29 := Fr.app N27 Nq28
  obtain ⟨cq38, kq38, q38a, q38b, q38c⟩ := isOf hZ rfl fq28_0
  obtain ⟨_, _, ⟨T38, L38, k38, n38⟩, -, X38, ⟨Lc38, hQ38, l38, y38, z38⟩, st38⟩ := X28.virtualBack hx (y := (⟨"com/example/fieldstone/fieldstone/core/KeyReader", "hasRemaining", "()Z"⟩ : MethodName)) (z := (⟨"com/example/fieldstone/fieldstone/core/KeyReader", "hasRemaining", "()Z"⟩ : MethodName)) hown (mvT hZ (hw _ (List.mem_of_getElem? (i := 26) rfl))) (mvT hZ (hw _ (List.mem_of_getElem? (i := 27) rfl))) (notFace_of_selects (args := #[]) (mvT hZ (hw _ (List.mem_of_getElem? (i := 29) rfl)))) (mvT hZ (hw _ (List.mem_of_getElem? (i := 29) rfl))) (mvT hZ (hw _ (List.mem_of_getElem? (i := 28) rfl))) (by decide) (backOf (W := 0) (rm_has l Z a0 hw [] b7 (own_step (own_n p1) (0 : Int32) (p2 &&& (3 : Int32))) b1 k1 (own_n p1) (List.replicate 16 (Value.int (0 : Int32))) T28.heap n0 Zs37 f36 f35 f34) hZ (hw _ (List.mem_of_getElem? (i := 30) rfl)) (hw _ (List.mem_of_getElem? (i := 4) rfl)) (by decide) (by decide)) q38a q38c (g := (mkF m 69 #[.val (.int p1), .val (.int p2), .val (.int (own_n p1)), .val (.ref b1), .val (.ref b7), .val (.int (1 : Int32)), .val (.int (own_step (own_n p1) (0 : Int32) (p2 &&& (3 : Int32))))] [(.ref b7)])) rfl (by rw [hml]; rfl) (Steps.refl _) (argsL := []) (rest := []) (lenOf pd_7 rfl) rfl (by show 2 * 0 + _ ≤ _; exact Nat.le_of_eq rfl) (hb hby at_69) (fun _ _ => ⟨rfl, rfl, (by decide : 9 + 0 ≤ _), (by decide : 46 + 0 ≤ _)⟩)
  dsimp only [Pt.U, Pt.locs, Pt.cells, Pt.slots] at X38 l38 y38 z38 st38 hQ38
  subst l38 y38 z38
  obtain ⟨rfl, Nq38, e38⟩ := hQ38
  have N39 := Fr.app N29 Nq38
  obtain ⟨_, _, ⟨T40, L40, k40, n40⟩, -, X40, hS40, hg40, ⟨Lc40, hQ40, l40, y40, z40, CR40⟩, st40⟩ := Jvm.RoadKit.callSS X38 hx (y := (⟨"com/example/fieldstone/fieldstone/core/KeyReaderHasRemainingPinLaw", "step", "(Lcom/example/fieldstone/fieldstone/core/KeyReader;III)I"⟩ : MethodName)) hown (mvT hZ (hw _ (List.mem_of_getElem? (i := 33) rfl))) (mvT hZ (hw _ (List.mem_of_getElem? (i := 34) rfl))) (mvT hZ (hw _ (List.mem_of_getElem? (i := 35) rfl))) (mvT hZ (hw _ (List.mem_of_getElem? (i := 36) rfl))) (by decide) (backOfSH (W := 0) (rm_step l Z a0 hw [] b7 (own_n p1) (own_step (own_n p1) (0 : Int32) (p2 &&& (3 : Int32))) (((p2.toUInt32 >>> ((2 : Int32) &&& 31).toUInt32).toInt32) &&& (3 : Int32)) b1 k1 s_F s_C T28.heap n0 Zs37 f35 f33 f34 f36 fq28_0 g_b7 f30 hsr f31 f32 hp6 hp7 hp4 hp8) hZ (hw _ (List.mem_of_getElem? (i := 36) rfl)) (hw _ (List.mem_of_getElem? (i := 35) rfl)) (by decide) (by decide) hEW CR.1) (g := (mkF m 103 #[.val (.int p1), .val (.int p2), .val (.int (own_n p1)), .val (.ref b1), .val (.ref b7), .val (.int (1 : Int32)), .val (.int (own_step (own_n p1) (0 : Int32) (p2 &&& (3 : Int32))))] [(.int (((p2.toUInt32 >>> ((2 : Int32) &&& 31).toUInt32).toInt32) &&& (3 : Int32))), (.int (own_step (own_n p1) (0 : Int32) (p2 &&& (3 : Int32)))), (.int (own_n p1)), (.ref b7)])) rfl (by rw [hml]; rfl) (argsL := [(.ref b7), (.int (own_n p1)), (.int (own_step (own_n p1) (0 : Int32) (p2 &&& (3 : Int32)))), (.int (((p2.toUInt32 >>> ((2 : Int32) &&& 31).toUInt32).toInt32) &&& (3 : Int32)))]) (rest := []) (lenOf pd_12 rfl) rfl (by show 2 * 0 + _ ≤ _; exact Nat.le_of_eq rfl) (hb hby at_103) (fun _ _ => ⟨rfl, e38, (by decide : 9 + 5 ≤ _), (by decide : 46 + 12 ≤ _)⟩)
  dsimp only [Pt.U, Pt.locs, Pt.cells, Pt.slots] at X40 l40 y40 z40 st40 hQ40 hS40 hg40 CR40
  subst l40 y40 z40
  rw [e38] at hg40
  obtain ⟨X40, hS, hZ, hown⟩ := rebS hS hk X40 hS40 hg40 hZ hown
  have hZ40 := hZ
  have hown40 := hown
  have hk : _ ≤ T40.heap.size := Nat.le_refl _
  have CR := CR.trans CR40
  obtain ⟨rfl, Nq40, Kc40, fq40_0, fq40_1, fq40_2⟩ := hQ40
  have f42 : Sta Z T40.heap "jdk/internal/util/Preconditions" "SIOOBE_FORMATTER" "Ljava/util/function/BiFunction;" s_F := own_sta_keep f30 Kc40 (allS (own_plain_cell fq28_0) all0)
  have f43 : Sta Z T40.heap "java/nio/charset/StandardCharsets" "ISO_8859_1" "Ljava/nio/charset/Charset;" (.ref s_C) := own_sta_keep f31 Kc40 (allS (own_plain_cell fq28_0) all0)
  have f44 : Exa Z T40.heap s_C "sun/nio/cs/ISO_8859_1" := f32.keep Kc40
  have f45 : Exa Z T40.heap b1 "[B" := f33.keep Kc40
  have f46 : Arv Z T40.heap b1 k1 .byte (own_n p1) (List.replicate 16 (Value.int (0 : Int32))) (.int (0 : Int32)) := f34.keep Kc40 (ninS ne_b1_b7 nin0)
  have f47 : Fld Z T40.heap b7 "com/example/fieldstone/fieldstone/core/KeyReader" "key" "[B" (.ref b1) := fq40_1
  have f48 : Fld Z T40.heap b7 "com/example/fieldstone/fieldstone/core/KeyReader" "position" "I" (.int (own_step (own_n p1) (own_step (own_n p1) (0 : Int32) (p2 &&& (3 : Int32))) (((p2.toUInt32 >>> ((2 : Int32) &&& 31).toUInt32).toInt32) &&& (3 : Int32)))) := fq40_2
  have Zs49 : n0 ≤ T40.heap.size := Nat.le_trans Zs37 Kc40.1
  have N41 := Fr.app N39 Nq40
  obtain ⟨cq50, kq50, q50a, q50b, q50c⟩ := isOf hZ rfl fq40_0
  obtain ⟨_, _, ⟨T50, L50, k50, n50⟩, -, X50, ⟨Lc50, hQ50, l50, y50, z50⟩, st50⟩ := X40.virtualBack hx (y := (⟨"com/example/fieldstone/fieldstone/core/KeyReader", "hasRemaining", "()Z"⟩ : MethodName)) (z := (⟨"com/example/fieldstone/fieldstone/core/KeyReader", "hasRemaining", "()Z"⟩ : MethodName)) hown (mvT hZ (hw _ (List.mem_of_getElem? (i := 26) rfl))) (mvT hZ (hw _ (List.mem_of_getElem? (i := 27) rfl))) (notFace_of_selects (args := #[]) (mvT hZ (hw _ (List.mem_of_getElem? (i := 29) rfl)))) (mvT hZ (hw _ (List.mem_of_getElem? (i := 29) rfl))) (mvT hZ (hw _ (List.mem_of_getElem? (i := 28) rfl))) (by decide) (backOf (W := 0) (rm_has l Z a0 hw [] b7 (own_step (own_n p1) (own_step (own_n p1) (0 : Int32) (p2 &&& (3 : Int32))) (((p2.toUInt32 >>> ((2 : Int32) &&& 31).toUInt32).toInt32) &&& (3 : Int32))) b1 k1 (own_n p1) (List.replicate 16 (Value.int (0 : Int32))) T40.heap n0 Zs49 f48 f47 f46) hZ (hw _ (List.mem_of_getElem? (i := 30) rfl)) (hw _ (List.mem_of_getElem? (i := 4) rfl)) (by decide) (by decide)) q50a q50c (g := (mkF m 115 #[.val (.int p1), .val (.int p2), .val (.int (own_n p1)), .val (.ref b1), .val (.ref b7), .val (.int (1 : Int32)), .val (.int (own_step (own_n p1) (own_step (own_n p1) (0 : Int32) (p2 &&& (3 : Int32))) (((p2.toUInt32 >>> ((2 : Int32) &&& 31).toUInt32).toInt32) &&& (3 : Int32))))] [(.ref b7)])) rfl (by rw [hml]; rfl) (Steps.refl _) (argsL := []) (rest := []) (lenOf pd_7 rfl) rfl (by show 2 * 0 + _ ≤ _; exact Nat.le_of_eq rfl) (hb hby at_115) (fun _ _ => ⟨rfl, rfl, (by decide : 14 + 0 ≤ _), (by decide : 58 + 0 ≤ _)⟩)
  dsimp only [Pt.U, Pt.locs, Pt.cells, Pt.slots] at X50 l50 y50 z50 st50 hQ50
  subst l50 y50 z50
  obtain ⟨rfl, Nq50, e50⟩ := hQ50
  have N51 := Fr.app N41 Nq50
  obtain ⟨_, _, ⟨T52, L52, k52, n52⟩, -, X52, hS52, hg52, ⟨Lc52, hQ52, l52, y52, z52, CR52⟩, st52⟩ := Jvm.RoadKit.callSS X50 hx (y := (⟨"com/example/fieldstone/fieldstone/core/KeyReaderHasRemainingPinLaw", "step", "(Lcom/example/fieldstone/fieldstone/core/KeyReader;III)I"⟩ : MethodName)) hown (mvT hZ (hw _ (List.mem_of_getElem? (i := 33) rfl))) (mvT hZ (hw _ (List.mem_of_getElem? (i := 34) rfl))) (mvT hZ (hw _ (List.mem_of_getElem? (i := 35) rfl))) (mvT hZ (hw _ (List.mem_of_getElem? (i := 36) rfl))) (by decide) (backOfSH (W := 0) (rm_step l Z a0 hw [] b7 (own_n p1) (own_step (own_n p1) (own_step (own_n p1) (0 : Int32) (p2 &&& (3 : Int32))) (((p2.toUInt32 >>> ((2 : Int32) &&& 31).toUInt32).toInt32) &&& (3 : Int32))) (((p2.toUInt32 >>> ((4 : Int32) &&& 31).toUInt32).toInt32) &&& (3 : Int32)) b1 k1 s_F s_C T40.heap n0 Zs49 f47 f45 f46 f48 fq40_0 g_b7 f42 hsr f43 f44 hp9 hp10 hp4 hp11) hZ (hw _ (List.mem_of_getElem? (i := 36) rfl)) (hw _ (List.mem_of_getElem? (i := 35) rfl)) (by decide) (by decide) hEW CR.1) (g := (mkF m 149 #[.val (.int p1), .val (.int p2), .val (.int (own_n p1)), .val (.ref b1), .val (.ref b7), .val (.int (1 : Int32)), .val (.int (own_step (own_n p1) (own_step (own_n p1) (0 : Int32) (p2 &&& (3 : Int32))) (((p2.toUInt32 >>> ((2 : Int32) &&& 31).toUInt32).toInt32) &&& (3 : Int32))))] [(.int (((p2.toUInt32 >>> ((4 : Int32) &&& 31).toUInt32).toInt32) &&& (3 : Int32))), (.int (own_step (own_n p1) (own_step (own_n p1) (0 : Int32) (p2 &&& (3 : Int32))) (((p2.toUInt32 >>> ((2 : Int32) &&& 31).toUInt32).toInt32) &&& (3 : Int32)))), (.int (own_n p1)), (.ref b7)])) rfl (by rw [hml]; rfl) (argsL := [(.ref b7), (.int (own_n p1)), (.int (own_step (own_n p1) (own_step (own_n p1) (0 : Int32) (p2 &&& (3 : Int32))) (((p2.toUInt32 >>> ((2 : Int32) &&& 31).toUInt32).toInt32) &&& (3 : Int32)))), (.int (((p2.toUInt32 >>> ((4 : Int32) &&& 31).toUInt32).toInt32) &&& (3 : Int32)))]) (rest := []) (lenOf pd_12 rfl) rfl (by show 2 * 0 + _ ≤ _; exact Nat.le_of_eq rfl) (hb hby at_149) (fun _ _ => ⟨rfl, e50, (by decide : 14 + 5 ≤ _), (by decide : 58 + 12 ≤ _)⟩)
  dsimp only [Pt.U, Pt.locs, Pt.cells, Pt.slots] at X52 l52 y52 z52 st52 hQ52 hS52 hg52 CR52
  subst l52 y52 z52
  rw [e50] at hg52
  obtain ⟨X52, hS, hZ, hown⟩ := rebS hS hk X52 hS52 hg52 hZ hown
  have hZ52 := hZ
  have hown52 := hown
  have hk : _ ≤ T52.heap.size := Nat.le_refl _
  have CR := CR.trans CR52
  obtain ⟨rfl, Nq52, Kc52, fq52_0, fq52_1, fq52_2⟩ := hQ52
  have f54 : Sta Z T52.heap "jdk/internal/util/Preconditions" "SIOOBE_FORMATTER" "Ljava/util/function/BiFunction;" s_F := own_sta_keep f42 Kc52 (allS (own_plain_cell fq40_0) all0)
  have f55 : Sta Z T52.heap "java/nio/charset/StandardCharsets" "ISO_8859_1" "Ljava/nio/charset/Charset;" (.ref s_C) := own_sta_keep f43 Kc52 (allS (own_plain_cell fq40_0) all0)
  have f56 : Exa Z T52.heap s_C "sun/nio/cs/ISO_8859_1" := f44.keep Kc52
  have f57 : Exa Z T52.heap b1 "[B" := f45.keep Kc52
  have f58 : Arv Z T52.heap b1 k1 .byte (own_n p1) (List.replicate 16 (Value.int (0 : Int32))) (.int (0 : Int32)) := f46.keep Kc52 (ninS ne_b1_b7 nin0)
  have f59 : Fld Z T52.heap b7 "com/example/fieldstone/fieldstone/core/KeyReader" "key" "[B" (.ref b1) := fq52_1
  have f60 : Fld Z T52.heap b7 "com/example/fieldstone/fieldstone/core/KeyReader" "position" "I" (.int (own_step (own_n p1) (own_step (own_n p1) (own_step (own_n p1) (0 : Int32) (p2 &&& (3 : Int32))) (((p2.toUInt32 >>> ((2 : Int32) &&& 31).toUInt32).toInt32) &&& (3 : Int32))) (((p2.toUInt32 >>> ((4 : Int32) &&& 31).toUInt32).toInt32) &&& (3 : Int32)))) := fq52_2
  have Zs61 : n0 ≤ T52.heap.size := Nat.le_trans Zs49 Kc52.1
  have N53 := Fr.app N51 Nq52
  obtain ⟨cq62, kq62, q62a, q62b, q62c⟩ := isOf hZ rfl fq52_0
  obtain ⟨_, _, ⟨T62, L62, k62, n62⟩, -, X62, ⟨Lc62, hQ62, l62, y62, z62⟩, st62⟩ := X52.virtualBack hx (y := (⟨"com/example/fieldstone/fieldstone/core/KeyReader", "hasRemaining", "()Z"⟩ : MethodName)) (z := (⟨"com/example/fieldstone/fieldstone/core/KeyReader", "hasRemaining", "()Z"⟩ : MethodName)) hown (mvT hZ (hw _ (List.mem_of_getElem? (i := 26) rfl))) (mvT hZ (hw _ (List.mem_of_getElem? (i := 27) rfl))) (notFace_of_selects (args := #[]) (mvT hZ (hw _ (List.mem_of_getElem? (i := 29) rfl)))) (mvT hZ (hw _ (List.mem_of_getElem? (i := 29) rfl))) (mvT hZ (hw _ (List.mem_of_getElem? (i := 28) rfl))) (by decide) (backOf (W := 0) (rm_has l Z a0 hw [] b7 (own_step (own_n p1) (own_step (own_n p1) (own_step (own_n p1) (0 : Int32) (p2 &&& (3 : Int32))) (((p2.toUInt32 >>> ((2 : Int32) &&& 31).toUInt32).toInt32) &&& (3 : Int32))) (((p2.toUInt32 >>> ((4 : Int32) &&& 31).toUInt32).toInt32) &&& (3 : Int32))) b1 k1 (own_n p1) (List.replicate 16 (Value.int (0 : Int32))) T52.heap n0 Zs61 f60 f59 f58) hZ (hw _ (List.mem_of_getElem? (i := 30) rfl)) (hw _ (List.mem_of_getElem? (i := 4) rfl)) (by decide) (by decide)) q62a q62c (g := (mkF m 161 #[.val (.int p1), .val (.int p2), .val (.int (own_n p1)), .val (.ref b1), .val (.ref b7), .val (.int (1 : Int32)), .val (.int (own_step (own_n p1) (own_step (own_n p1) (own_step (own_n p1) (0 : Int32) (p2 &&& (3 : Int32))) (((p2.toUInt32 >>> ((2 : Int32) &&& 31).toUInt32).toInt32) &&& (3 : Int32))) (((p2.toUInt32 >>> ((4 : Int32) &&& 31).toUInt32).toInt32) &&& (3 : Int32))))] [(.ref b7)])) rfl (by rw [hml]; rfl) (Steps.refl _) (argsL := []) (rest := []) (lenOf pd_7 rfl) rfl (by show 2 * 0 + _ ≤ _; exact Nat.le_of_eq rfl) (hb hby at_161) (fun _ _ => ⟨rfl, rfl, (by decide : 19 + 0 ≤ _), (by decide : 70 + 0 ≤ _)⟩)
  dsimp only [Pt.U, Pt.locs, Pt.cells, Pt.slots] at X62 l62 y62 z62 st62 hQ62
  subst l62 y62 z62
  obtain ⟨rfl, Nq62, e62⟩ := hQ62
  have N63 := Fr.app N53 Nq62
  obtain ⟨fs, hr, hrun, hended, hRE⟩ := X62.leaveW hS (by rw [e62]; exact hk) (v := some (.int (1 : Int32))) (fun h => by rw [Bd.returns] at h; cases h) Bd.notSynchronized
  refine ⟨_, _, pre0 _ ?_, hrun, hended, _, _, rfl, ?_, ?_, hRE.1, hRE.2.1, hRE.2.2.1, hRE.2.2.2.mono (by decide) (by decide)⟩
  · show Steps p.tables e below (s₁.setTop (mkF m 0 #[.val (.int p1), .val (.int p2), .unset, .unset, .unset, .unset, .unset] [])) _
    refine XS.iloadN X0.here hx rfl (hb hby at_0) rfl ?_
    show Steps p.tables e below (s₁.setTop (mkF m 1 #[.val (.int p1), .val (.int p2), .unset, .unset, .unset, .unset, .unset] [(.int p1)])) _
    refine X0.ldcInt hx hown0 (mvT hZ0 (hw _ (List.mem_of_getElem? (i := 0) rfl))) (g := (mkF m 1 #[.val (.int p1), .val (.int p2), .unset, .unset, .unset, .unset, .unset] [(.int p1)])) rfl (hb hby at_1) _ ?_
    show Steps p.tables e below (s₁.setTop (mkF m 3 #[.val (.int p1), .val (.int p2), .unset, .unset, .unset, .unset, .unset] [(.int (2147483647 : Int32)), (.int p1)])) _
    refine XS.iand X0.here hx rfl (hb hby at_3) rfl ?_
    show Steps p.tables e below (s₁.setTop (mkF m 4 #[.val (.int p1), .val (.int p2), .unset, .unset, .unset, .unset, .unset] [(.int (p1 &&& (2147483647 : Int32)))])) _
    refine XS.bipush X0.here hx rfl (hb hby at_4) ?_
    show Steps p.tables e below (s₁.setTop (mkF m 6 #[.val (.int p1), .val (.int p2), .unset, .unset, .unset, .unset, .unset] [(.int (17 : Int32)), (.int (p1 &&& (2147483647 : Int32)))])) _
    refine iremM X0 hx rfl (hb hby at_6) rfl (by decide) ?_
    show Steps p.tables e below (s₁.setTop (mkF m 7 #[.val (.int p1), .val (.int p2), .unset, .unset, .unset, .unset, .unset] [(.int ((p1 &&& (2147483647 : Int32)) % (17 : Int32)))])) _
    refine XS.istoreN X0.here hx rfl (hb hby at_7) rfl (l' := #[.val (.int p1), .val (.int p2), .val (.int (own_n p1)), .unset, .unset, .unset, .unset]) rfl ?_
    show Steps p.tables e below (s₁.setTop (mkF m 8 #[.val (.int p1), .val (.int p2), .val (.int (own_n p1)), .unset, .unset, .unset, .unset] [])) _
    refine XS.iloadN X0.here hx rfl (hb hby at_8) rfl ?_
    show Steps p.tables e below (s₁.setTop (mkF m 9 #[.val (.int p1), .val (.int p2), .val (.int (own_n p1)), .unset, .unset, .unset, .unset] [(.int (own_n p1))])) _
    refine st1 _ ?_
    show Steps p.tables e below (T1.setTop (mkF m 11 #[.val (.int p1), .val (.int p2), .val (.int (own_n p1)), .unset, .unset, .unset, .unset] [(.ref b1)])) _
    refine XS.astoreN X1.here hx rfl (hb hby at_11) rfl rfl (l' := #[.val (.int p1), .val (.int p2), .val (.int (own_n p1)), .val (.ref b1), .unset, .unset, .unset]) rfl ?_
    show Steps p.tables e below (T1.setTop (mkF m 12 #[.val (.int p1), .val (.int p2), .val (.int (own_n p1)), .val (.ref b1), .unset, .unset, .unset] [])) _
    refine st7 _ ?_
    show Steps p.tables e below (T7.setTop (mkF m 15 #[.val (.int p1), .val (.int p2), .val (.int (own_n p1)), .val (.ref b1), .unset, .unset, .unset] [(.ref b7)])) _
    refine XS.dup X7.here hx rfl (hb hby at_15) rfl rfl ?_
    show Steps p.tables e below (T7.setTop (mkF m 16 #[.val (.int p1), .val (.int p2), .val (.int (own_n p1)), .val (.ref b1), .unset, .unset, .unset] [(.ref b7), (.ref b7)])) _
    refine XS.aloadN X7.here hx rfl (hb hby at_16) rfl rfl ?_
    show Steps p.tables e below (T7.setTop (mkF m 17 #[.val (.int p1), .val (.int p2), .val (.int (own_n p1)), .val (.ref b1), .unset, .unset, .unset] [(.ref b1), (.ref b7), (.ref b7)])) _
    refine st16.trans ?_
    show Steps p.tables e below (T16.setTop (mkF m 20 #[.val (.int p1), .val (.int p2), .val (.int (own_n p1)), .val (.ref b1), .unset, .unset, .unset] [(.ref b7)])) _
    refine XS.astore X16.here hx rfl (hb hby at_20) rfl rfl (l' := #[.val (.int p1), .val (.int p2), .val (.int (own_n p1)), .val (.ref b1), .val (.ref b7), .unset, .unset]) rfl ?_
    show Steps p.tables e below (T16.setTop (mkF m 22 #[.val (.int p1), .val (.int p2), .val (.int (own_n p1)), .val (.ref b1), .val (.ref b7), .unset, .unset] [])) _
    refine XS.aload X16.here hx rfl (hb hby at_22) rfl rfl ?_
    show Steps p.tables e below (T16.setTop (mkF m 24 #[.val (.int p1), .val (.int p2), .val (.int (own_n p1)), .val (.ref b1), .val (.ref b7), .unset, .unset] [(.ref b7)])) _
    refine st26.trans ?_
    show Steps p.tables e below (T26.setTop (mkF m 27 #[.val (.int p1), .val (.int p2), .val (.int (own_n p1)), .val (.ref b1), .val (.ref b7), .unset, .unset] [(.int (f_has (0 : Int32) (own_n p1)))])) _
    refine XS.iloadN X26.here hx rfl (hb hby at_27) rfl ?_
    show Steps p.tables e below (T26.setTop (mkF m 28 #[.val (.int p1), .val (.int p2), .val (.int (own_n p1)), .val (.ref b1), .val (.ref b7), .unset, .unset] [(.int (own_n p1)), (.int (f_has (0 : Int32) (own_n p1)))])) _
    refine XS.ifNo X26.here hx rfl (hb hby at_28) rfl ((if0 _ _).trans (tlt hc0).2.2.2) ?_
    show Steps p.tables e below (T26.setTop (mkF m 31 #[.val (.int p1), .val (.int p2), .val (.int (own_n p1)), .val (.ref b1), .val (.ref b7), .unset, .unset] [(.int (f_has (0 : Int32) (own_n p1)))])) _
    refine XS.iconst X26.here hx rfl (hb hby at_31) ?_
    show Steps p.tables e below (T26.setTop (mkF m 32 #[.val (.int p1), .val (.int p2), .val (.int (own_n p1)), .val (.ref b1), .val (.ref b7), .unset, .unset] [(.int (1 : Int32)), (.int (f_has (0 : Int32) (own_n p1)))])) _
    refine XS.goto X26.here hx rfl (pc0 := 32) (pc' := 36) rfl (hb hby at_32) (by decide) (by decide) ?_
    show Steps p.tables e below (T26.setTop (mkF m 36 #[.val (.int p1), .val (.int p2), .val (.int (own_n p1)), .val (.ref b1), .val (.ref b7), .unset, .unset] [(.int (1 : Int32)), (.int (f_has (0 : Int32) (own_n p1)))])) _
    refine XS.icmpNo X26.here hx rfl (hb hby at_36) rfl (teq hc1).2 ?_
    show Steps p.tables e below (T26.setTop (mkF m 39 #[.val (.int p1), .val (.int p2), .val (.int (own_n p1)), .val (.ref b1), .val (.ref b7), .unset, .unset] [])) _
    refine XS.iconst X26.here hx rfl (hb hby at_39) ?_
    show Steps p.tables e below (T26.setTop (mkF m 40 #[.val (.int p1), .val (.int p2), .val (.int (own_n p1)), .val (.ref b1), .val (.ref b7), .unset, .unset] [(.int (1 : Int32))])) _
    refine XS.goto X26.here hx rfl (pc0 := 40) (pc' := 44) rfl (hb hby at_40) (by decide) (by decide) ?_
    show Steps p.tables e below (T26.setTop (mkF m 44 #[.val (.int p1), .val (.int p2), .val (.int (own_n p1)), .val (.ref b1), .val (.ref b7), .unset, .unset] [(.int (1 : Int32))])) _
    refine XS.istore X26.here hx rfl (hb hby at_44) rfl (l' := #[.val (.int p1), .val (.int p2), .val (.int (own_n p1)), .val (.ref b1), .val (.ref b7), .val (.int (1 : Int32)), .unset]) rfl ?_
    show Steps p.tables e below (T26.setTop (mkF m 46 #[.val (.int p1), .val (.int p2), .val (.int (own_n p1)), .val (.ref b1), .val (.ref b7), .val (.int (1 : Int32)), .unset] [])) _
    refine XS.iconst X26.here hx rfl (hb hby at_46) ?_
    show Steps p.tables e below (T26.setTop (mkF m 47 #[.val (.int p1), .val (.int p2), .val (.int (own_n p1)), .val (.ref b1), .val (.ref b7), .val (.int (1 : Int32)), .unset] [(.int (0 : Int32))])) _
    refine XS.istore X26.here hx rfl (hb hby at_47) rfl (l' := #[.val (.int p1), .val (.int p2), .val (.int (own_n p1)), .val (.ref b1), .val (.ref b7), .val (.int (1 : Int32)), .val (.int (0 : Int32))]) rfl ?_
    show Steps p.tables e below (T26.setTop (mkF m 49 #[.val (.int p1), .val (.int p2), .val (.int (own_n p1)), .val (.ref b1), .val (.ref b7), .val (.int (1 : Int32)), .val (.int (0 : Int32))] [])) _
    refine XS.aload X26.here hx rfl (hb hby at_49) rfl rfl ?_
    refine XS.iloadN X26.here hx rfl (hb hby at_51) rfl ?_
    refine XS.iload X26.here hx rfl (hb hby at_52) rfl ?_
    refine XS.iloadN X26.here hx rfl (hb hby at_54) rfl ?_
    refine XS.iconst X26.here hx rfl (hb hby at_55) ?_
    show Steps p.tables e below (T26.setTop (mkF m 56 #[.val (.int p1), .val (.int p2), .val (.int (own_n p1)), .val (.ref b1), .val (.ref b7), .val (.int (1 : Int32)), .val (.int (0 : Int32))] [(.int (3 : Int32)), (.int p2), (.int (0 : Int32)), (.int (own_n p1)), (.ref b7)])) _
    refine XS.iand X26.here hx rfl (hb hby at_56) rfl ?_
    show Steps p.tables e below (T26.setTop (mkF m 57 #[.val (.int p1), .val (.int p2), .val (.int (own_n p1)), .val (.ref b1), .val (.ref b7), .val (.int (1 : Int32)), .val (.int (0 : Int32))] [(.int (p2 &&& (3 : Int32))), (.int (0 : Int32)), (.int (own_n p1)), (.ref b7)])) _
    refine st28.trans ?_
    show Steps p.tables e below (T28.setTop (mkF m 60 #[.val (.int p1), .val (.int p2), .val (.int (own_n p1)), .val (.ref b1), .val (.ref b7), .val (.int (1 : Int32)), .val (.int (0 : Int32))] [(.int (own_step (own_n p1) (0 : Int32) (p2 &&& (3 : Int32))))])) _
    refine XS.istore X28.here hx rfl (hb hby at_60) rfl (l' := #[.val (.int p1), .val (.int p2), .val (.int (own_n p1)), .val (.ref b1), .val (.ref b7), .val (.int (1 : Int32)), .val (.int (own_step (own_n p1) (0 : Int32) (p2 &&& (3 : Int32))))]) rfl ?_
    show Steps p.tables e below (T28.setTop (mkF m 62 #[.val (.int p1), .val (.int p2), .val (.int (own_n p1)), .val (.ref b1), .val (.ref b7), .val (.int (1 : Int32)), .val (.int (own_step (own_n p1) (0 : Int32) (p2 &&& (3 : Int32))))] [])) _
    refine XS.iload X28.here hx rfl (hb hby at_62) rfl ?_
    show Steps p.tables e below (T28.setTop (mkF m 64 #[.val (.int p1), .val (.int p2), .val (.int (own_n p1)), .val (.ref b1), .val (.ref b7), .val (.int (1 : Int32)), .val (.int (own_step (own_n p1) (0 : Int32) (p2 &&& (3 : Int32))))] [(.int (1 : Int32))])) _
    refine XS.ifNo X28.here hx rfl (hb hby at_64) rfl ((if0 _ _).trans (feq (by decide : ¬ ((1 : Int32) = (0 : Int32)))).1) ?_
    show Steps p.tables e below (T28.setTop (mkF m 67 #[.val (.int p1), .val (.int p2), .val (.int (own_n p1)), .val (.ref b1), .val (.ref b7), .val (.int (1 : Int32)), .val (.int (own_step (own_n p1) (0 : Int32) (p2 &&& (3 : Int32))))] [])) _
    refine XS.aload X28.here hx rfl (hb hby at_67) rfl rfl ?_
    show Steps p.tables e below (T28.setTop (mkF m 69 #[.val (.int p1), .val (.int p2), .val (.int (own_n p1)), .val (.ref b1), .val (.ref b7), .val (.int (1 : Int32)), .val (.int (own_step (own_n p1) (0 : Int32) (p2 &&& (3 : Int32))))] [(.ref b7)])) _
    refine st38.trans ?_
    show Steps p.tables e below (T38.setTop (mkF m 72 #[.val (.int p1), .val (.int p2), .val (.int (own_n p1)), .val (.ref b1), .val (.ref b7), .val (.int (1 : Int32)), .val (.int (own_step (own_n p1) (0 : Int32) (p2 &&& (3 : Int32))))] [(.int (f_has (own_step (own_n p1) (0 : Int32) (p2 &&& (3 : Int32))) (own_n p1)))])) _
    refine XS.iload X38.here hx rfl (hb hby at_72) rfl ?_
    refine XS.iloadN X38.here hx rfl (hb hby at_74) rfl ?_
    show Steps p.tables e below (T38.setTop (mkF m 75 #[.val (.int p1), .val (.int p2), .val (.int (own_n p1)), .val (.ref b1), .val (.ref b7), .val (.int (1 : Int32)), .val (.int (own_step (own_n p1) (0 : Int32) (p2 &&& (3 : Int32))))] [(.int (own_n p1)), (.int (own_step (own_n p1) (0 : Int32) (p2 &&& (3 : Int32)))), (.int (f_has (own_step (own_n p1) (0 : Int32) (p2 &&& (3 : Int32))) (own_n p1)))])) _
    refine XS.icmpNo X38.here hx rfl (hb hby at_75) rfl (tlt hc2).2.1 ?_
    show Steps p.tables e below (T38.setTop (mkF m 78 #[.val (.int p1), .val (.int p2), .val (.int (own_n p1)), .val (.ref b1), .val (.ref b7), .val (.int (1 : Int32)), .val (.int (own_step (own_n p1) (0 : Int32) (p2 &&& (3 : Int32))))] [(.int (f_has (own_step (own_n p1) (0 : Int32) (p2 &&& (3 : Int32))) (own_n p1)))])) _
    refine XS.iconst X38.here hx rfl (hb hby at_78) ?_
    show Steps p.tables e below (T38.setTop (mkF m 79 #[.val (.int p1), .val (.int p2), .val (.int (own_n p1)), .val (.ref b1), .val (.ref b7), .val (.int (1 : Int32)), .val (.int (own_step (own_n p1) (0 : Int32) (p2 &&& (3 : Int32))))] [(.int (1 : Int32)), (.int (f_has (own_step (own_n p1) (0 : Int32) (p2 &&& (3 : Int32))) (own_n p1)))])) _
    refine XS.goto X38.here hx rfl (pc0 := 79) (pc' := 83) rfl (hb hby at_79) (by decide) (by decide) ?_
    show Steps p.tables e below (T38.setTop (mkF m 83 #[.val (.int p1), .val (.int p2), .val (.int (own_n p1)), .val (.ref b1), .val (.ref b7), .val (.int (1 : Int32)), .val (.int (own_step (own_n p1) (0 : Int32) (p2 &&& (3 : Int32))))] [(.int (1 : Int32)), (.int (f_has (own_step (own_n p1) (0 : Int32) (p2 &&& (3 : Int32))) (own_n p1)))])) _
    refine XS.icmpNo X38.here hx rfl (hb hby at_83) rfl (teq hc3).2 ?_
    show Steps p.tables e below (T38.setTop (mkF m 86 #[.val (.int p1), .val (.int p2), .val (.int (own_n p1)), .val (.ref b1), .val (.ref b7), .val (.int (1 : Int32)), .val (.int (own_step (own_n p1) (0 : Int32) (p2 &&& (3 : Int32))))] [])) _
    refine XS.iconst X38.here hx rfl (hb hby at_86) ?_
    show Steps p.tables e below (T38.setTop (mkF m 87 #[.val (.int p1), .val (.int p2), .val (.int (own_n p1)), .val (.ref b1), .val (.ref b7), .val (.int (1 : Int32)), .val (.int (own_step (own_n p1) (0 : Int32) (p2 &&& (3 : Int32))))] [(.int (1 : Int32))])) _
    refine XS.goto X38.here hx rfl (pc0 := 87) (pc' := 91) rfl (hb hby at_87) (by decide) (by decide) ?_
    show Steps p.tables e below (T38.setTop (mkF m 91 #[.val (.int p1), .val (.int p2), .val (.int (own_n p1)), .val (.ref b1), .val (.ref b7), .val (.int (1 : Int32)), .val (.int (own_step (own_n p1) (0 : Int32) (p2 &&& (3 : Int32))))] [(.int (1 : Int32))])) _
    refine XS.istore X38.here hx rfl (hb hby at_91) rfl (l' := #[.val (.int p1), .val (.int p2), .val (.int (own_n p1)), .val (.ref b1), .val (.ref b7), .val (.int (1 : Int32)), .val (.int (own_step (own_n p1) (0 : Int32) (p2 &&& (3 : Int32))))]) rfl ?_
    show Steps p.tables e below (T38.setTop (mkF m 93 #[.val (.int p1), .val (.int p2), .val (.int (own_n p1)), .val (.ref b1), .val (.ref b7), .val (.int (1 : Int32)), .val (.int (own_step (own_n p1) (0 : Int32) (p2 &&& (3 : Int32))))] [])) _
    refine XS.aload X38.here hx rfl (hb hby at_93) rfl rfl ?_
    refine XS.iloadN X38.here hx rfl (hb hby at_95) rfl ?_
    refine XS.iload X38.here hx rfl (hb hby at_96) rfl ?_
    refine XS.iloadN X38.here hx rfl (hb hby at_98) rfl ?_
    refine XS.iconst X38.here hx rfl (hb hby at_99) ?_
    show Steps p.tables e below (T38.setTop (mkF m 100 #[.val (.int p1), .val (.int p2), .val (.int (own_n p1)), .val (.ref b1), .val (.ref b7), .val (.int (1 : Int32)), .val (.int (own_step (own_n p1) (0 : Int32) (p2 &&& (3 : Int32))))] [(.int (2 : Int32)), (.int p2), (.int (own_step (own_n p1) (0 : Int32) (p2 &&& (3 : Int32)))), (.int (own_n p1)), (.ref b7)])) _
    refine XS.iushr X38.here hx rfl (hb hby at_100) rfl ?_
    show Steps p.tables e below (T38.setTop (mkF m 101 #[.val (.int p1), .val (.int p2), .val (.int (own_n p1)), .val (.ref b1), .val (.ref b7), .val (.int (1 : Int32)), .val (.int (own_step (own_n p1) (0 : Int32) (p2 &&& (3 : Int32))))] [(.int ((p2.toUInt32 >>> ((2 : Int32) &&& 31).toUInt32).toInt32)), (.int (own_step (own_n p1) (0 : Int32) (p2 &&& (3 : Int32)))), (.int (own_n p1)), (.ref b7)])) _
    refine XS.iconst X38.here hx rfl (hb hby at_101) ?_
    show Steps p.tables e below (T38.setTop (mkF m 102 #[.val (.int p1), .val (.int p2), .val (.int (own_n p1)), .val (.ref b1), .val (.ref b7), .val (.int (1 : Int32)), .val (.int (own_step (own_n p1) (0 : Int32) (p2 &&& (3 : Int32))))] [(.int (3 : Int32)), (.int ((p2.toUInt32 >>> ((2 : Int32) &&& 31).toUInt32).toInt32)), (.int (own_step (own_n p1) (0 : Int32) (p2 &&& (3 : Int32)))), (.int (own_n p1)), (.ref b7)])) _
    refine XS.iand X38.here hx rfl (hb hby at_102) rfl ?_
    show Steps p.tables e below (T38.setTop (mkF m 103 #[.val (.int p1), .val (.int p2), .val (.int (own_n p1)), .val (.ref b1), .val (.ref b7), .val (.int (1 : Int32)), .val (.int (own_step (own_n p1) (0 : Int32) (p2 &&& (3 : Int32))))] [(.int (((p2.toUInt32 >>> ((2 : Int32) &&& 31).toUInt32).toInt32) &&& (3 : Int32))), (.int (own_step (own_n p1) (0 : Int32) (p2 &&& (3 : Int32)))), (.int (own_n p1)), (.ref b7)])) _
    refine st40.trans ?_
    show Steps p.tables e below (T40.setTop (mkF m 106 #[.val (.int p1), .val (.int p2), .val (.int (own_n p1)), .val (.ref b1), .val (.ref b7), .val (.int (1 : Int32)), .val (.int (own_step (own_n p1) (0 : Int32) (p2 &&& (3 : Int32))))] [(.int (own_step (own_n p1) (own_step (own_n p1) (0 : Int32) (p2 &&& (3 : Int32))) (((p2.toUInt32 >>> ((2 : Int32) &&& 31).toUInt32).toInt32) &&& (3 : Int32))))])) _
    refine XS.istore X40.here hx rfl (hb hby at_106) rfl (l' := #[.val (.int p1), .val (.int p2), .val (.int (own_n p1)), .val (.ref b1), .val (.ref b7), .val (.int (1 : Int32)), .val (.int (own_step (own_n p1) (own_step (own_n p1) (0 : Int32) (p2 &&& (3 : Int32))) (((p2.toUInt32 >>> ((2 : Int32) &&& 31).toUInt32).toInt32) &&& (3 : Int32))))]) rfl ?_
    show Steps p.tables e below (T40.setTop (mkF m 108 #[.val (.int p1), .val (.int p2), .val (.int (own_n p1)), .val (.ref b1), .val (.ref b7), .val (.int (1 : Int32)), .val (.int (own_step (own_n p1) (own_step (own_n p1) (0 : Int32) (p2 &&& (3 : Int32))) (((p2.toUInt32 >>> ((2 : Int32) &&& 31).toUInt32).toInt32) &&& (3 : Int32))))] [])) _
    refine XS.iload X40.here hx rfl (hb hby at_108) rfl ?_
    show Steps p.tables e below (T40.setTop (mkF m 110 #[.val (.int p1), .val (.int p2), .val (.int (own_n p1)), .val (.ref b1), .val (.ref b7), .val (.int (1 : Int32)), .val (.int (own_step (own_n p1) (own_step (own_n p1) (0 : Int32) (p2 &&& (3 : Int32))) (((p2.toUInt32 >>> ((2 : Int32) &&& 31).toUInt32).toInt32) &&& (3 : Int32))))] [(.int (1 : Int32))])) _
    refine XS.ifNo X40.here hx rfl (hb hby at_110) rfl ((if0 _ _).trans (feq (by decide : ¬ ((1 : Int32) = (0 : Int32)))).1) ?_
    show Steps p.tables e below (T40.setTop (mkF m 113 #[.val (.int p1), .val (.int p2), .val (.int (own_n p1)), .val (.ref b1), .val (.ref b7), .val (.int (1 : Int32)), .val (.int (own_step (own_n p1) (own_step (own_n p1) (0 : Int32) (p2 &&& (3 : Int32))) (((p2.toUInt32 >>> ((2 : Int32) &&& 31).toUInt32).toInt32) &&& (3 : Int32))))] [])) _
    refine XS.aload X40.here hx rfl (hb hby at_113) rfl rfl ?_
    show Steps p.tables e below (T40.setTop (mkF m 115 #[.val (.int p1), .val (.int p2), .val (.int (own_n p1)), .val (.ref b1), .val (.ref b7), .val (.int (1 : Int32)), .val (.int (own_step (own_n p1) (own_step (own_n p1) (0 : Int32) (p2 &&& (3 : Int32))) (((p2.toUInt32 >>> ((2 : Int32) &&& 31).toUInt32).toInt32) &&& (3 : Int32))))] [(.ref b7)])) _
    refine st50.trans ?_
    show Steps p.tables e below (T50.setTop (mkF m 118 #[.val (.int p1), .val (.int p2), .val (.int (own_n p1)), .val (.ref b1), .val (.ref b7), .val (.int (1 : Int32)), .val (.int (own_step (own_n p1) (own_step (own_n p1) (0 : Int32) (p2 &&& (3 : Int32))) (((p2.toUInt32 >>> ((2 : Int32) &&& 31).toUInt32).toInt32) &&& (3 : Int32))))] [(.int (f_has (own_step (own_n p1) (own_step (own_n p1) (0 : Int32) (p2 &&& (3 : Int32))) (((p2.toUInt32 >>> ((2 : Int32) &&& 31).toUInt32).toInt32) &&& (3 : Int32))) (own_n p1)))])) _
    refine XS.iload X50.here hx rfl (hb hby at_118) rfl ?_
    refine XS.iloadN X50.here hx rfl (hb hby at_120) rfl ?_
    show Steps p.tables e below (T50.setTop (mkF m 121 #[.val (.int p1), .val (.int p2), .val (.int (own_n p1)), .val (.ref b1), .val (.ref b7), .val (.int (1 : Int32)), .val (.int (own_step (own_n p1) (own_step (own_n p1) (0 : Int32) (p2 &&& (3 : Int32))) (((p2.toUInt32 >>> ((2 : Int32) &&& 31).toUInt32).toInt32) &&& (3 : Int32))))] [(.int (own_n p1)), (.int (own_step (own_n p1) (own_step (own_n p1) (0 : Int32) (p2 &&& (3 : Int32))) (((p2.toUInt32 >>> ((2 : Int32) &&& 31).toUInt32).toInt32) &&& (3 : Int32)))), (.int (f_has (own_step (own_n p1) (own_step (own_n p1) (0 : Int32) (p2 &&& (3 : Int32))) (((p2.toUInt32 >>> ((2 : Int32) &&& 31).toUInt32).toInt32) &&& (3 : Int32))) (own_n p1)))])) _
    refine XS.icmpNo X50.here hx rfl (hb hby at_121) rfl (tlt hc4).2.1 ?_
    show Steps p.tables e below (T50.setTop (mkF m 124 #[.val (.int p1), .val (.int p2), .val (.int (own_n p1)), .val (.ref b1), .val (.ref b7), .val (.int (1 : Int32)), .val (.int (own_step (own_n p1) (own_step (own_n p1) (0 : Int32) (p2 &&& (3 : Int32))) (((p2.toUInt32 >>> ((2 : Int32) &&& 31).toUInt32).toInt32) &&& (3 : Int32))))] [(.int (f_has (own_step (own_n p1) (own_step (own_n p1) (0 : Int32) (p2 &&& (3 : Int32))) (((p2.toUInt32 >>> ((2 : Int32) &&& 31).toUInt32).toInt32) &&& (3 : Int32))) (own_n p1)))])) _
    refine XS.iconst X50.here hx rfl (hb hby at_124) ?_
    show Steps p.tables e below (T50.setTop (mkF m 125 #[.val (.int p1), .val (.int p2), .val (.int (own_n p1)), .val (.ref b1), .val (.ref b7), .val (.int (1 : Int32)), .val (.int (own_step (own_n p1) (own_step (own_n p1) (0 : Int32) (p2 &&& (3 : Int32))) (((p2.toUInt32 >>> ((2 : Int32) &&& 31).toUInt32).toInt32) &&& (3 : Int32))))] [(.int (1 : Int32)), (.int (f_has (own_step (own_n p1) (own_step (own_n p1) (0 : Int32) (p2 &&& (3 : Int32))) (((p2.toUInt32 >>> ((2 : Int32) &&& 31).toUInt32).toInt32) &&& (3 : Int32))) (own_n p1)))])) _
    refine XS.goto X50.here hx rfl (pc0 := 125) (pc' := 129) rfl (hb hby at_125) (by decide) (by decide) ?_
    show Steps p.tables e below (T50.setTop (mkF m 129 #[.val (.int p1), .val (.int p2), .val (.int (own_n p1)), .val (.ref b1), .val (.ref b7), .val (.int (1 : Int32)), .val (.int (own_step (own_n p1) (own_step (own_n p1) (0 : Int32) (p2 &&& (3 : Int32))) (((p2.toUInt32 >>> ((2 : Int32) &&& 31).toUInt32).toInt32) &&& (3 : Int32))))] [(.int (1 : Int32)), (.int (f_has (own_step (own_n p1) (own_step (own_n p1) (0 : Int32) (p2 &&& (3 : Int32))) (((p2.toUInt32 >>> ((2 : Int32) &&& 31).toUInt32).toInt32) &&& (3 : Int32))) (own_n p1)))])) _
    refine XS.icmpNo X50.here hx rfl (hb hby at_129) rfl (teq hc5).2 ?_
    show Steps p.tables e below (T50.setTop (mkF m 132 #[.val (.int p1), .val (.int p2), .val (.int (own_n p1)), .val (.ref b1), .val (.ref b7), .val (.int (1 : Int32)), .val (.int (own_step (own_n p1) (own_step (own_n p1) (0 : Int32) (p2 &&& (3 : Int32))) (((p2.toUInt32 >>> ((2 : Int32) &&& 31).toUInt32).toInt32) &&& (3 : Int32))))] [])) _
    refine XS.iconst X50.here hx rfl (hb hby at_132) ?_
    show Steps p.tables e below (T50.setTop (mkF m 133 #[.val (.int p1), .val (.int p2), .val (.int (own_n p1)), .val (.ref b1), .val (.ref b7), .val (.int (1 : Int32)), .val (.int (own_step (own_n p1) (own_step (own_n p1) (0 : Int32) (p2 &&& (3 : Int32))) (((p2.toUInt32 >>> ((2 : Int32) &&& 31).toUInt32).toInt32) &&& (3 : Int32))))] [(.int (1 : Int32))])) _
    refine XS.goto X50.here hx rfl (pc0 := 133) (pc' := 137) rfl (hb hby at_133) (by decide) (by decide) ?_
    show Steps p.tables e below (T50.setTop (mkF m 137 #[.val (.int p1), .val (.int p2), .val (.int (own_n p1)), .val (.ref b1), .val (.ref b7), .val (.int (1 : Int32)), .val (.int (own_step (own_n p1) (own_step (own_n p1) (0 : Int32) (p2 &&& (3 : Int32))) (((p2.toUInt32 >>> ((2 : Int32) &&& 31).toUInt32).toInt32) &&& (3 : Int32))))] [(.int (1 : Int32))])) _
    refine XS.istore X50.here hx rfl (hb hby at_137) rfl (l' := #[.val (.int p1), .val (.int p2), .val (.int (own_n p1)), .val (.ref b1), .val (.ref b7), .val (.int (1 : Int32)), .val (.int (own_step (own_n p1) (own_step (own_n p1) (0 : Int32) (p2 &&& (3 : Int32))) (((p2.toUInt32 >>> ((2 : Int32) &&& 31).toUInt32).toInt32) &&& (3 : Int32))))]) rfl ?_
    show Steps p.tables e below (T50.setTop (mkF m 139 #[.val (.int p1), .val (.int p2), .val (.int (own_n p1)), .val (.ref b1), .val (.ref b7), .val (.int (1 : Int32)), .val (.int (own_step (own_n p1) (own_step (own_n p1) (0 : Int32) (p2 &&& (3 : Int32))) (((p2.toUInt32 >>> ((2 : Int32) &&& 31).toUInt32).toInt32) &&& (3 : Int32))))] [])) _
    refine XS.aload X50.here hx rfl (hb hby at_139) rfl rfl ?_
    refine XS.iloadN X50.here hx rfl (hb hby at_141) rfl ?_
    refine XS.iload X50.here hx rfl (hb hby at_142) rfl ?_
    refine XS.iloadN X50.here hx rfl (hb hby at_144) rfl ?_
    refine XS.iconst X50.here hx rfl (hb hby at_145) ?_
    show Steps p.tables e below (T50.setTop (mkF m 146 #[.val (.int p1), .val (.int p2), .val (.int (own_n p1)), .val (.ref b1), .val (.ref b7), .val (.int (1 : Int32)), .val (.int (own_step (own_n p1) (own_step (own_n p1) (0 : Int32) (p2 &&& (3 : Int32))) (((p2.toUInt32 >>> ((2 : Int32) &&& 31).toUInt32).toInt32) &&& (3 : Int32))))] [(.int (4 : Int32)), (.int p2), (.int (own_step (own_n p1) (own_step (own_n p1) (0 : Int32) (p2 &&& (3 : Int32))) (((p2.toUInt32 >>> ((2 : Int32) &&& 31).toUInt32).toInt32) &&& (3 : Int32)))), (.int (own_n p1)), (.ref b7)])) _
    refine XS.iushr X50.here hx rfl (hb hby at_146) rfl ?_
    show Steps p.tables e below (T50.setTop (mkF m 147 #[.val (.int p1), .val (.int p2), .val (.int (own_n p1)), .val (.ref b1), .val (.ref b7), .val (.int (1 : Int32)), .val (.int (own_step (own_n p1) (own_step (own_n p1) (0 : Int32) (p2 &&& (3 : Int32))) (((p2.toUInt32 >>> ((2 : Int32) &&& 31).toUInt32).toInt32) &&& (3 : Int32))))] [(.int ((p2.toUInt32 >>> ((4 : Int32) &&& 31).toUInt32).toInt32)), (.int (own_step (own_n p1) (own_step (own_n p1) (0 : Int32) (p2 &&& (3 : Int32))) (((p2.toUInt32 >>> ((2 : Int32) &&& 31).toUInt32).toInt32) &&& (3 : Int32)))), (.int (own_n p1)), (.ref b7)])) _
    refine XS.iconst X50.here hx rfl (hb hby at_147) ?_
    show Steps p.tables e below (T50.setTop (mkF m 148 #[.val (.int p1), .val (.int p2), .val (.int (own_n p1)), .val (.ref b1), .val (.ref b7), .val (.int (1 : Int32)), .val (.int (own_step (own_n p1) (own_step (own_n p1) (0 : Int32) (p2 &&& (3 : Int32))) (((p2.toUInt32 >>> ((2 : Int32) &&& 31).toUInt32).toInt32) &&& (3 : Int32))))] [(.int (3 : Int32)), (.int ((p2.toUInt32 >>> ((4 : Int32) &&& 31).toUInt32).toInt32)), (.int (own_step (own_n p1) (own_step (own_n p1) (0 : Int32) (p2 &&& (3 : Int32))) (((p2.toUInt32 >>> ((2 : Int32) &&& 31).toUInt32).toInt32) &&& (3 : Int32)))), (.int (own_n p1)), (.ref b7)])) _
    refine XS.iand X50.here hx rfl (hb hby at_148) rfl ?_
    show Steps p.tables e below (T50.setTop (mkF m 149 #[.val (.int p1), .val (.int p2), .val (.int (own_n p1)), .val (.ref b1), .val (.ref b7), .val (.int (1 : Int32)), .val (.int (own_step (own_n p1) (own_step (own_n p1) (0 : Int32) (p2 &&& (3 : Int32))) (((p2.toUInt32 >>> ((2 : Int32) &&& 31).toUInt32).toInt32) &&& (3 : Int32))))] [(.int (((p2.toUInt32 >>> ((4 : Int32) &&& 31).toUInt32).toInt32) &&& (3 : Int32))), (.int (own_step (own_n p1) (own_step (own_n p1) (0 : Int32) (p2 &&& (3 : Int32))) (((p2.toUInt32 >>> ((2 : Int32) &&& 31).toUInt32).toInt32) &&& (3 : Int32)))), (.int (own_n p1)), (.ref b7)])) _
    refine st52.trans ?_
    show Steps p.tables e below (T52.setTop (mkF m 152 #[.val (.int p1), .val (.int p2), .val (.int (own_n p1)), .val (.ref b1), .val (.ref b7), .val (.int (1 : Int32)), .val (.int (own_step (own_n p1) (own_step (own_n p1) (0 : Int32) (p2 &&& (3 : Int32))) (((p2.toUInt32 >>> ((2 : Int32) &&& 31).toUInt32).toInt32) &&& (3 : Int32))))] [(.int (own_step (own_n p1) (own_step (own_n p1) (own_step (own_n p1) (0 : Int32) (p2 &&& (3 : Int32))) (((p2.toUInt32 >>> ((2 : Int32) &&& 31).toUInt32).toInt32) &&& (3 : Int32))) (((p2.toUInt32 >>> ((4 : Int32) &&& 31).toUInt32).toInt32) &&& (3 : Int32))))])) _
    refine XS.istore X52.here hx rfl (hb hby at_152) rfl (l' := #[.val (.int p1), .val (.int p2), .val (.int (own_n p1)), .val (.ref b1), .val (.ref b7), .val (.int (1 : Int32)), .val (.int (own_step (own_n p1) (own_step (own_n p1) (own_step (own_n p1) (0 : Int32) (p2 &&& (3 : Int32))) (((p2.toUInt32 >>> ((2 : Int32) &&& 31).toUInt32).toInt32) &&& (3 : Int32))) (((p2.toUInt32 >>> ((4 : Int32) &&& 31).toUInt32).toInt32) &&& (3 : Int32))))]) rfl ?_
    show Steps p.tables e below (T52.setTop (mkF m 154 #[.val (.int p1), .val (.int p2), .val (.int (own_n p1)), .val (.ref b1), .val (.ref b7), .val (.int (1 : Int32)), .val (.int (own_step (own_n p1) (own_step (own_n p1) (own_step (own_n p1) (0 : Int32) (p2 &&& (3 : Int32))) (((p2.toUInt32 >>> ((2 : Int32) &&& 31).toUInt32).toInt32) &&& (3 : Int32))) (((p2.toUInt32 >>> ((4 : Int32) &&& 31).toUInt32).toInt32) &&& (3 : Int32))))] [])) _
    refine XS.iload X52.here hx rfl (hb hby at_154) rfl ?_
    show Steps p.tables e below (T52.setTop (mkF m 156 #[.val (.int p1), .val (.int p2), .val (.int (own_n p1)), .val (.ref b1), .val (.ref b7), .val (.int (1 : Int32)), .val (.int (own_step (own_n p1) (own_step (own_n p1) (own_step (own_n p1) (0 : Int32) (p2 &&& (3 : Int32))) (((p2.toUInt32 >>> ((2 : Int32) &&& 31).toUInt32).toInt32) &&& (3 : Int32))) (((p2.toUInt32 >>> ((4 : Int32) &&& 31).toUInt32).toInt32) &&& (3 : Int32))))] [(.int (1 : Int32))])) _
    refine XS.ifNo X52.here hx rfl (hb hby at_156) rfl ((if0 _ _).trans (feq (by decide : ¬ ((1 : Int32) = (0 : Int32)))).1) ?_
    show Steps p.tables e below (T52.setTop (mkF m 159 #[.val (.int p1), .val (.int p2), .val (.int (own_n p1)), .val (.ref b1), .val (.ref b7), .val (.int (1 : Int32)), .val (.int (own_step (own_n p1) (own_step (own_n p1) (own_step (own_n p1) (0 : Int32) (p2 &&& (3 : Int32))) (((p2.toUInt32 >>> ((2 : Int32) &&& 31).toUInt32).toInt32) &&& (3 : Int32))) (((p2.toUInt32 >>> ((4 : Int32) &&& 31).toUInt32).toInt32) &&& (3 : Int32))))] [])) _
    refine XS.aload X52.here hx rfl (hb hby at_159) rfl rfl ?_
    show Steps p.tables e below (T52.setTop (mkF m 161 #[.val (.int p1), .val (.int p2), .val (.int (own_n p1)), .val (.ref b1), .val (.ref b7), .val (.int (1 : Int32)), .val (.int (own_step (own_n p1) (own_step (own_n p1) (own_step (own_n p1) (0 : Int32) (p2 &&& (3 : Int32))) (((p2.toUInt32 >>> ((2 : Int32) &&& 31).toUInt32).toInt32) &&& (3 : Int32))) (((p2.toUInt32 >>> ((4 : Int32) &&& 31).toUInt32).toInt32) &&& (3 : Int32))))] [(.ref b7)])) _
    refine st62.trans ?_
    show Steps p.tables e below (T62.setTop (mkF m 164 #[.val (.int p1), .val (.int p2), .val (.int (own_n p1)), .val (.ref b1), .val (.ref b7), .val (.int (1 : Int32)), .val (.int (own_step (own_n p1) (own_step (own_n p1) (own_step (own_n p1) (0 : Int32) (p2 &&& (3 : Int32))) (((p2.toUInt32 >>> ((2 : Int32) &&& 31).toUInt32).toInt32) &&& (3 : Int32))) (((p2.toUInt32 >>> ((4 : Int32) &&& 31).toUInt32).toInt32) &&& (3 : Int32))))] [(.int (f_has (own_step (own_n p1) (own_step (own_n p1) (own_step (own_n p1) (0 : Int32) (p2 &&& (3 : Int32))) (((p2.toUInt32 >>> ((2 : Int32) &&& 31).toUInt32).toInt32) &&& (3 : Int32))) (((p2.toUInt32 >>> ((4 : Int32) &&& 31).toUInt32).toInt32) &&& (3 : Int32))) (own_n p1)))])) _
    refine XS.iload X62.here hx rfl (hb hby at_164) rfl ?_
    refine XS.iloadN X62.here hx rfl (hb hby at_166) rfl ?_
    show Steps p.tables e below (T62.setTop (mkF m 167 #[.val (.int p1), .val (.int p2), .val (.int (own_n p1)), .val (.ref b1), .val (.ref b7), .val (.int (1 : Int32)), .val (.int (own_step (own_n p1) (own_step (own_n p1) (own_step (own_n p1) (0 : Int32) (p2 &&& (3 : Int32))) (((p2.toUInt32 >>> ((2 : Int32) &&& 31).toUInt32).toInt32) &&& (3 : Int32))) (((p2.toUInt32 >>> ((4 : Int32) &&& 31).toUInt32).toInt32) &&& (3 : Int32))))] [(.int (own_n p1)), (.int (own_step (own_n p1) (own_step (own_n p1) (own_step (own_n p1) (0 : Int32) (p2 &&& (3 : Int32))) (((p2.toUInt32 >>> ((2 : Int32) &&& 31).toUInt32).toInt32) &&& (3 : Int32))) (((p2.toUInt32 >>> ((4 : Int32) &&& 31).toUInt32).toInt32) &&& (3 : Int32)))), (.int (f_has (own_step (own_n p1) (own_step (own_n p1) (own_step (own_n p1) (0 : Int32) (p2 &&& (3 : Int32))) (((p2.toUInt32 >>> ((2 : Int32) &&& 31).toUInt32).toInt32) &&& (3 : Int32))) (((p2.toUInt32 >>> ((4 : Int32) &&& 31).toUInt32).toInt32) &&& (3 : Int32))) (own_n p1)))])) _
    refine XS.icmpYes X62.here hx rfl (pc0 := 167) (pc' := 174) rfl (hb hby at_167) rfl (flt hc6).2.1 (by decide) (by decide) ?_
    show Steps p.tables e below (T62.setTop (mkF m 174 #[.val (.int p1), .val (.int p2), .val (.int (own_n p1)), .val (.ref b1), .val (.ref b7), .val (.int (1 : Int32)), .val (.int (own_step (own_n p1) (own_step (own_n p1) (own_step (own_n p1) (0 : Int32) (p2 &&& (3 : Int32))) (((p2.toUInt32 >>> ((2 : Int32) &&& 31).toUInt32).toInt32) &&& (3 : Int32))) (((p2.toUInt32 >>> ((4 : Int32) &&& 31).toUInt32).toInt32) &&& (3 : Int32))))] [(.int (f_has (own_step (own_n p1) (own_step (own_n p1) (own_step (own_n p1) (0 : Int32) (p2 &&& (3 : Int32))) (((p2.toUInt32 >>> ((2 : Int32) &&& 31).toUInt32).toInt32) &&& (3 : Int32))) (((p2.toUInt32 >>> ((4 : Int32) &&& 31).toUInt32).toInt32) &&& (3 : Int32))) (own_n p1)))])) _
    refine XS.iconst X62.here hx rfl (hb hby at_174) ?_
    show Steps p.tables e below (T62.setTop (mkF m 175 #[.val (.int p1), .val (.int p2), .val (.int (own_n p1)), .val (.ref b1), .val (.ref b7), .val (.int (1 : Int32)), .val (.int (own_step (own_n p1) (own_step (own_n p1) (own_step (own_n p1) (0 : Int32) (p2 &&& (3 : Int32))) (((p2.toUInt32 >>> ((2 : Int32) &&& 31).toUInt32).toInt32) &&& (3 : Int32))) (((p2.toUInt32 >>> ((4 : Int32) &&& 31).toUInt32).toInt32) &&& (3 : Int32))))] [(.int (0 : Int32)), (.int (f_has (own_step (own_n p1) (own_step (own_n p1) (own_step (own_n p1) (0 : Int32) (p2 &&& (3 : Int32))) (((p2.toUInt32 >>> ((2 : Int32) &&& 31).toUInt32).toInt32) &&& (3 : Int32))) (((p2.toUInt32 >>> ((4 : Int32) &&& 31).toUInt32).toInt32) &&& (3 : Int32))) (own_n p1)))])) _
    refine XS.icmpNo X62.here hx rfl (hb hby at_175) rfl (teq hc7).2 ?_
    show Steps p.tables e below (T62.setTop (mkF m 178 #[.val (.int p1), .val (.int p2), .val (.int (own_n p1)), .val (.ref b1), .val (.ref b7), .val (.int (1 : Int32)), .val (.int (own_step (own_n p1) (own_step (own_n p1) (own_step (own_n p1) (0 : Int32) (p2 &&& (3 : Int32))) (((p2.toUInt32 >>> ((2 : Int32) &&& 31).toUInt32).toInt32) &&& (3 : Int32))) (((p2.toUInt32 >>> ((4 : Int32) &&& 31).toUInt32).toInt32) &&& (3 : Int32))))] [])) _
    refine XS.iconst X62.here hx rfl (hb hby at_178) ?_
    show Steps p.tables e below (T62.setTop (mkF m 179 #[.val (.int p1), .val (.int p2), .val (.int (own_n p1)), .val (.ref b1), .val (.ref b7), .val (.int (1 : Int32)), .val (.int (own_step (own_n p1) (own_step (own_n p1) (own_step (own_n p1) (0 : Int32) (p2 &&& (3 : Int32))) (((p2.toUInt32 >>> ((2 : Int32) &&& 31).toUInt32).toInt32) &&& (3 : Int32))) (((p2.toUInt32 >>> ((4 : Int32) &&& 31).toUInt32).toInt32) &&& (3 : Int32))))] [(.int (1 : Int32))])) _
    refine XS.goto X62.here hx rfl (pc0 := 179) (pc' := 183) rfl (hb hby at_179) (by decide) (by decide) ?_
    show Steps p.tables e below (T62.setTop (mkF m 183 #[.val (.int p1), .val (.int p2), .val (.int (own_n p1)), .val (.ref b1), .val (.ref b7), .val (.int (1 : Int32)), .val (.int (own_step (own_n p1) (own_step (own_n p1) (own_step (own_n p1) (0 : Int32) (p2 &&& (3 : Int32))) (((p2.toUInt32 >>> ((2 : Int32) &&& 31).toUInt32).toInt32) &&& (3 : Int32))) (((p2.toUInt32 >>> ((4 : Int32) &&& 31).toUInt32).toInt32) &&& (3 : Int32))))] [(.int (1 : Int32))])) _
    refine XS.istore X62.here hx rfl (hb hby at_183) rfl (l' := #[.val (.int p1), .val (.int p2), .val (.int (own_n p1)), .val (.ref b1), .val (.ref b7), .val (.int (1 : Int32)), .val (.int (own_step (own_n p1) (own_step (own_n p1) (own_step (own_n p1) (0 : Int32) (p2 &&& (3 : Int32))) (((p2.toUInt32 >>> ((2 : Int32) &&& 31).toUInt32).toInt32) &&& (3 : Int32))) (((p2.toUInt32 >>> ((4 : Int32) &&& 31).toUInt32).toInt32) &&& (3 : Int32))))]) rfl ?_
    show Steps p.tables e below (T62.setTop (mkF m 185 #[.val (.int p1), .val (.int p2), .val (.int (own_n p1)), .val (.ref b1), .val (.ref b7), .val (.int (1 : Int32)), .val (.int (own_step (own_n p1) (own_step (own_n p1) (own_step (own_n p1) (0 : Int32) (p2 &&& (3 : Int32))) (((p2.toUInt32 >>> ((2 : Int32) &&& 31).toUInt32).toInt32) &&& (3 : Int32))) (((p2.toUInt32 >>> ((4 : Int32) &&& 31).toUInt32).toInt32) &&& (3 : Int32))))] [])) _
    refine XS.iload X62.here hx rfl (hb hby at_185) rfl ?_
    show Steps p.tables e below (T62.setTop (mkF m 187 #[.val (.int p1), .val (.int p2), .val (.int (own_n p1)), .val (.ref b1), .val (.ref b7), .val (.int (1 : Int32)), .val (.int (own_step (own_n p1) (own_step (own_n p1) (own_step (own_n p1) (0 : Int32) (p2 &&& (3 : Int32))) (((p2.toUInt32 >>> ((2 : Int32) &&& 31).toUInt32).toInt32) &&& (3 : Int32))) (((p2.toUInt32 >>> ((4 : Int32) &&& 31).toUInt32).toInt32) &&& (3 : Int32))))] [(.int (1 : Int32))])) _
    exact retN X62 hx (t := .boolean) Bd.returns (by simp) (hb hby at_187) hr
  · show Q_law Z p1 p2 s_F s_C h0 n0 _ T62.heap _
    rw [e62]
    exact ⟨rfl, N63⟩
  · show CHr Z consts_1 s.vm s.heap T62.vm T62.heap
    rw [hh, e62]
    exact CR.trans (CHv.at X62 hZ hEW CR.1)
def Road_r4 (Z : State) (h0 : Heap) (p1 : Int32) (p2 : Int32) (s_F : Value) (s_C : Addr) : Prop := (Sta Z h0 "jdk/internal/util/Preconditions" "SIOOBE_FORMATTER" "Ljava/util/function/BiFunction;" s_F) ∧ (s_F.isRef = true) ∧ (Sta Z h0 "java/nio/charset/StandardCharsets" "ISO_8859_1" "Ljava/nio/charset/Charset;" (.ref s_C)) ∧ (Exa Z h0 s_C "sun/nio/cs/ISO_8859_1") ∧ (¬ ((own_n p1) < (0 : Int32))) ∧ ((own_n p1).toNatClampNeg ≤ 16) ∧ ((0 : Int32).toInt ≤ (own_n p1).toInt) ∧ ((own_n p1).toInt ≤ 16) ∧ ((p2 &&& (3 : Int32)) = (0 : Int32) ∨ (p2 &&& (3 : Int32)) = (1 : Int32) ∨ (p2 &&& (3 : Int32)) = (2 : Int32) ∨ (p2 &&& (3 : Int32)) = (3 : Int32)) ∧ (0 ≤ (own_step (own_n p1) (0 : Int32) (p2 &&& (3 : Int32))).toInt) ∧ ((own_step (own_n p1) (0 : Int32) (p2 &&& (3 : Int32))).toInt ≤ (own_n p1).toInt) ∧ ((((p2.toUInt32 >>> ((2 : Int32) &&& 31).toUInt32).toInt32) &&& (3 : Int32)) = (0 : Int32) ∨ (((p2.toUInt32 >>> ((2 : Int32) &&& 31).toUInt32).toInt32) &&& (3 : Int32)) = (1 : Int32) ∨ (((p2.toUInt32 >>> ((2 : Int32) &&& 31).toUInt32).toInt32) &&& (3 : Int32)) = (2 : Int32) ∨ (((p2.toUInt32 >>> ((2 : Int32) &&& 31).toUInt32).toInt32) &&& (3 : Int32)) = (3 : Int32)) ∧ (0 ≤ (own_step (own_n p1) (own_step (own_n p1) (0 : Int32) (p2 &&& (3 : Int32))) (((p2.toUInt32 >>> ((2 : Int32) &&& 31).toUInt32).toInt32) &&& (3 : Int32))).toInt) ∧ ((own_step (own_n p1) (own_step (own_n p1) (0 : Int32) (p2 &&& (3 : Int32))) (((p2.toUInt32 >>> ((2 : Int32) &&& 31).toUInt32).toInt32) &&& (3 : Int32))).toInt ≤ (own_n p1).toInt) ∧ ((((p2.toUInt32 >>> ((4 : Int32) &&& 31).toUInt32).toInt32) &&& (3 : Int32)) = (0 : Int32) ∨ (((p2.toUInt32 >>> ((4 : Int32) &&& 31).toUInt32).toInt32) &&& (3 : Int32)) = (1 : Int32) ∨ (((p2.toUInt32 >>> ((4 : Int32) &&& 31).toUInt32).toInt32) &&& (3 : Int32)) = (2 : Int32) ∨ (((p2.toUInt32 >>> ((4 : Int32) &&& 31).toUInt32).toInt32) &&& (3 : Int32)) = (3 : Int32)) ∧ ((0 : Int32) < (own_n p1)) ∧ ((f_has (0 : Int32) (own_n p1)) = (1 : Int32)) ∧ ((own_step (own_n p1) (0 : Int32) (p2 &&& (3 : Int32))) < (own_n p1)) ∧ ((f_has (own_step (own_n p1) (0 : Int32) (p2 &&& (3 : Int32))) (own_n p1)) = (1 : Int32)) ∧ ((own_step (own_n p1) (own_step (own_n p1) (0 : Int32) (p2 &&& (3 : Int32))) (((p2.toUInt32 >>> ((2 : Int32) &&& 31).toUInt32).toInt32) &&& (3 : Int32))) < (own_n p1)) ∧ ((f_has (own_step (own_n p1) (own_step (own_n p1) (0 : Int32) (p2 &&& (3 : Int32))) (((p2.toUInt32 >>> ((2 : Int32) &&& 31).toUInt32).toInt32) &&& (3 : Int32))) (own_n p1)) = (1 : Int32)) ∧ ((own_step (own_n p1) (own_step (own_n p1) (own_step (own_n p1) (0 : Int32) (p2 &&& (3 : Int32))) (((p2.toUInt32 >>> ((2 : Int32) &&& 31).toUInt32).toInt32) &&& (3 : Int32))) (((p2.toUInt32 >>> ((4 : Int32) &&& 31).toUInt32).toInt32) &&& (3 : Int32))) < (own_n p1)) ∧ ((f_has (own_step (own_n p1) (own_step (own_n p1) (own_step (own_n p1) (0 : Int32) (p2 &&& (3 : Int32))) (((p2.toUInt32 >>> ((2 : Int32) &&& 31).toUInt32).toInt32) &&& (3 : Int32))) (((p2.toUInt32 >>> ((4 : Int32) &&& 31).toUInt32).toInt32) &&& (3 : Int32))) (own_n p1)) = (1 : Int32))
set_option maxRecDepth 65536 in
set_option maxHeartbeats 40000000 in
theorem rm_law_r4 (l : Launch) (Z : State) (a0 : Array Value) (hw : ∀ d ∈ tables_1, d.before a0 Z = true) (ws : List Jvm.Cond) (p1 : Int32) (p2 : Int32) (s_F : Value) (s_C : Addr) (h0 : Heap) (n0 : Nat) (Z0 : n0 ≤ h0.size) (hroad : Road_r4 Z h0 p1 p2 s_F s_C) :
    MetFree l x (head1 (Jvm.Cond.code x code maxLocals ret :: ws) room_1) (fun a U => a = #[(.int p1), (.int p2)] ∧ Z.Warmed39 U.vm ∧ U.heap = h0 ∧ CHv Z consts_1 U.vm h0) (fun _ _ _ _ _ => True) (fun _ U o U' => ∃ v L, o = .returned v ∧ Q_law Z p1 p2 s_F s_C h0 n0 v U'.heap L ∧ CHr Z consts_1 U.vm U.heap U'.vm U'.heap ∧ ReturnedEndW U o U' L room_1.cells room_1.slots) := by
  obtain ⟨S_SIOOBE_FORMATTER, hsr, S_ISO_8859_1, E_s_C, hp1, hp2, hp3, hp4, hp5, hp6, hp7, hp8, hp9, hp10, hp11, hc0, hc1, hc2, hc3, hc4, hc5, hc6, hc7⟩ := hroad
  refine MetFree.of_bodySF (plainFor_of_name pn_com_example_fieldstone_fieldstone_core_KeyReaderHasRemainingPinLaw) hisR ?_
  intro p e s m args below meth c s₁ Bd hml0 hP hK
  obtain ⟨rfl, hZ, hh, CH0⟩ := hP
  have hx := Bd.exec
  have hby := Bd.bytes
  have hml : c.maxLocals = 7 := hml0
  have hown : s.vm.findClass "com/example/fieldstone/fieldstone/core/KeyReaderHasRemainingPinLaw" = some m.cls := findClass_of_methodNamed Bd.named
  have hnm := (name_of_methodNamed Bd.named Bd.method).1
  have X0 : Stand p l e room_1 s m #[(.int p1), (.int p2)] below meth c s₁ [] 0 0 := Stand.of_body Bd
  have e0 : s₁.heap = h0 := by rw [← hh, Bd.state]; rfl
  have N0 := Fr.nil n0
  have hZ : Z.Warmed39 (s.setVm s.vm).vm := hZ
  have hown : (s.setVm s.vm).vm.findClass "com/example/fieldstone/fieldstone/core/KeyReaderHasRemainingPinLaw" = some m.cls := hown
  have hZ0 := hZ
  have hown0 := hown
  have X0 : Stand p l e room_1 (s.setVm s.vm) m #[(.int p1), (.int p2)] below meth c s₁ [] 0 0 := X0
  have hS : s.Since s.vm h0.size := own_since s _
  have hk : h0.size ≤ h0.size := Nat.le_refl _
  have hEW := own_EW hw
  have CR : CHr Z consts_1 s.vm h0 s.vm h0 := CHr.refl CH0
  have pre0 : ∀ t, Steps p.tables e below (s₁.setTop (mkF m 0 #[.val (.int p1), .val (.int p2), .unset, .unset, .unset, .unset, .unset] [])) t → Steps p.tables e below (s₁.setTop (entryFrame m #[(.int p1), (.int p2)] maxLocals)) t := fun t k => castTop (ef_0_II m p1 p2) k
  obtain ⟨T1, h1, k1, X1, e1, E1, A1, Ex1, st1⟩ := newPE X0 hx hZ (hw _ (List.mem_of_getElem? (i := 1) rfl)) e0 (g := (mkF m 9 #[.val (.int p1), .val (.int p2), .val (.int (own_n p1)), .unset, .unset, .unset, .unset] [(.int (own_n p1))])) rfl (hb hby at_9) rfl hp1 (cap := 16) hp2 (by decide) (by decide) (by decide) (ad := "[B") (by decide)
  obtain ⟨b1, g1⟩ : ∃ z, z = h0.size := ⟨_, rfl⟩
  rw [← g1] at A1 Ex1 st1
  have g_b1 : n0 ≤ b1 := Nat.le_trans Z0 (Nat.le_of_eq g1.symm)
  have ne_s_C_b1 : s_C ≠ b1 := Nat.ne_of_lt (Nat.lt_of_lt_of_le E_s_C.lt (Nat.le_of_eq g1.symm))
  have CR := CR.trans (CHr.ext E1 CR.1)
  have f2 : Sta Z h1 "jdk/internal/util/Preconditions" "SIOOBE_FORMATTER" "Ljava/util/function/BiFunction;" s_F := S_SIOOBE_FORMATTER.ext E1
  have f3 : Sta Z h1 "java/nio/charset/StandardCharsets" "ISO_8859_1" "Ljava/nio/charset/Charset;" (.ref s_C) := S_ISO_8859_1.ext E1
  have f4 : Exa Z h1 s_C "sun/nio/cs/ISO_8859_1" := E_s_C.ext E1
  have hk : _ ≤ h1.size := Nat.le_trans hk E1.1
  have Zs5 : n0 ≤ h1.size := Nat.le_trans Z0 E1.1
  have f6 : Arv Z h1 b1 k1 .byte (own_n p1) (List.replicate 16 (Value.int (0 : Int32))) (.int (0 : Int32)) := (Arv.new A1 hp1).pad (pad_rep [] (.int (0 : Int32)) 16)
  obtain ⟨T7, h7, X7, e7, E7, A7, D7, -, st7⟩ := newO X1 hx hZ hown (hw _ (List.mem_of_getElem? (i := 2) rfl)) (hw _ (List.mem_of_getElem? (i := 3) rfl)) (hw _ (List.mem_of_getElem? (i := 4) rfl)) e1 (g := (mkF m 12 #[.val (.int p1), .val (.int p2), .val (.int (own_n p1)), .val (.ref b1), .unset, .unset, .unset] [])) rfl (hb hby at_12) (by decide) (by decide)
  obtain ⟨b7, g7⟩ : ∃ z, z = h1.size := ⟨_, rfl⟩
  rw [← g7] at A7 D7 st7
  have g_b7 : n0 ≤ b7 := Nat.le_trans Zs5 (Nat.le_of_eq g7.symm)
  have ne_s_C_b7 : s_C ≠ b7 := Nat.ne_of_lt (Nat.lt_of_lt_of_le f4.lt (Nat.le_of_eq g7.symm))
  have ne_b1_b7 : b1 ≠ b7 := Nat.ne_of_lt (Nat.lt_of_lt_of_le Ex1.lt (Nat.le_of_eq g7.symm))
  have CR := CR.trans (CHr.ext E7 CR.1)
  have f8 : Sta Z h7 "jdk/internal/util/Preconditions" "SIOOBE_FORMATTER" "Ljava/util/function/BiFunction;" s_F := f2.ext E7
  have f9 : Sta Z h7 "java/nio/charset/StandardCharsets" "ISO_8859_1" "Ljava/nio/charset/Charset;" (.ref s_C) := f3.ext E7
  have f10 : Exa Z h7 s_C "sun/nio/cs/ISO_8859_1" := f4.ext E7
  have f11 : Exa Z h7 b1 "[B" := Ex1.ext E7
  have f12 : Arv Z h7 b1 k1 .byte (own_n p1) (List.replicate 16 (Value.int (0 : Int32))) (.int (0 : Int32)) := f6.ext E7
  have hk : _ ≤ h7.size := Nat.le_trans hk E7.1
  have Zs13 : n0 ≤ h7.size := Nat.le_trans Zs5 E7.1
  have f14 : Fld Z h7 b7 "com/example/fieldstone/fieldstone/core/KeyReader" "key" "[B" .null := D7 (Or.inr (hw _ (List.mem_of_getElem? (i := 25) rfl))) (ty := (.array .byte)) (by decide)
  have f15 : Fld Z h7 b7 "com/example/fieldstone/fieldstone/core/KeyReader" "position" "I" (.int (0 : Int32)) := D7 (Or.inl (hw _ (List.mem_of_getElem? (i := 32) rfl))) (ty := .int) (by decide)
  obtain ⟨_, _, ⟨T16, L16, k16, n16⟩, -, X16, hS16, hg16, ⟨Lc16, hQ16, l16, y16, z16, CR16⟩, st16⟩ := X7.specialBackS hx (y := (⟨"com/example/fieldstone/fieldstone/core/KeyReader", "<init>", "([B)V"⟩ : MethodName)) rfl hown (mvT hZ (hw _ (List.mem_of_getElem? (i := 5) rfl))) (mvT hZ (hw _ (List.mem_of_getElem? (i := 6) rfl))) (mvT hZ (hw _ (List.mem_of_getElem? (i := 7) rfl))) (by decide) (backOfSH (W := 1) (rm_init l Z a0 hw [] b7 b1 h7 n0 Zs13 f11 A7 f14 g_b7 f15) hZ (hw _ (List.mem_of_getElem? (i := 7) rfl)) (hw _ (List.mem_of_getElem? (i := 4) rfl)) (by decide) (by decide) hEW CR.1) (g := (mkF m 17 #[.val (.int p1), .val (.int p2), .val (.int (own_n p1)), .val (.ref b1), .unset, .unset, .unset] [(.ref b1), (.ref b7), (.ref b7)])) rfl (by rw [hml]; rfl) (Steps.refl _) (a := b7) (argsL := [(.ref b1)]) (rest := [(.ref b7)]) (lenOf pd_11 rfl) rfl (by show 2 * 0 + _ ≤ _; exact Nat.le_of_eq rfl) (hb hby at_17) (fun _ _ => ⟨rfl, e7, (by decide : 2 + 2 ≤ _), (by decide : 18 + 16 ≤ _)⟩)
  dsimp only [Pt.U, Pt.locs, Pt.cells, Pt.slots] at X16 l16 y16 z16 st16 hQ16 hS16 hg16 CR16
  subst l16 y16 z16
  rw [e7] at hg16
  obtain ⟨X16, hS, hZ, hown⟩ := rebS hS hk X16 hS16 hg16 hZ hown
  have hZ16 := hZ
  have hown16 := hown
  have hk : _ ≤ T16.heap.size := Nat.le_refl _
  have CR := CR.trans CR16
  obtain ⟨rfl, Nq16, Kc16, fq16_0, fq16_1, fq16_2⟩ := hQ16
  have f18 : Sta Z T16.heap "jdk/internal/util/Preconditions" "SIOOBE_FORMATTER" "Ljava/util/function/BiFunction;" s_F := own_sta_keep f8 Kc16 (allS (own_plain_cell A7) all0)
  have f19 : Sta Z T16.heap "java/nio/charset/StandardCharsets" "ISO_8859_1" "Ljava/nio/charset/Charset;" (.ref s_C) := own_sta_keep f9 Kc16 (allS (own_plain_cell A7) all0)
  have f20 : Exa Z T16.heap s_C "sun/nio/cs/ISO_8859_1" := f10.keep Kc16
  have f21 : Exa Z T16.heap b1 "[B" := f11.keep Kc16
  have f22 : Arv Z T16.heap b1 k1 .byte (own_n p1) (List.replicate 16 (Value.int (0 : Int32))) (.int (0 : Int32)) := f12.keep Kc16 (ninS ne_b1_b7 nin0)
  have f23 : Fld Z T16.heap b7 "com/example/fieldstone/fieldstone/core/KeyReader" "key" "[B" (.ref b1) := fq16_1
  have f24 : Fld Z T16.heap b7 "com/example/fieldstone/fieldstone/core/KeyReader" "position" "I" (.int (0 : Int32)) := fq16_2
  have Zs25 : n0 ≤ T16.heap.size := Nat.le_trans Zs13 Kc16.1
  have N17 := Fr.app N0 Nq16
  obtain ⟨cq26, kq26, q26a, q26b, q26c⟩ := isOf hZ rfl fq16_0
  obtain ⟨_, _, ⟨T26, L26, k26, n26⟩, -, X26, ⟨Lc26, hQ26, l26, y26, z26⟩, st26⟩ := X16.virtualBack hx (y := (⟨"com/example/fieldstone/fieldstone/core/KeyReader", "hasRemaining", "()Z"⟩ : MethodName)) (z := (⟨"com/example/fieldstone/fieldstone/core/KeyReader", "hasRemaining", "()Z"⟩ : MethodName)) hown (mvT hZ (hw _ (List.mem_of_getElem? (i := 26) rfl))) (mvT hZ (hw _ (List.mem_of_getElem? (i := 27) rfl))) (notFace_of_selects (args := #[]) (mvT hZ (hw _ (List.mem_of_getElem? (i := 29) rfl)))) (mvT hZ (hw _ (List.mem_of_getElem? (i := 29) rfl))) (mvT hZ (hw _ (List.mem_of_getElem? (i := 28) rfl))) (by decide) (backOf (W := 0) (rm_has l Z a0 hw [] b7 (0 : Int32) b1 k1 (own_n p1) (List.replicate 16 (Value.int (0 : Int32))) T16.heap n0 Zs25 f24 f23 f22) hZ (hw _ (List.mem_of_getElem? (i := 30) rfl)) (hw _ (List.mem_of_getElem? (i := 4) rfl)) (by decide) (by decide)) q26a q26c (g := (mkF m 24 #[.val (.int p1), .val (.int p2), .val (.int (own_n p1)), .val (.ref b1), .val (.ref b7), .unset, .unset] [(.ref b7)])) rfl (by rw [hml]; rfl) (Steps.refl _) (argsL := []) (rest := []) (lenOf pd_7 rfl) rfl (by show 2 * 0 + _ ≤ _; exact Nat.le_of_eq rfl) (hb hby at_24) (fun _ _ => ⟨rfl, rfl, (by decide : 4 + 0 ≤ _), (by decide : 34 + 0 ≤ _)⟩)
  dsimp only [Pt.U, Pt.locs, Pt.cells, Pt.slots] at X26 l26 y26 z26 st26 hQ26
  subst l26 y26 z26
  obtain ⟨rfl, Nq26, e26⟩ := hQ26
  have N27 := Fr.app N17 Nq26
  obtain ⟨_, _, ⟨T28, L28, k28, n28⟩, -, X28, hS28, hg28, ⟨Lc28, hQ28, l28, y28, z28, CR28⟩, st28⟩ := Jvm.RoadKit.callSS X26 hx (y := (⟨"com/example/fieldstone/fieldstone/core/KeyReaderHasRemainingPinLaw", "step", "(Lcom/example/fieldstone/fieldstone/core/KeyReader;III)I"⟩ : MethodName)) hown (mvT hZ (hw _ (List.mem_of_getElem? (i := 33) rfl))) (mvT hZ (hw _ (List.mem_of_getElem? (i := 34) rfl))) (mvT hZ (hw _ (List.mem_of_getElem? (i := 35) rfl))) (mvT hZ (hw _ (List.mem_of_getElem? (i := 36) rfl))) (by decide) (backOfSH (W := 0) (rm_step l Z a0 hw [] b7 (own_n p1) (0 : Int32) (p2 &&& (3 : Int32)) b1 k1 s_F s_C T16.heap n0 Zs25 f23 f21 f22 f24 fq16_0 g_b7 f18 hsr f19 f20 (by decide) hp3 hp4 hp5) hZ (hw _ (List.mem_of_getElem? (i := 36) rfl)) (hw _ (List.mem_of_getElem? (i := 35) rfl)) (by decide) (by decide) hEW CR.1) (g := (mkF m 57 #[.val (.int p1), .val (.int p2), .val (.int (own_n p1)), .val (.ref b1), .val (.ref b7), .val (.int (1 : Int32)), .val (.int (0 : Int32))] [(.int (p2 &&& (3 : Int32))), (.int (0 : Int32)), (.int (own_n p1)), (.ref b7)])) rfl (by rw [hml]; rfl) (argsL := [(.ref b7), (.int (own_n p1)), (.int (0 : Int32)), (.int (p2 &&& (3 : Int32)))]) (rest := []) (lenOf pd_12 rfl) rfl (by show 2 * 0 + _ ≤ _; exact Nat.le_of_eq rfl) (hb hby at_57) (fun _ _ => ⟨rfl, e26, (by decide : 4 + 5 ≤ _), (by decide : 34 + 12 ≤ _)⟩)
  dsimp only [Pt.U, Pt.locs, Pt.cells, Pt.slots] at X28 l28 y28 z28 st28 hQ28 hS28 hg28 CR28
  subst l28 y28 z28
  rw [e26] at hg28
  obtain ⟨X28, hS, hZ, hown⟩ := rebS hS hk X28 hS28 hg28 hZ hown
  have hZ28 := hZ
  have hown28 := hown
  have hk : _ ≤ T28.heap.size := Nat.le_refl _
  have CR := CR.trans CR28
  obtain ⟨rfl, Nq28, Kc28, fq28_0, fq28_1, fq28_2⟩ := hQ28
  have f30 : Sta Z T28.heap "jdk/internal/util/Preconditions" "SIOOBE_FORMATTER" "Ljava/util/function/BiFunction;" s_F := own_sta_keep f18 Kc28 (allS (own_plain_cell fq16_0) all0)
  have f31 : Sta Z T28.heap "java/nio/charset/StandardCharsets" "ISO_8859_1" "Ljava/nio/charset/Charset;" (.ref s_C) := own_sta_keep f19 Kc28 (allS (own_plain_cell fq16_0) all0)
  have f32 : Exa Z T28.heap s_C "sun/nio/cs/ISO_8859_1" := f20.keep Kc28
  have f33 : Exa Z T28.heap b1 "[B" := f21.keep Kc28
  have f34 : Arv Z T28.heap b1 k1 .byte (own_n p1) (List.replicate 16 (Value.int (0 : Int32))) (.int (0 : Int32)) := f22.keep Kc28 (ninS ne_b1_b7 nin0)
  have f35 : Fld Z T28.heap b7 "com/example/fieldstone/fieldstone/core/KeyReader" "key" "[B" (.ref b1) := fq28_1
  have f36 : Fld Z T28.heap b7 "com/example/fieldstone/fieldstone/core/KeyReader" "position" "I" (.int (own_step (own_n p1) (0 : Int32) (p2 &&& (3 : Int32)))) := fq28_2
  have Zs37 : n0 ≤ T28.heap.size := Nat.le_trans Zs25 Kc28.1
  have N29 := Fr.app N27 Nq28
  obtain ⟨cq38, kq38, q38a, q38b, q38c⟩ := isOf hZ rfl fq28_0
  obtain ⟨_, _, ⟨T38, L38, k38, n38⟩, -, X38, ⟨Lc38, hQ38, l38, y38, z38⟩, st38⟩ := X28.virtualBack hx (y := (⟨"com/example/fieldstone/fieldstone/core/KeyReader", "hasRemaining", "()Z"⟩ : MethodName)) (z := (⟨"com/example/fieldstone/fieldstone/core/KeyReader", "hasRemaining", "()Z"⟩ : MethodName)) hown (mvT hZ (hw _ (List.mem_of_getElem? (i := 26) rfl))) (mvT hZ (hw _ (List.mem_of_getElem? (i := 27) rfl))) (notFace_of_selects (args := #[]) (mvT hZ (hw _ (List.mem_of_getElem? (i := 29) rfl)))) (mvT hZ (hw _ (List.mem_of_getElem? (i := 29) rfl))) (mvT hZ (hw _ (List.mem_of_getElem? (i := 28) rfl))) (by decide) (backOf (W := 0) (rm_has l Z a0 hw [] b7 (own_step (own_n p1) (0 : Int32) (p2 &&& (3 : Int32))) b1 k1 (own_n p1) (List.replicate 16 (Value.int (0 : Int32))) T28.heap n0 Zs37 f36 f35 f34) hZ (hw _ (List.mem_of_getElem? (i := 30) rfl)) (hw _ (List.mem_of_getElem? (i := 4) rfl)) (by decide) (by decide)) q38a q38c (g := (mkF m 69 #[.val (.int p1), .val (.int p2), .val (.int (own_n p1)), .val (.ref b1), .val (.ref b7), .val (.int (1 : Int32)), .val (.int (own_step (own_n p1) (0 : Int32) (p2 &&& (3 : Int32))))] [(.ref b7)])) rfl (by rw [hml]; rfl) (Steps.refl _) (argsL := []) (rest := []) (lenOf pd_7 rfl) rfl (by show 2 * 0 + _ ≤ _; exact Nat.le_of_eq rfl) (hb hby at_69) (fun _ _ => ⟨rfl, rfl, (by decide : 9 + 0 ≤ _), (by decide : 46 + 0 ≤ _)⟩)
  dsimp only [Pt.U, Pt.locs, Pt.cells, Pt.slots] at X38 l38 y38 z38 st38 hQ38
  subst l38 y38 z38
  obtain ⟨rfl, Nq38, e38⟩ := hQ38
  have N39 := Fr.app N29 Nq38
  obtain ⟨_, _, ⟨T40, L40, k40, n40⟩, -, X40, hS40, hg40, ⟨Lc40, hQ40, l40, y40, z40, CR40⟩, st40⟩ := Jvm.RoadKit.callSS X38 hx (y := (⟨"com/example/fieldstone/fieldstone/core/KeyReaderHasRemainingPinLaw", "step", "(Lcom/example/fieldstone/fieldstone/core/KeyReader;III)I"⟩ : MethodName)) hown (mvT hZ (hw _ (List.mem_of_getElem? (i := 33) rfl))) (mvT hZ (hw _ (List.mem_of_getElem? (i := 34) rfl))) (mvT hZ (hw _ (List.mem_of_getElem? (i := 35) rfl))) (mvT hZ (hw _ (List.mem_of_getElem? (i := 36) rfl))) (by decide) (backOfSH (W := 0) (rm_step l Z a0 hw [] b7 (own_n p1) (own_step (own_n p1) (0 : Int32) (p2 &&& (3 : Int32))) (((p2.toUInt32 >>> ((2 : Int32) &&& 31).toUInt32).toInt32) &&& (3 : Int32)) b1 k1 s_F s_C T28.heap n0 Zs37 f35 f33 f34 f36 fq28_0 g_b7 f30 hsr f31 f32 hp6 hp7 hp4 hp8) hZ (hw _ (List.mem_of_getElem? (i := 36) rfl)) (hw _ (List.mem_of_getElem? (i := 35) rfl)) (by decide) (by decide) hEW CR.1) (g := (mkF m 103 #[.val (.int p1), .val (.int p2), .val (.int (own_n p1)), .val (.ref b1), .val (.ref b7), .val (.int (1 : Int32)), .val (.int (own_step (own_n p1) (0 : Int32) (p2 &&& (3 : Int32))))] [(.int (((p2.toUInt32 >>> ((2 : Int32) &&& 31).toUInt32).toInt32) &&& (3 : Int32))), (.int (own_step (own_n p1) (0 : Int32) (p2 &&& (3 : Int32)))), (.int (own_n p1)), (.ref b7)])) rfl (by rw [hml]; rfl) (argsL := [(.ref b7), (.int (own_n p1)), (.int (own_step (own_n p1) (0 : Int32) (p2 &&& (3 : Int32)))), (.int (((p2.toUInt32 >>> ((2 : Int32) &&& 31).toUInt32).toInt32) &&& (3 : Int32)))]) (rest := []) (lenOf pd_12 rfl) rfl (by show 2 * 0 + _ ≤ _; exact Nat.le_of_eq rfl) (hb hby at_103) (fun _ _ => ⟨rfl, e38, (by decide : 9 + 5 ≤ _), (by decide : 46 + 12 ≤ _)⟩)
  dsimp only [Pt.U, Pt.locs, Pt.cells, Pt.slots] at X40 l40 y40 z40 st40 hQ40 hS40 hg40 CR40
  subst l40 y40 z40
  rw [e38] at hg40
  obtain ⟨X40, hS, hZ, hown⟩ := rebS hS hk X40 hS40 hg40 hZ hown
  have hZ40 := hZ
  have hown40 := hown
  have hk : _ ≤ T40.heap.size := Nat.le_refl _
  have CR := CR.trans CR40
  obtain ⟨rfl, Nq40, Kc40, fq40_0, fq40_1, fq40_2⟩ := hQ40
  have f42 : Sta Z T40.heap "jdk/internal/util/Preconditions" "SIOOBE_FORMATTER" "Ljava/util/function/BiFunction;" s_F := own_sta_keep f30 Kc40 (allS (own_plain_cell fq28_0) all0)
  have f43 : Sta Z T40.heap "java/nio/charset/StandardCharsets" "ISO_8859_1" "Ljava/nio/charset/Charset;" (.ref s_C) := own_sta_keep f31 Kc40 (allS (own_plain_cell fq28_0) all0)
  have f44 : Exa Z T40.heap s_C "sun/nio/cs/ISO_8859_1" := f32.keep Kc40
  have f45 : Exa Z T40.heap b1 "[B" := f33.keep Kc40
  have f46 : Arv Z T40.heap b1 k1 .byte (own_n p1) (List.replicate 16 (Value.int (0 : Int32))) (.int (0 : Int32)) := f34.keep Kc40 (ninS ne_b1_b7 nin0)
  have f47 : Fld Z T40.heap b7 "com/example/fieldstone/fieldstone/core/KeyReader" "key" "[B" (.ref b1) := fq40_1
  have f48 : Fld Z T40.heap b7 "com/example/fieldstone/fieldstone/core/KeyReader" "position" "I" (.int (own_step (own_n p1) (own_step (own_n p1) (0 : Int32) (p2 &&& (3 : Int32))) (((p2.toUInt32 >>> ((2 : Int32) &&& 31).toUInt32).toInt32) &&& (3 : Int32)))) := fq40_2
  have Zs49 : n0 ≤ T40.heap.size := Nat.le_trans Zs37 Kc40.1
  have N41 := Fr.app N39 Nq40
  obtain ⟨cq50, kq50, q50a, q50b, q50c⟩ := isOf hZ rfl fq40_0
  obtain ⟨_, _, ⟨T50, L50, k50, n50⟩, -, X50, ⟨Lc50, hQ50, l50, y50, z50⟩, st50⟩ := X40.virtualBack hx (y := (⟨"com/example/fieldstone/fieldstone/core/KeyReader", "hasRemaining", "()Z"⟩ : MethodName)) (z := (⟨"com/example/fieldstone/fieldstone/core/KeyReader", "hasRemaining", "()Z"⟩ : MethodName)) hown (mvT hZ (hw _ (List.mem_of_getElem? (i := 26) rfl))) (mvT hZ (hw _ (List.mem_of_getElem? (i := 27) rfl))) (notFace_of_selects (args := #[]) (mvT hZ (hw _ (List.mem_of_getElem? (i := 29) rfl)))) (mvT hZ (hw _ (List.mem_of_getElem? (i := 29) rfl))) (mvT hZ (hw _ (List.mem_of_getElem? (i := 28) rfl))) (by decide) (backOf (W := 0) (rm_has l Z a0 hw [] b7 (own_step (own_n p1) (own_step (own_n p1) (0 : Int32) (p2 &&& (3 : Int32))) (((p2.toUInt32 >>> ((2 : Int32) &&& 31).toUInt32).toInt32) &&& (3 : Int32))) b1 k1 (own_n p1) (List.replicate 16 (Value.int (0 : Int32))) T40.heap n0 Zs49 f48 f47 f46) hZ (hw _ (List.mem_of_getElem? (i := 30) rfl)) (hw _ (List.mem_of_getElem? (i := 4) rfl)) (by decide) (by decide)) q50a q50c (g := (mkF m 115 #[.val (.int p1), .val (.int p2), .val (.int (own_n p1)), .val (.ref b1), .val (.ref b7), .val (.int (1 : Int32)), .val (.int (own_step (own_n p1) (own_step (own_n p1) (0 : Int32) (p2 &&& (3 : Int32))) (((p2.toUInt32 >>> ((2 : Int32) &&& 31).toUInt32).toInt32) &&& (3 : Int32))))] [(.ref b7)])) rfl (by rw [hml]; rfl) (Steps.refl _) (argsL := []) (rest := []) (lenOf pd_7 rfl) rfl (by show 2 * 0 + _ ≤ _; exact Nat.le_of_eq rfl) (hb hby at_115) (fun _ _ => ⟨rfl, rfl, (by decide : 14 + 0 ≤ _), (by decide : 58 + 0 ≤ _)⟩)
  dsimp only [Pt.U, Pt.locs, Pt.cells, Pt.slots] at X50 l50 y50 z50 st50 hQ50
  subst l50 y50 z50
  obtain ⟨rfl, Nq50, e50⟩ := hQ50
  have N51 := Fr.app N41 Nq50
  obtain ⟨_, _, ⟨T52, L52, k52, n52⟩, -, X52, hS52, hg52, ⟨Lc52, hQ52, l52, y52, z52, CR52⟩, st52⟩ := Jvm.RoadKit.callSS X50 hx (y := (⟨"com/example/fieldstone/fieldstone/core/KeyReaderHasRemainingPinLaw", "step", "(Lcom/example/fieldstone/fieldstone/core/KeyReader;III)I"⟩ : MethodName)) hown (mvT hZ (hw _ (List.mem_of_getElem? (i := 33) rfl))) (mvT hZ (hw _ (List.mem_of_getElem? (i := 34) rfl))) (mvT hZ (hw _ (List.mem_of_getElem? (i := 35) rfl))) (mvT hZ (hw _ (List.mem_of_getElem? (i := 36) rfl))) (by decide) (backOfSH (W := 0) (rm_step l Z a0 hw [] b7 (own_n p1) (own_step (own_n p1) (own_step (own_n p1) (0 : Int32) (p2 &&& (3 : Int32))) (((p2.toUInt32 >>> ((2 : Int32) &&& 31).toUInt32).toInt32) &&& (3 : Int32))) (((p2.toUInt32 >>> ((4 : Int32) &&& 31).toUInt32).toInt32) &&& (3 : Int32)) b1 k1 s_F s_C T40.heap n0 Zs49 f47 f45 f46 f48 fq40_0 g_b7 f42 hsr f43 f44 hp9 hp10 hp4 hp11) hZ (hw _ (List.mem_of_getElem? (i := 36) rfl)) (hw _ (List.mem_of_getElem? (i := 35) rfl)) (by decide) (by decide) hEW CR.1) (g := (mkF m 149 #[.val (.int p1), .val (.int p2), .val (.int (own_n p1)), .val (.ref b1), .val (.ref b7), .val (.int (1 : Int32)), .val (.int (own_step (own_n p1) (own_step (own_n p1) (0 : Int32) (p2 &&& (3 : Int32))) (((p2.toUInt32 >>> ((2 : Int32) &&& 31).toUInt32).toInt32) &&& (3 : Int32))))] [(.int (((p2.toUInt32 >>> ((4 : Int32) &&& 31).toUInt32).toInt32) &&& (3 : Int32))), (.int (own_step (own_n p1) (own_step (own_n p1) (0 : Int32) (p2 &&& (3 : Int32))) (((p2.toUInt32 >>> ((2 : Int32) &&& 31).toUInt32).toInt32) &&& (3 : Int32)))), (.int (own_n p1)), (.ref b7)])) rfl (by rw [hml]; rfl) (argsL := [(.ref b7), (.int (own_n p1)), (.int (own_step (own_n p1) (own_step (own_n p1) (0 : Int32) (p2 &&& (3 : Int32))) (((p2.toUInt32 >>> ((2 : Int32) &&& 31).toUInt32).toInt32) &&& (3 : Int32)))), (.int (((p2.toUInt32 >>> ((4 : Int32) &&& 31).toUInt32).toInt32) &&& (3 : Int32)))]) (rest := []) (lenOf pd_12 rfl) rfl (by show 2 * 0 + _ ≤ _; exact Nat.le_of_eq rfl) (hb hby at_149) (fun _ _ => ⟨rfl, e50, (by decide : 14 + 5 ≤ _), (by decide : 58 + 12 ≤ _)⟩)
  dsimp only [Pt.U, Pt.locs, Pt.cells, Pt.slots] at X52 l52 y52 z52 st52 hQ52 hS52 hg52 CR52
  subst l52 y52 z52
  rw [e50] at hg52
  obtain ⟨X52, hS, hZ, hown⟩ := rebS hS hk X52 hS52 hg52 hZ hown
  have hZ52 := hZ
  have hown52 := hown
  have hk : _ ≤ T52.heap.size := Nat.le_refl _
  have CR := CR.trans CR52
  obtain ⟨rfl, Nq52, Kc52, fq52_0, fq52_1, fq52_2⟩ := hQ52
  have f54 : Sta Z T52.heap "jdk/internal/util/Preconditions" "SIOOBE_FORMATTER" "Ljava/util/function/BiFunction;" s_F := own_sta_keep f42 Kc52 (allS (own_plain_cell fq40_0) all0)
  have f55 : Sta Z T52.heap "java/nio/charset/StandardCharsets" "ISO_8859_1" "Ljava/nio/charset/Charset;" (.ref s_C) := own_sta_keep f43 Kc52 (allS (own_plain_cell fq40_0) all0)
  have f56 : Exa Z T52.heap s_C "sun/nio/cs/ISO_8859_1" := f44.keep Kc52
  have f57 : Exa Z T52.heap b1 "[B" := f45.keep Kc52
  have f58 : Arv Z T52.heap b1 k1 .byte (own_n p1) (List.replicate 16 (Value.int (0 : Int32))) (.int (0 : Int32)) := f46.keep Kc52 (ninS ne_b1_b7 nin0)
  have f59 : Fld Z T52.heap b7 "com/example/fieldstone/fieldstone/core/KeyReader" "key" "[B" (.ref b1) := fq52_1
  have f60 : Fld Z T52.heap b7 "com/example/fieldstone/fieldstone/core/KeyReader" "position" "I" (.int (own_step (own_n p1) (own_step (own_n p1) (own_step (own_n p1) (0 : Int32) (p2 &&& (3 : Int32))) (((p2.toUInt32 >>> ((2 : Int32) &&& 31).toUInt32).toInt32) &&& (3 : Int32))) (((p2.toUInt32 >>> ((4 : Int32) &&& 31).toUInt32).toInt32) &&& (3 : Int32)))) := fq52_2
  have Zs61 : n0 ≤ T52.heap.size := Nat.le_trans Zs49 Kc52.1
  have N53 := Fr.app N51 Nq52
  obtain ⟨cq62, kq62, q62a, q62b, q62c⟩ := isOf hZ rfl fq52_0
  obtain ⟨_, _, ⟨T62, L62, k62, n62⟩, -, X62, ⟨Lc62, hQ62, l62, y62, z62⟩, st62⟩ := X52.virtualBack hx (y := (⟨"com/example/fieldstone/fieldstone/core/KeyReader", "hasRemaining", "()Z"⟩ : MethodName)) (z := (⟨"com/example/fieldstone/fieldstone/core/KeyReader", "hasRemaining", "()Z"⟩ : MethodName)) hown (mvT hZ (hw _ (List.mem_of_getElem? (i := 26) rfl))) (mvT hZ (hw _ (List.mem_of_getElem? (i := 27) rfl))) (notFace_of_selects (args := #[]) (mvT hZ (hw _ (List.mem_of_getElem? (i := 29) rfl)))) (mvT hZ (hw _ (List.mem_of_getElem? (i := 29) rfl))) (mvT hZ (hw _ (List.mem_of_getElem? (i := 28) rfl))) (by decide) (backOf (W := 0) (rm_has l Z a0 hw [] b7 (own_step (own_n p1) (own_step (own_n p1) (own_step (own_n p1) (0 : Int32) (p2 &&& (3 : Int32))) (((p2.toUInt32 >>> ((2 : Int32) &&& 31).toUInt32).toInt32) &&& (3 : Int32))) (((p2.toUInt32 >>> ((4 : Int32) &&& 31).toUInt32).toInt32) &&& (3 : Int32))) b1 k1 (own_n p1) (List.replicate 16 (Value.int (0 : Int32))) T52.heap n0 Zs61 f60 f59 f58) hZ (hw _ (List.mem_of_getElem? (i := 30) rfl)) (hw _ (List.mem_of_getElem? (i := 4) rfl)) (by decide) (by decide)) q62a q62c (g := (mkF m 161 #[.val (.int p1), .val (.int p2), .val (.int (own_n p1)), .val (.ref b1), .val (.ref b7), .val (.int (1 : Int32)), .val (.int (own_step (own_n p1) (own_step (own_n p1) (own_step (own_n p1) (0 : Int32) (p2 &&& (3 : Int32))) (((p2.toUInt32 >>> ((2 : Int32) &&& 31).toUInt32).toInt32) &&& (3 : Int32))) (((p2.toUInt32 >>> ((4 : Int32) &&& 31).toUInt32).toInt32) &&& (3 : Int32))))] [(.ref b7)])) rfl (by rw [hml]; rfl) (Steps.refl _) (argsL := []) (rest := []) (lenOf pd_7 rfl) rfl (by show 2 * 0 + _ ≤ _; exact Nat.le_of_eq rfl) (hb hby at_161) (fun _ _ => ⟨rfl, rfl, (by decide : 19 + 0 ≤ _), (by decide : 70 + 0 ≤ _)⟩)
  dsimp only [Pt.U, Pt.locs, Pt.cells, Pt.slots] at X62 l62 y62 z62 st62 hQ62
  subst l62 y62 z62
  obtain ⟨rfl, Nq62, e62⟩ := hQ62
  have N63 := Fr.app N53 Nq62
  obtain ⟨fs, hr, hrun, hended, hRE⟩ := X62.leaveW hS (by rw [e62]; exact hk) (v := some (.int (1 : Int32))) (fun h => by rw [Bd.returns] at h; cases h) Bd.notSynchronized
  refine ⟨_, _, pre0 _ ?_, hrun, hended, _, _, rfl, ?_, ?_, hRE.1, hRE.2.1, hRE.2.2.1, hRE.2.2.2.mono (by decide) (by decide)⟩
  · show Steps p.tables e below (s₁.setTop (mkF m 0 #[.val (.int p1), .val (.int p2), .unset, .unset, .unset, .unset, .unset] [])) _
    refine XS.iloadN X0.here hx rfl (hb hby at_0) rfl ?_
    show Steps p.tables e below (s₁.setTop (mkF m 1 #[.val (.int p1), .val (.int p2), .unset, .unset, .unset, .unset, .unset] [(.int p1)])) _
    refine X0.ldcInt hx hown0 (mvT hZ0 (hw _ (List.mem_of_getElem? (i := 0) rfl))) (g := (mkF m 1 #[.val (.int p1), .val (.int p2), .unset, .unset, .unset, .unset, .unset] [(.int p1)])) rfl (hb hby at_1) _ ?_
    show Steps p.tables e below (s₁.setTop (mkF m 3 #[.val (.int p1), .val (.int p2), .unset, .unset, .unset, .unset, .unset] [(.int (2147483647 : Int32)), (.int p1)])) _
    refine XS.iand X0.here hx rfl (hb hby at_3) rfl ?_
    show Steps p.tables e below (s₁.setTop (mkF m 4 #[.val (.int p1), .val (.int p2), .unset, .unset, .unset, .unset, .unset] [(.int (p1 &&& (2147483647 : Int32)))])) _
    refine XS.bipush X0.here hx rfl (hb hby at_4) ?_
    show Steps p.tables e below (s₁.setTop (mkF m 6 #[.val (.int p1), .val (.int p2), .unset, .unset, .unset, .unset, .unset] [(.int (17 : Int32)), (.int (p1 &&& (2147483647 : Int32)))])) _
    refine iremM X0 hx rfl (hb hby at_6) rfl (by decide) ?_
    show Steps p.tables e below (s₁.setTop (mkF m 7 #[.val (.int p1), .val (.int p2), .unset, .unset, .unset, .unset, .unset] [(.int ((p1 &&& (2147483647 : Int32)) % (17 : Int32)))])) _
    refine XS.istoreN X0.here hx rfl (hb hby at_7) rfl (l' := #[.val (.int p1), .val (.int p2), .val (.int (own_n p1)), .unset, .unset, .unset, .unset]) rfl ?_
    show Steps p.tables e below (s₁.setTop (mkF m 8 #[.val (.int p1), .val (.int p2), .val (.int (own_n p1)), .unset, .unset, .unset, .unset] [])) _
    refine XS.iloadN X0.here hx rfl (hb hby at_8) rfl ?_
    show Steps p.tables e below (s₁.setTop (mkF m 9 #[.val (.int p1), .val (.int p2), .val (.int (own_n p1)), .unset, .unset, .unset, .unset] [(.int (own_n p1))])) _
    refine st1 _ ?_
    show Steps p.tables e below (T1.setTop (mkF m 11 #[.val (.int p1), .val (.int p2), .val (.int (own_n p1)), .unset, .unset, .unset, .unset] [(.ref b1)])) _
    refine XS.astoreN X1.here hx rfl (hb hby at_11) rfl rfl (l' := #[.val (.int p1), .val (.int p2), .val (.int (own_n p1)), .val (.ref b1), .unset, .unset, .unset]) rfl ?_
    show Steps p.tables e below (T1.setTop (mkF m 12 #[.val (.int p1), .val (.int p2), .val (.int (own_n p1)), .val (.ref b1), .unset, .unset, .unset] [])) _
    refine st7 _ ?_
    show Steps p.tables e below (T7.setTop (mkF m 15 #[.val (.int p1), .val (.int p2), .val (.int (own_n p1)), .val (.ref b1), .unset, .unset, .unset] [(.ref b7)])) _
    refine XS.dup X7.here hx rfl (hb hby at_15) rfl rfl ?_
    show Steps p.tables e below (T7.setTop (mkF m 16 #[.val (.int p1), .val (.int p2), .val (.int (own_n p1)), .val (.ref b1), .unset, .unset, .unset] [(.ref b7), (.ref b7)])) _
    refine XS.aloadN X7.here hx rfl (hb hby at_16) rfl rfl ?_
    show Steps p.tables e below (T7.setTop (mkF m 17 #[.val (.int p1), .val (.int p2), .val (.int (own_n p1)), .val (.ref b1), .unset, .unset, .unset] [(.ref b1), (.ref b7), (.ref b7)])) _
    refine st16.trans ?_
    show Steps p.tables e below (T16.setTop (mkF m 20 #[.val (.int p1), .val (.int p2), .val (.int (own_n p1)), .val (.ref b1), .unset, .unset, .unset] [(.ref b7)])) _
    refine XS.astore X16.here hx rfl (hb hby at_20) rfl rfl (l' := #[.val (.int p1), .val (.int p2), .val (.int (own_n p1)), .val (.ref b1), .val (.ref b7), .unset, .unset]) rfl ?_
    show Steps p.tables e below (T16.setTop (mkF m 22 #[.val (.int p1), .val (.int p2), .val (.int (own_n p1)), .val (.ref b1), .val (.ref b7), .unset, .unset] [])) _
    refine XS.aload X16.here hx rfl (hb hby at_22) rfl rfl ?_
    show Steps p.tables e below (T16.setTop (mkF m 24 #[.val (.int p1), .val (.int p2), .val (.int (own_n p1)), .val (.ref b1), .val (.ref b7), .unset, .unset] [(.ref b7)])) _
    refine st26.trans ?_
    show Steps p.tables e below (T26.setTop (mkF m 27 #[.val (.int p1), .val (.int p2), .val (.int (own_n p1)), .val (.ref b1), .val (.ref b7), .unset, .unset] [(.int (f_has (0 : Int32) (own_n p1)))])) _
    refine XS.iloadN X26.here hx rfl (hb hby at_27) rfl ?_
    show Steps p.tables e below (T26.setTop (mkF m 28 #[.val (.int p1), .val (.int p2), .val (.int (own_n p1)), .val (.ref b1), .val (.ref b7), .unset, .unset] [(.int (own_n p1)), (.int (f_has (0 : Int32) (own_n p1)))])) _
    refine XS.ifNo X26.here hx rfl (hb hby at_28) rfl ((if0 _ _).trans (tlt hc0).2.2.2) ?_
    show Steps p.tables e below (T26.setTop (mkF m 31 #[.val (.int p1), .val (.int p2), .val (.int (own_n p1)), .val (.ref b1), .val (.ref b7), .unset, .unset] [(.int (f_has (0 : Int32) (own_n p1)))])) _
    refine XS.iconst X26.here hx rfl (hb hby at_31) ?_
    show Steps p.tables e below (T26.setTop (mkF m 32 #[.val (.int p1), .val (.int p2), .val (.int (own_n p1)), .val (.ref b1), .val (.ref b7), .unset, .unset] [(.int (1 : Int32)), (.int (f_has (0 : Int32) (own_n p1)))])) _
    refine XS.goto X26.here hx rfl (pc0 := 32) (pc' := 36) rfl (hb hby at_32) (by decide) (by decide) ?_
    show Steps p.tables e below (T26.setTop (mkF m 36 #[.val (.int p1), .val (.int p2), .val (.int (own_n p1)), .val (.ref b1), .val (.ref b7), .unset, .unset] [(.int (1 : Int32)), (.int (f_has (0 : Int32) (own_n p1)))])) _
    refine XS.icmpNo X26.here hx rfl (hb hby at_36) rfl (teq hc1).2 ?_
    show Steps p.tables e below (T26.setTop (mkF m 39 #[.val (.int p1), .val (.int p2), .val (.int (own_n p1)), .val (.ref b1), .val (.ref b7), .unset, .unset] [])) _
    refine XS.iconst X26.here hx rfl (hb hby at_39) ?_
    show Steps p.tables e below (T26.setTop (mkF m 40 #[.val (.int p1), .val (.int p2), .val (.int (own_n p1)), .val (.ref b1), .val (.ref b7), .unset, .unset] [(.int (1 : Int32))])) _
    refine XS.goto X26.here hx rfl (pc0 := 40) (pc' := 44) rfl (hb hby at_40) (by decide) (by decide) ?_
    show Steps p.tables e below (T26.setTop (mkF m 44 #[.val (.int p1), .val (.int p2), .val (.int (own_n p1)), .val (.ref b1), .val (.ref b7), .unset, .unset] [(.int (1 : Int32))])) _
    refine XS.istore X26.here hx rfl (hb hby at_44) rfl (l' := #[.val (.int p1), .val (.int p2), .val (.int (own_n p1)), .val (.ref b1), .val (.ref b7), .val (.int (1 : Int32)), .unset]) rfl ?_
    show Steps p.tables e below (T26.setTop (mkF m 46 #[.val (.int p1), .val (.int p2), .val (.int (own_n p1)), .val (.ref b1), .val (.ref b7), .val (.int (1 : Int32)), .unset] [])) _
    refine XS.iconst X26.here hx rfl (hb hby at_46) ?_
    show Steps p.tables e below (T26.setTop (mkF m 47 #[.val (.int p1), .val (.int p2), .val (.int (own_n p1)), .val (.ref b1), .val (.ref b7), .val (.int (1 : Int32)), .unset] [(.int (0 : Int32))])) _
    refine XS.istore X26.here hx rfl (hb hby at_47) rfl (l' := #[.val (.int p1), .val (.int p2), .val (.int (own_n p1)), .val (.ref b1), .val (.ref b7), .val (.int (1 : Int32)), .val (.int (0 : Int32))]) rfl ?_
    show Steps p.tables e below (T26.setTop (mkF m 49 #[.val (.int p1), .val (.int p2), .val (.int (own_n p1)), .val (.ref b1), .val (.ref b7), .val (.int (1 : Int32)), .val (.int (0 : Int32))] [])) _
    refine XS.aload X26.here hx rfl (hb hby at_49) rfl rfl ?_
    refine XS.iloadN X26.here hx rfl (hb hby at_51) rfl ?_
    refine XS.iload X26.here hx rfl (hb hby at_52) rfl ?_
    refine XS.iloadN X26.here hx rfl (hb hby at_54) rfl ?_
    refine XS.iconst X26.here hx rfl (hb hby at_55) ?_
    show Steps p.tables e below (T26.setTop (mkF m 56 #[.val (.int p1), .val (.int p2), .val (.int (own_n p1)), .val (.ref b1), .val (.ref b7), .val (.int (1 : Int32)), .val (.int (0 : Int32))] [(.int (3 : Int32)), (.int p2), (.int (0 : Int32)), (.int (own_n p1)), (.ref b7)])) _
    refine XS.iand X26.here hx rfl (hb hby at_56) rfl ?_
    show Steps p.tables e below (T26.setTop (mkF m 57 #[.val (.int p1), .val (.int p2), .val (.int (own_n p1)), .val (.ref b1), .val (.ref b7), .val (.int (1 : Int32)), .val (.int (0 : Int32))] [(.int (p2 &&& (3 : Int32))), (.int (0 : Int32)), (.int (own_n p1)), (.ref b7)])) _
    refine st28.trans ?_
    show Steps p.tables e below (T28.setTop (mkF m 60 #[.val (.int p1), .val (.int p2), .val (.int (own_n p1)), .val (.ref b1), .val (.ref b7), .val (.int (1 : Int32)), .val (.int (0 : Int32))] [(.int (own_step (own_n p1) (0 : Int32) (p2 &&& (3 : Int32))))])) _
    refine XS.istore X28.here hx rfl (hb hby at_60) rfl (l' := #[.val (.int p1), .val (.int p2), .val (.int (own_n p1)), .val (.ref b1), .val (.ref b7), .val (.int (1 : Int32)), .val (.int (own_step (own_n p1) (0 : Int32) (p2 &&& (3 : Int32))))]) rfl ?_
    show Steps p.tables e below (T28.setTop (mkF m 62 #[.val (.int p1), .val (.int p2), .val (.int (own_n p1)), .val (.ref b1), .val (.ref b7), .val (.int (1 : Int32)), .val (.int (own_step (own_n p1) (0 : Int32) (p2 &&& (3 : Int32))))] [])) _
    refine XS.iload X28.here hx rfl (hb hby at_62) rfl ?_
    show Steps p.tables e below (T28.setTop (mkF m 64 #[.val (.int p1), .val (.int p2), .val (.int (own_n p1)), .val (.ref b1), .val (.ref b7), .val (.int (1 : Int32)), .val (.int (own_step (own_n p1) (0 : Int32) (p2 &&& (3 : Int32))))] [(.int (1 : Int32))])) _
    refine XS.ifNo X28.here hx rfl (hb hby at_64) rfl ((if0 _ _).trans (feq (by decide : ¬ ((1 : Int32) = (0 : Int32)))).1) ?_
    show Steps p.tables e below (T28.setTop (mkF m 67 #[.val (.int p1), .val (.int p2), .val (.int (own_n p1)), .val (.ref b1), .val (.ref b7), .val (.int (1 : Int32)), .val (.int (own_step (own_n p1) (0 : Int32) (p2 &&& (3 : Int32))))] [])) _
    refine XS.aload X28.here hx rfl (hb hby at_67) rfl rfl ?_
    show Steps p.tables e below (T28.setTop (mkF m 69 #[.val (.int p1), .val (.int p2), .val (.int (own_n p1)), .val (.ref b1), .val (.ref b7), .val (.int (1 : Int32)), .val (.int (own_step (own_n p1) (0 : Int32) (p2 &&& (3 : Int32))))] [(.ref b7)])) _
    refine st38.trans ?_
    show Steps p.tables e below (T38.setTop (mkF m 72 #[.val (.int p1), .val (.int p2), .val (.int (own_n p1)), .val (.ref b1), .val (.ref b7), .val (.int (1 : Int32)), .val (.int (own_step (own_n p1) (0 : Int32) (p2 &&& (3 : Int32))))] [(.int (f_has (own_step (own_n p1) (0 : Int32) (p2 &&& (3 : Int32))) (own_n p1)))])) _
    refine XS.iload X38.here hx rfl (hb hby at_72) rfl ?_
    refine XS.iloadN X38.here hx rfl (hb hby at_74) rfl ?_
    show Steps p.tables e below (T38.setTop (mkF m 75 #[.val (.int p1), .val (.int p2), .val (.int (own_n p1)), .val (.ref b1), .val (.ref b7), .val (.int (1 : Int32)), .val (.int (own_step (own_n p1) (0 : Int32) (p2 &&& (3 : Int32))))] [(.int (own_n p1)), (.int (own_step (own_n p1) (0 : Int32) (p2 &&& (3 : Int32)))), (.int (f_has (own_step (own_n p1) (0 : Int32) (p2 &&& (3 : Int32))) (own_n p1)))])) _
    refine XS.icmpNo X38.here hx rfl (hb hby at_75) rfl (tlt hc2).2.1 ?_
    show Steps p.tables e below (T38.setTop (mkF m 78 #[.val (.int p1), .val (.int p2), .val (.int (own_n p1)), .val (.ref b1), .val (.ref b7), .val (.int (1 : Int32)), .val (.int (own_step (own_n p1) (0 : Int32) (p2 &&& (3 : Int32))))] [(.int (f_has (own_step (own_n p1) (0 : Int32) (p2 &&& (3 : Int32))) (own_n p1)))])) _
    refine XS.iconst X38.here hx rfl (hb hby at_78) ?_
    show Steps p.tables e below (T38.setTop (mkF m 79 #[.val (.int p1), .val (.int p2), .val (.int (own_n p1)), .val (.ref b1), .val (.ref b7), .val (.int (1 : Int32)), .val (.int (own_step (own_n p1) (0 : Int32) (p2 &&& (3 : Int32))))] [(.int (1 : Int32)), (.int (f_has (own_step (own_n p1) (0 : Int32) (p2 &&& (3 : Int32))) (own_n p1)))])) _
    refine XS.goto X38.here hx rfl (pc0 := 79) (pc' := 83) rfl (hb hby at_79) (by decide) (by decide) ?_
    show Steps p.tables e below (T38.setTop (mkF m 83 #[.val (.int p1), .val (.int p2), .val (.int (own_n p1)), .val (.ref b1), .val (.ref b7), .val (.int (1 : Int32)), .val (.int (own_step (own_n p1) (0 : Int32) (p2 &&& (3 : Int32))))] [(.int (1 : Int32)), (.int (f_has (own_step (own_n p1) (0 : Int32) (p2 &&& (3 : Int32))) (own_n p1)))])) _
    refine XS.icmpNo X38.here hx rfl (hb hby at_83) rfl (teq hc3).2 ?_
    show Steps p.tables e below (T38.setTop (mkF m 86 #[.val (.int p1), .val (.int p2), .val (.int (own_n p1)), .val (.ref b1), .val (.ref b7), .val (.int (1 : Int32)), .val (.int (own_step (own_n p1) (0 : Int32) (p2 &&& (3 : Int32))))] [])) _
    refine XS.iconst X38.here hx rfl (hb hby at_86) ?_
    show Steps p.tables e below (T38.setTop (mkF m 87 #[.val (.int p1), .val (.int p2), .val (.int (own_n p1)), .val (.ref b1), .val (.ref b7), .val (.int (1 : Int32)), .val (.int (own_step (own_n p1) (0 : Int32) (p2 &&& (3 : Int32))))] [(.int (1 : Int32))])) _
    refine XS.goto X38.here hx rfl (pc0 := 87) (pc' := 91) rfl (hb hby at_87) (by decide) (by decide) ?_
    show Steps p.tables e below (T38.setTop (mkF m 91 #[.val (.int p1), .val (.int p2), .val (.int (own_n p1)), .val (.ref b1), .val (.ref b7), .val (.int (1 : Int32)), .val (.int (own_step (own_n p1) (0 : Int32) (p2 &&& (3 : Int32))))] [(.int (1 : Int32))])) _
    refine XS.istore X38.here hx rfl (hb hby at_91) rfl (l' := #[.val (.int p1), .val (.int p2), .val (.int (own_n p1)), .val (.ref b1), .val (.ref b7), .val (.int (1 : Int32)), .val (.int (own_step (own_n p1) (0 : Int32) (p2 &&& (3 : Int32))))]) rfl ?_
    show Steps p.tables e below (T38.setTop (mkF m 93 #[.val (.int p1), .val (.int p2), .val (.int (own_n p1)), .val (.ref b1), .val (.ref b7), .val (.int (1 : Int32)), .val (.int (own_step (own_n p1) (0 : Int32) (p2 &&& (3 : Int32))))] [])) _
    refine XS.aload X38.here hx rfl (hb hby at_93) rfl rfl ?_
    refine XS.iloadN X38.here hx rfl (hb hby at_95) rfl ?_
    refine XS.iload X38.here hx rfl (hb hby at_96) rfl ?_
    refine XS.iloadN X38.here hx rfl (hb hby at_98) rfl ?_
    refine XS.iconst X38.here hx rfl (hb hby at_99) ?_
    show Steps p.tables e below (T38.setTop (mkF m 100 #[.val (.int p1), .val (.int p2), .val (.int (own_n p1)), .val (.ref b1), .val (.ref b7), .val (.int (1 : Int32)), .val (.int (own_step (own_n p1) (0 : Int32) (p2 &&& (3 : Int32))))] [(.int (2 : Int32)), (.int p2), (.int (own_step (own_n p1) (0 : Int32) (p2 &&& (3 : Int32)))), (.int (own_n p1)), (.ref b7)])) _
    refine XS.iushr X38.here hx rfl (hb hby at_100) rfl ?_
    show Steps p.tables e below (T38.setTop (mkF m 101 #[.val (.int p1), .val (.int p2), .val (.int (own_n p1)), .val (.ref b1), .val (.ref b7), .val (.int (1 : Int32)), .val (.int (own_step (own_n p1) (0 : Int32) (p2 &&& (3 : Int32))))] [(.int ((p2.toUInt32 >>> ((2 : Int32) &&& 31).toUInt32).toInt32)), (.int (own_step (own_n p1) (0 : Int32) (p2 &&& (3 : Int32)))), (.int (own_n p1)), (.ref b7)])) _
    refine XS.iconst X38.here hx rfl (hb hby at_101) ?_
    show Steps p.tables e below (T38.setTop (mkF m 102 #[.val (.int p1), .val (.int p2), .val (.int (own_n p1)), .val (.ref b1), .val (.ref b7), .val (.int (1 : Int32)), .val (.int (own_step (own_n p1) (0 : Int32) (p2 &&& (3 : Int32))))] [(.int (3 : Int32)), (.int ((p2.toUInt32 >>> ((2 : Int32) &&& 31).toUInt32).toInt32)), (.int (own_step (own_n p1) (0 : Int32) (p2 &&& (3 : Int32)))), (.int (own_n p1)), (.ref b7)])) _
    refine XS.iand X38.here hx rfl (hb hby at_102) rfl ?_
    show Steps p.tables e below (T38.setTop (mkF m 103 #[.val (.int p1), .val (.int p2), .val (.int (own_n p1)), .val (.ref b1), .val (.ref b7), .val (.int (1 : Int32)), .val (.int (own_step (own_n p1) (0 : Int32) (p2 &&& (3 : Int32))))] [(.int (((p2.toUInt32 >>> ((2 : Int32) &&& 31).toUInt32).toInt32) &&& (3 : Int32))), (.int (own_step (own_n p1) (0 : Int32) (p2 &&& (3 : Int32)))), (.int (own_n p1)), (.ref b7)])) _
    refine st40.trans ?_
    show Steps p.tables e below (T40.setTop (mkF m 106 #[.val (.int p1), .val (.int p2), .val (.int (own_n p1)), .val (.ref b1), .val (.ref b7), .val (.int (1 : Int32)), .val (.int (own_step (own_n p1) (0 : Int32) (p2 &&& (3 : Int32))))] [(.int (own_step (own_n p1) (own_step (own_n p1) (0 : Int32) (p2 &&& (3 : Int32))) (((p2.toUInt32 >>> ((2 : Int32) &&& 31).toUInt32).toInt32) &&& (3 : Int32))))])) _
    refine XS.istore X40.here hx rfl (hb hby at_106) rfl (l' := #[.val (.int p1), .val (.int p2), .val (.int (own_n p1)), .val (.ref b1), .val (.ref b7), .val (.int (1 : Int32)), .val (.int (own_step (own_n p1) (own_step (own_n p1) (0 : Int32) (p2 &&& (3 : Int32))) (((p2.toUInt32 >>> ((2 : Int32) &&& 31).toUInt32).toInt32) &&& (3 : Int32))))]) rfl ?_
    show Steps p.tables e below (T40.setTop (mkF m 108 #[.val (.int p1), .val (.int p2), .val (.int (own_n p1)), .val (.ref b1), .val (.ref b7), .val (.int (1 : Int32)), .val (.int (own_step (own_n p1) (own_step (own_n p1) (0 : Int32) (p2 &&& (3 : Int32))) (((p2.toUInt32 >>> ((2 : Int32) &&& 31).toUInt32).toInt32) &&& (3 : Int32))))] [])) _
    refine XS.iload X40.here hx rfl (hb hby at_108) rfl ?_
    show Steps p.tables e below (T40.setTop (mkF m 110 #[.val (.int p1), .val (.int p2), .val (.int (own_n p1)), .val (.ref b1), .val (.ref b7), .val (.int (1 : Int32)), .val (.int (own_step (own_n p1) (own_step (own_n p1) (0 : Int32) (p2 &&& (3 : Int32))) (((p2.toUInt32 >>> ((2 : Int32) &&& 31).toUInt32).toInt32) &&& (3 : Int32))))] [(.int (1 : Int32))])) _
    refine XS.ifNo X40.here hx rfl (hb hby at_110) rfl ((if0 _ _).trans (feq (by decide : ¬ ((1 : Int32) = (0 : Int32)))).1) ?_
    show Steps p.tables e below (T40.setTop (mkF m 113 #[.val (.int p1), .val (.int p2), .val (.int (own_n p1)), .val (.ref b1), .val (.ref b7), .val (.int (1 : Int32)), .val (.int (own_step (own_n p1) (own_step (own_n p1) (0 : Int32) (p2 &&& (3 : Int32))) (((p2.toUInt32 >>> ((2 : Int32) &&& 31).toUInt32).toInt32) &&& (3 : Int32))))] [])) _
    refine XS.aload X40.here hx rfl (hb hby at_113) rfl rfl ?_
    show Steps p.tables e below (T40.setTop (mkF m 115 #[.val (.int p1), .val (.int p2), .val (.int (own_n p1)), .val (.ref b1), .val (.ref b7), .val (.int (1 : Int32)), .val (.int (own_step (own_n p1) (own_step (own_n p1) (0 : Int32) (p2 &&& (3 : Int32))) (((p2.toUInt32 >>> ((2 : Int32) &&& 31).toUInt32).toInt32) &&& (3 : Int32))))] [(.ref b7)])) _
    refine st50.trans ?_
    show Steps p.tables e below (T50.setTop (mkF m 118 #[.val (.int p1), .val (.int p2), .val (.int (own_n p1)), .val (.ref b1), .val (.ref b7), .val (.int (1 : Int32)), .val (.int (own_step (own_n p1) (own_step (own_n p1) (0 : Int32) (p2 &&& (3 : Int32))) (((p2.toUInt32 >>> ((2 : Int32) &&& 31).toUInt32).toInt32) &&& (3 : Int32))))] [(.int (f_has (own_step (own_n p1) (own_step (own_n p1) (0 : Int32) (p2 &&& (3 : Int32))) (((p2.toUInt32 >>> ((2 : Int32) &&& 31).toUInt32).toInt32) &&& (3 : Int32))) (own_n p1)))])) _
    refine XS.iload X50.here hx rfl (hb hby at_118) rfl ?_
    refine XS.iloadN X50.here hx rfl (hb hby at_120) rfl ?_
    show Steps p.tables e below (T50.setTop (mkF m 121 #[.val (.int p1), .val (.int p2), .val (.int (own_n p1)), .val (.ref b1), .val (.ref b7), .val (.int (1 : Int32)), .val (.int (own_step (own_n p1) (own_step (own_n p1) (0 : Int32) (p2 &&& (3 : Int32))) (((p2.toUInt32 >>> ((2 : Int32) &&& 31).toUInt32).toInt32) &&& (3 : Int32))))] [(.int (own_n p1)), (.int (own_step (own_n p1) (own_step (own_n p1) (0 : Int32) (p2 &&& (3 : Int32))) (((p2.toUInt32 >>> ((2 : Int32) &&& 31).toUInt32).toInt32) &&& (3 : Int32)))), (.int (f_has (own_step (own_n p1) (own_step (own_n p1) (0 : Int32) (p2 &&& (3 : Int32))) (((p2.toUInt32 >>> ((2 : Int32) &&& 31).toUInt32).toInt32) &&& (3 : Int32))) (own_n p1)))])) _
    refine XS.icmpNo X50.here hx rfl (hb hby at_121) rfl (tlt hc4).2.1 ?_
    show Steps p.tables e below (T50.setTop (mkF m 124 #[.val (.int p1), .val (.int p2), .val (.int (own_n p1)), .val (.ref b1), .val (.ref b7), .val (.int (1 : Int32)), .val (.int (own_step (own_n p1) (own_step (own_n p1) (0 : Int32) (p2 &&& (3 : Int32))) (((p2.toUInt32 >>> ((2 : Int32) &&& 31).toUInt32).toInt32) &&& (3 : Int32))))] [(.int (f_has (own_step (own_n p1) (own_step (own_n p1) (0 : Int32) (p2 &&& (3 : Int32))) (((p2.toUInt32 >>> ((2 : Int32) &&& 31).toUInt32).toInt32) &&& (3 : Int32))) (own_n p1)))])) _
    refine XS.iconst X50.here hx rfl (hb hby at_124) ?_
    show Steps p.tables e below (T50.setTop (mkF m 125 #[.val (.int p1), .val (.int p2), .val (.int (own_n p1)), .val (.ref b1), .val (.ref b7), .val (.int (1 : Int32)), .val (.int (own_step (own_n p1) (own_step (own_n p1) (0 : Int32) (p2 &&& (3 : Int32))) (((p2.toUInt32 >>> ((2 : Int32) &&& 31).toUInt32).toInt32) &&& (3 : Int32))))] [(.int (1 : Int32)), (.int (f_has (own_step (own_n p1) (own_step (own_n p1) (0 : Int32) (p2 &&& (3 : Int32))) (((p2.toUInt32 >>> ((2 : Int32) &&& 31).toUInt32).toInt32) &&& (3 : Int32))) (own_n p1)))])) _
    refine XS.goto X50.here hx rfl (pc0 := 125) (pc' := 129) rfl (hb hby at_125) (by decide) (by decide) ?_
    show Steps p.tables e below (T50.setTop (mkF m 129 #[.val (.int p1), .val (.int p2), .val (.int (own_n p1)), .val (.ref b1), .val (.ref b7), .val (.int (1 : Int32)), .val (.int (own_step (own_n p1) (own_step (own_n p1) (0 : Int32) (p2 &&& (3 : Int32))) (((p2.toUInt32 >>> ((2 : Int32) &&& 31).toUInt32).toInt32) &&& (3 : Int32))))] [(.int (1 : Int32)), (.int (f_has (own_step (own_n p1) (own_step (own_n p1) (0 : Int32) (p2 &&& (3 : Int32))) (((p2.toUInt32 >>> ((2 : Int32) &&& 31).toUInt32).toInt32) &&& (3 : Int32))) (own_n p1)))])) _
    refine XS.icmpNo X50.here hx rfl (hb hby at_129) rfl (teq hc5).2 ?_
    show Steps p.tables e below (T50.setTop (mkF m 132 #[.val (.int p1), .val (.int p2), .val (.int (own_n p1)), .val (.ref b1), .val (.ref b7), .val (.int (1 : Int32)), .val (.int (own_step (own_n p1) (own_step (own_n p1) (0 : Int32) (p2 &&& (3 : Int32))) (((p2.toUInt32 >>> ((2 : Int32) &&& 31).toUInt32).toInt32) &&& (3 : Int32))))] [])) _
    refine XS.iconst X50.here hx rfl (hb hby at_132) ?_
    show Steps p.tables e below (T50.setTop (mkF m 133 #[.val (.int p1), .val (.int p2), .val (.int (own_n p1)), .val (.ref b1), .val (.ref b7), .val (.int (1 : Int32)), .val (.int (own_step (own_n p1) (own_step (own_n p1) (0 : Int32) (p2 &&& (3 : Int32))) (((p2.toUInt32 >>> ((2 : Int32) &&& 31).toUInt32).toInt32) &&& (3 : Int32))))] [(.int (1 : Int32))])) _
    refine XS.goto X50.here hx rfl (pc0 := 133) (pc' := 137) rfl (hb hby at_133) (by decide) (by decide) ?_
    show Steps p.tables e below (T50.setTop (mkF m 137 #[.val (.int p1), .val (.int p2), .val (.int (own_n p1)), .val (.ref b1), .val (.ref b7), .val (.int (1 : Int32)), .val (.int (own_step (own_n p1) (own_step (own_n p1) (0 : Int32) (p2 &&& (3 : Int32))) (((p2.toUInt32 >>> ((2 : Int32) &&& 31).toUInt32).toInt32) &&& (3 : Int32))))] [(.int (1 : Int32))])) _
    refine XS.istore X50.here hx rfl (hb hby at_137) rfl (l' := #[.val (.int p1), .val (.int p2), .val (.int (own_n p1)), .val (.ref b1), .val (.ref b7), .val (.int (1 : Int32)), .val (.int (own_step (own_n p1) (own_step (own_n p1) (0 : Int32) (p2 &&& (3 : Int32))) (((p2.toUInt32 >>> ((2 : Int32) &&& 31).toUInt32).toInt32) &&& (3 : Int32))))]) rfl ?_
    show Steps p.tables e below (T50.setTop (mkF m 139 #[.val (.int p1), .val (.int p2), .val (.int (own_n p1)), .val (.ref b1), .val (.ref b7), .val (.int (1 : Int32)), .val (.int (own_step (own_n p1) (own_step (own_n p1) (0 : Int32) (p2 &&& (3 : Int32))) (((p2.toUInt32 >>> ((2 : Int32) &&& 31).toUInt32).toInt32) &&& (3 : Int32))))] [])) _
    refine XS.aload X50.here hx rfl (hb hby at_139) rfl rfl ?_
    refine XS.iloadN X50.here hx rfl (hb hby at_141) rfl ?_
    refine XS.iload X50.here hx rfl (hb hby at_142) rfl ?_
    refine XS.iloadN X50.here hx rfl (hb hby at_144) rfl ?_
    refine XS.iconst X50.here hx rfl (hb hby at_145) ?_
    show Steps p.tables e below (T50.setTop (mkF m 146 #[.val (.int p1), .val (.int p2), .val (.int (own_n p1)), .val (.ref b1), .val (.ref b7), .val (.int (1 : Int32)), .val (.int (own_step (own_n p1) (own_step (own_n p1) (0 : Int32) (p2 &&& (3 : Int32))) (((p2.toUInt32 >>> ((2 : Int32) &&& 31).toUInt32).toInt32) &&& (3 : Int32))))] [(.int (4 : Int32)), (.int p2), (.int (own_step (own_n p1) (own_step (own_n p1) (0 : Int32) (p2 &&& (3 : Int32))) (((p2.toUInt32 >>> ((2 : Int32) &&& 31).toUInt32).toInt32) &&& (3 : Int32)))), (.int (own_n p1)), (.ref b7)])) _
    refine XS.iushr X50.here hx rfl (hb hby at_146) rfl ?_
    show Steps p.tables e below (T50.setTop (mkF m 147 #[.val (.int p1), .val (.int p2), .val (.int (own_n p1)), .val (.ref b1), .val (.ref b7), .val (.int (1 : Int32)), .val (.int (own_step (own_n p1) (own_step (own_n p1) (0 : Int32) (p2 &&& (3 : Int32))) (((p2.toUInt32 >>> ((2 : Int32) &&& 31).toUInt32).toInt32) &&& (3 : Int32))))] [(.int ((p2.toUInt32 >>> ((4 : Int32) &&& 31).toUInt32).toInt32)), (.int (own_step (own_n p1) (own_step (own_n p1) (0 : Int32) (p2 &&& (3 : Int32))) (((p2.toUInt32 >>> ((2 : Int32) &&& 31).toUInt32).toInt32) &&& (3 : Int32)))), (.int (own_n p1)), (.ref b7)])) _
    refine XS.iconst X50.here hx rfl (hb hby at_147) ?_
    show Steps p.tables e below (T50.setTop (mkF m 148 #[.val (.int p1), .val (.int p2), .val (.int (own_n p1)), .val (.ref b1), .val (.ref b7), .val (.int (1 : Int32)), .val (.int (own_step (own_n p1) (own_step (own_n p1) (0 : Int32) (p2 &&& (3 : Int32))) (((p2.toUInt32 >>> ((2 : Int32) &&& 31).toUInt32).toInt32) &&& (3 : Int32))))] [(.int (3 : Int32)), (.int ((p2.toUInt32 >>> ((4 : Int32) &&& 31).toUInt32).toInt32)), (.int (own_step (own_n p1) (own_step (own_n p1) (0 : Int32) (p2 &&& (3 : Int32))) (((p2.toUInt32 >>> ((2 : Int32) &&& 31).toUInt32).toInt32) &&& (3 : Int32)))), (.int (own_n p1)), (.ref b7)])) _
    refine XS.iand X50.here hx rfl (hb hby at_148) rfl ?_
    show Steps p.tables e below (T50.setTop (mkF m 149 #[.val (.int p1), .val (.int p2), .val (.int (own_n p1)), .val (.ref b1), .val (.ref b7), .val (.int (1 : Int32)), .val (.int (own_step (own_n p1) (own_step (own_n p1) (0 : Int32) (p2 &&& (3 : Int32))) (((p2.toUInt32 >>> ((2 : Int32) &&& 31).toUInt32).toInt32) &&& (3 : Int32))))] [(.int (((p2.toUInt32 >>> ((4 : Int32) &&& 31).toUInt32).toInt32) &&& (3 : Int32))), (.int (own_step (own_n p1) (own_step (own_n p1) (0 : Int32) (p2 &&& (3 : Int32))) (((p2.toUInt32 >>> ((2 : Int32) &&& 31).toUInt32).toInt32) &&& (3 : Int32)))), (.int (own_n p1)), (.ref b7)])) _
    refine st52.trans ?_
    show Steps p.tables e below (T52.setTop (mkF m 152 #[.val (.int p1), .val (.int p2), .val (.int (own_n p1)), .val (.ref b1), .val (.ref b7), .val (.int (1 : Int32)), .val (.int (own_step (own_n p1) (own_step (own_n p1) (0 : Int32) (p2 &&& (3 : Int32))) (((p2.toUInt32 >>> ((2 : Int32) &&& 31).toUInt32).toInt32) &&& (3 : Int32))))] [(.int (own_step (own_n p1) (own_step (own_n p1) (own_step (own_n p1) (0 : Int32) (p2 &&& (3 : Int32))) (((p2.toUInt32 >>> ((2 : Int32) &&& 31).toUInt32).toInt32) &&& (3 : Int32))) (((p2.toUInt32 >>> ((4 : Int32) &&& 31).toUInt32).toInt32) &&& (3 : Int32))))])) _
    refine XS.istore X52.here hx rfl (hb hby at_152) rfl (l' := #[.val (.int p1), .val (.int p2), .val (.int (own_n p1)), .val (.ref b1), .val (.ref b7), .val (.int (1 : Int32)), .val (.int (own_step (own_n p1) (own_step (own_n p1) (own_step (own_n p1) (0 : Int32) (p2 &&& (3 : Int32))) (((p2.toUInt32 >>> ((2 : Int32) &&& 31).toUInt32).toInt32) &&& (3 : Int32))) (((p2.toUInt32 >>> ((4 : Int32) &&& 31).toUInt32).toInt32) &&& (3 : Int32))))]) rfl ?_
    show Steps p.tables e below (T52.setTop (mkF m 154 #[.val (.int p1), .val (.int p2), .val (.int (own_n p1)), .val (.ref b1), .val (.ref b7), .val (.int (1 : Int32)), .val (.int (own_step (own_n p1) (own_step (own_n p1) (own_step (own_n p1) (0 : Int32) (p2 &&& (3 : Int32))) (((p2.toUInt32 >>> ((2 : Int32) &&& 31).toUInt32).toInt32) &&& (3 : Int32))) (((p2.toUInt32 >>> ((4 : Int32) &&& 31).toUInt32).toInt32) &&& (3 : Int32))))] [])) _
    refine XS.iload X52.here hx rfl (hb hby at_154) rfl ?_
    show Steps p.tables e below (T52.setTop (mkF m 156 #[.val (.int p1), .val (.int p2), .val (.int (own_n p1)), .val (.ref b1), .val (.ref b7), .val (.int (1 : Int32)), .val (.int (own_step (own_n p1) (own_step (own_n p1) (own_step (own_n p1) (0 : Int32) (p2 &&& (3 : Int32))) (((p2.toUInt32 >>> ((2 : Int32) &&& 31).toUInt32).toInt32) &&& (3 : Int32))) (((p2.toUInt32 >>> ((4 : Int32) &&& 31).toUInt32).toInt32) &&& (3 : Int32))))] [(.int (1 : Int32))])) _
    refine XS.ifNo X52.here hx rfl (hb hby at_156) rfl ((if0 _ _).trans (feq (by decide : ¬ ((1 : Int32) = (0 : Int32)))).1) ?_
    show Steps p.tables e below (T52.setTop (mkF m 159 #[.val (.int p1), .val (.int p2), .val (.int (own_n p1)), .val (.ref b1), .val (.ref b7), .val (.int (1 : Int32)), .val (.int (own_step (own_n p1) (own_step (own_n p1) (own_step (own_n p1) (0 : Int32) (p2 &&& (3 : Int32))) (((p2.toUInt32 >>> ((2 : Int32) &&& 31).toUInt32).toInt32) &&& (3 : Int32))) (((p2.toUInt32 >>> ((4 : Int32) &&& 31).toUInt32).toInt32) &&& (3 : Int32))))] [])) _
    refine XS.aload X52.here hx rfl (hb hby at_159) rfl rfl ?_
    show Steps p.tables e below (T52.setTop (mkF m 161 #[.val (.int p1), .val (.int p2), .val (.int (own_n p1)), .val (.ref b1), .val (.ref b7), .val (.int (1 : Int32)), .val (.int (own_step (own_n p1) (own_step (own_n p1) (own_step (own_n p1) (0 : Int32) (p2 &&& (3 : Int32))) (((p2.toUInt32 >>> ((2 : Int32) &&& 31).toUInt32).toInt32) &&& (3 : Int32))) (((p2.toUInt32 >>> ((4 : Int32) &&& 31).toUInt32).toInt32) &&& (3 : Int32))))] [(.ref b7)])) _
    refine st62.trans ?_
    show Steps p.tables e below (T62.setTop (mkF m 164 #[.val (.int p1), .val (.int p2), .val (.int (own_n p1)), .val (.ref b1), .val (.ref b7), .val (.int (1 : Int32)), .val (.int (own_step (own_n p1) (own_step (own_n p1) (own_step (own_n p1) (0 : Int32) (p2 &&& (3 : Int32))) (((p2.toUInt32 >>> ((2 : Int32) &&& 31).toUInt32).toInt32) &&& (3 : Int32))) (((p2.toUInt32 >>> ((4 : Int32) &&& 31).toUInt32).toInt32) &&& (3 : Int32))))] [(.int (f_has (own_step (own_n p1) (own_step (own_n p1) (own_step (own_n p1) (0 : Int32) (p2 &&& (3 : Int32))) (((p2.toUInt32 >>> ((2 : Int32) &&& 31).toUInt32).toInt32) &&& (3 : Int32))) (((p2.toUInt32 >>> ((4 : Int32) &&& 31).toUInt32).toInt32) &&& (3 : Int32))) (own_n p1)))])) _
    refine XS.iload X62.here hx rfl (hb hby at_164) rfl ?_
    refine XS.iloadN X62.here hx rfl (hb hby at_166) rfl ?_
    show Steps p.tables e below (T62.setTop (mkF m 167 #[.val (.int p1), .val (.int p2), .val (.int (own_n p1)), .val (.ref b1), .val (.ref b7), .val (.int (1 : Int32)), .val (.int (own_step (own_n p1) (own_step (own_n p1) (own_step (own_n p1) (0 : Int32) (p2 &&& (3 : Int32))) (((p2.toUInt32 >>> ((2 : Int32) &&& 31).toUInt32).toInt32) &&& (3 : Int32))) (((p2.toUInt32 >>> ((4 : Int32) &&& 31).toUInt32).toInt32) &&& (3 : Int32))))] [(.int (own_n p1)), (.int (own_step (own_n p1) (own_step (own_n p1) (own_step (own_n p1) (0 : Int32) (p2 &&& (3 : Int32))) (((p2.toUInt32 >>> ((2 : Int32) &&& 31).toUInt32).toInt32) &&& (3 : Int32))) (((p2.toUInt32 >>> ((4 : Int32) &&& 31).toUInt32).toInt32) &&& (3 : Int32)))), (.int (f_has (own_step (own_n p1) (own_step (own_n p1) (own_step (own_n p1) (0 : Int32) (p2 &&& (3 : Int32))) (((p2.toUInt32 >>> ((2 : Int32) &&& 31).toUInt32).toInt32) &&& (3 : Int32))) (((p2.toUInt32 >>> ((4 : Int32) &&& 31).toUInt32).toInt32) &&& (3 : Int32))) (own_n p1)))])) _
    refine XS.icmpNo X62.here hx rfl (hb hby at_167) rfl (tlt hc6).2.1 ?_
    show Steps p.tables e below (T62.setTop (mkF m 170 #[.val (.int p1), .val (.int p2), .val (.int (own_n p1)), .val (.ref b1), .val (.ref b7), .val (.int (1 : Int32)), .val (.int (own_step (own_n p1) (own_step (own_n p1) (own_step (own_n p1) (0 : Int32) (p2 &&& (3 : Int32))) (((p2.toUInt32 >>> ((2 : Int32) &&& 31).toUInt32).toInt32) &&& (3 : Int32))) (((p2.toUInt32 >>> ((4 : Int32) &&& 31).toUInt32).toInt32) &&& (3 : Int32))))] [(.int (f_has (own_step (own_n p1) (own_step (own_n p1) (own_step (own_n p1) (0 : Int32) (p2 &&& (3 : Int32))) (((p2.toUInt32 >>> ((2 : Int32) &&& 31).toUInt32).toInt32) &&& (3 : Int32))) (((p2.toUInt32 >>> ((4 : Int32) &&& 31).toUInt32).toInt32) &&& (3 : Int32))) (own_n p1)))])) _
    refine XS.iconst X62.here hx rfl (hb hby at_170) ?_
    show Steps p.tables e below (T62.setTop (mkF m 171 #[.val (.int p1), .val (.int p2), .val (.int (own_n p1)), .val (.ref b1), .val (.ref b7), .val (.int (1 : Int32)), .val (.int (own_step (own_n p1) (own_step (own_n p1) (own_step (own_n p1) (0 : Int32) (p2 &&& (3 : Int32))) (((p2.toUInt32 >>> ((2 : Int32) &&& 31).toUInt32).toInt32) &&& (3 : Int32))) (((p2.toUInt32 >>> ((4 : Int32) &&& 31).toUInt32).toInt32) &&& (3 : Int32))))] [(.int (1 : Int32)), (.int (f_has (own_step (own_n p1) (own_step (own_n p1) (own_step (own_n p1) (0 : Int32) (p2 &&& (3 : Int32))) (((p2.toUInt32 >>> ((2 : Int32) &&& 31).toUInt32).toInt32) &&& (3 : Int32))) (((p2.toUInt32 >>> ((4 : Int32) &&& 31).toUInt32).toInt32) &&& (3 : Int32))) (own_n p1)))])) _
    refine XS.goto X62.here hx rfl (pc0 := 171) (pc' := 175) rfl (hb hby at_171) (by decide) (by decide) ?_
    show Steps p.tables e below (T62.setTop (mkF m 175 #[.val (.int p1), .val (.int p2), .val (.int (own_n p1)), .val (.ref b1), .val (.ref b7), .val (.int (1 : Int32)), .val (.int (own_step (own_n p1) (own_step (own_n p1) (own_step (own_n p1) (0 : Int32) (p2 &&& (3 : Int32))) (((p2.toUInt32 >>> ((2 : Int32) &&& 31).toUInt32).toInt32) &&& (3 : Int32))) (((p2.toUInt32 >>> ((4 : Int32) &&& 31).toUInt32).toInt32) &&& (3 : Int32))))] [(.int (1 : Int32)), (.int (f_has (own_step (own_n p1) (own_step (own_n p1) (own_step (own_n p1) (0 : Int32) (p2 &&& (3 : Int32))) (((p2.toUInt32 >>> ((2 : Int32) &&& 31).toUInt32).toInt32) &&& (3 : Int32))) (((p2.toUInt32 >>> ((4 : Int32) &&& 31).toUInt32).toInt32) &&& (3 : Int32))) (own_n p1)))])) _
    refine XS.icmpNo X62.here hx rfl (hb hby at_175) rfl (teq hc7).2 ?_
    show Steps p.tables e below (T62.setTop (mkF m 178 #[.val (.int p1), .val (.int p2), .val (.int (own_n p1)), .val (.ref b1), .val (.ref b7), .val (.int (1 : Int32)), .val (.int (own_step (own_n p1) (own_step (own_n p1) (own_step (own_n p1) (0 : Int32) (p2 &&& (3 : Int32))) (((p2.toUInt32 >>> ((2 : Int32) &&& 31).toUInt32).toInt32) &&& (3 : Int32))) (((p2.toUInt32 >>> ((4 : Int32) &&& 31).toUInt32).toInt32) &&& (3 : Int32))))] [])) _
    refine XS.iconst X62.here hx rfl (hb hby at_178) ?_
    show Steps p.tables e below (T62.setTop (mkF m 179 #[.val (.int p1), .val (.int p2), .val (.int (own_n p1)), .val (.ref b1), .val (.ref b7), .val (.int (1 : Int32)), .val (.int (own_step (own_n p1) (own_step (own_n p1) (own_step (own_n p1) (0 : Int32) (p2 &&& (3 : Int32))) (((p2.toUInt32 >>> ((2 : Int32) &&& 31).toUInt32).toInt32) &&& (3 : Int32))) (((p2.toUInt32 >>> ((4 : Int32) &&& 31).toUInt32).toInt32) &&& (3 : Int32))))] [(.int (1 : Int32))])) _
    refine XS.goto X62.here hx rfl (pc0 := 179) (pc' := 183) rfl (hb hby at_179) (by decide) (by decide) ?_
    show Steps p.tables e below (T62.setTop (mkF m 183 #[.val (.int p1), .val (.int p2), .val (.int (own_n p1)), .val (.ref b1), .val (.ref b7), .val (.int (1 : Int32)), .val (.int (own_step (own_n p1) (own_step (own_n p1) (own_step (own_n p1) (0 : Int32) (p2 &&& (3 : Int32))) (((p2.toUInt32 >>> ((2 : Int32) &&& 31).toUInt32).toInt32) &&& (3 : Int32))) (((p2.toUInt32 >>> ((4 : Int32) &&& 31).toUInt32).toInt32) &&& (3 : Int32))))] [(.int (1 : Int32))])) _
    refine XS.istore X62.here hx rfl (hb hby at_183) rfl (l' := #[.val (.int p1), .val (.int p2), .val (.int (own_n p1)), .val (.ref b1), .val (.ref b7), .val (.int (1 : Int32)), .val (.int (own_step (own_n p1) (own_step (own_n p1) (own_step (own_n p1) (0 : Int32) (p2 &&& (3 : Int32))) (((p2.toUInt32 >>> ((2 : Int32) &&& 31).toUInt32).toInt32) &&& (3 : Int32))) (((p2.toUInt32 >>> ((4 : Int32) &&& 31).toUInt32).toInt32) &&& (3 : Int32))))]) rfl ?_
    show Steps p.tables e below (T62.setTop (mkF m 185 #[.val (.int p1), .val (.int p2), .val (.int (own_n p1)), .val (.ref b1), .val (.ref b7), .val (.int (1 : Int32)), .val (.int (own_step (own_n p1) (own_step (own_n p1) (own_step (own_n p1) (0 : Int32) (p2 &&& (3 : Int32))) (((p2.toUInt32 >>> ((2 : Int32) &&& 31).toUInt32).toInt32) &&& (3 : Int32))) (((p2.toUInt32 >>> ((4 : Int32) &&& 31).toUInt32).toInt32) &&& (3 : Int32))))] [])) _
    refine XS.iload X62.here hx rfl (hb hby at_185) rfl ?_
    show Steps p.tables e below (T62.setTop (mkF m 187 #[.val (.int p1), .val (.int p2), .val (.int (own_n p1)), .val (.ref b1), .val (.ref b7), .val (.int (1 : Int32)), .val (.int (own_step (own_n p1) (own_step (own_n p1) (own_step (own_n p1) (0 : Int32) (p2 &&& (3 : Int32))) (((p2.toUInt32 >>> ((2 : Int32) &&& 31).toUInt32).toInt32) &&& (3 : Int32))) (((p2.toUInt32 >>> ((4 : Int32) &&& 31).toUInt32).toInt32) &&& (3 : Int32))))] [(.int (1 : Int32))])) _
    exact retN X62 hx (t := .boolean) Bd.returns (by simp) (hb hby at_187) hr
  · show Q_law Z p1 p2 s_F s_C h0 n0 _ T62.heap _
    rw [e62]
    exact ⟨rfl, N63⟩
  · show CHr Z consts_1 s.vm s.heap T62.vm T62.heap
    rw [hh, e62]
    exact CR.trans (CHv.at X62 hZ hEW CR.1)
theorem own_k3 (x : Int32) : (x &&& (3 : Int32)) = (0 : Int32) ∨ (x &&& (3 : Int32)) = (1 : Int32) ∨ (x &&& (3 : Int32)) = (2 : Int32) ∨ (x &&& (3 : Int32)) = (3 : Int32) := by
  have h := c_and x 3 (by decide)
  have e3 : (3 : Int32).toInt = 3 := by decide
  have e0 : (0 : Int32).toInt = 0 := by decide
  have e1 : (1 : Int32).toInt = 1 := by decide
  have e2 : (2 : Int32).toInt = 2 := by decide
  have q : (x &&& (3 : Int32)).toInt = 0 ∨ (x &&& (3 : Int32)).toInt = 1 ∨ (x &&& (3 : Int32)).toInt = 2 ∨ (x &&& (3 : Int32)).toInt = 3 := by omega
  rcases q with q | q | q | q
  · exact Or.inl (own_eq32 (q.trans e0.symm))
  · exact Or.inr (Or.inl (own_eq32 (q.trans e1.symm)))
  · exact Or.inr (Or.inr (Or.inl (own_eq32 (q.trans e2.symm))))
  · exact Or.inr (Or.inr (Or.inr (own_eq32 (q.trans e3.symm))))
theorem own_nb (p1 : Int32) : ¬ ((own_n p1) < (0 : Int32)) ∧ (own_n p1).toNatClampNeg ≤ 16 ∧ 0 ≤ (own_n p1).toInt ∧ (own_n p1).toInt ≤ 16 := by
  have h := own_imod_rng (p1 &&& (2147483647 : Int32)) 17 (own_mI p1).1 (by decide)
  have e : (17 : Int32).toInt = 17 := by decide
  have z0 : (0 : Int32).toInt = 0 := by decide
  have h1 : 0 ≤ (own_n p1).toInt := h.1
  have h2 : (own_n p1).toInt < (17 : Int32).toInt := h.2
  exact ⟨by rw [own_lt32]; omega, by simp only [Int32.toNatClampNeg]; omega, h1, by omega⟩
theorem own_has1 {p n : Int32} (h : p < n) : f_has p n = (1 : Int32) := by unfold f_has; rw [if_pos h]
theorem own_has0 {p n : Int32} (h : ¬ (p < n)) : f_has p n = (0 : Int32) := by unfold f_has; rw [if_neg h]
theorem own_sz (k : Int32) : 1 ≤ (own_size k).toInt ∧ (own_size k).toInt ≤ 8 := by
  unfold own_size
  split
  · decide
  · split
    · decide
    · split <;> decide
theorem own_stp {n p k : Int32} (h0 : 0 ≤ p.toInt) (h1 : p.toInt ≤ n.toInt) (h2 : n.toInt ≤ 16) : p.toInt ≤ (own_step n p k).toInt ∧ (own_step n p k).toInt ≤ n.toInt := by
  unfold own_step
  have B := own_sub h0 h1 h2
  have S := own_sz k
  split
  · exact ⟨Int.le_refl _, h1⟩
  · rename_i c
    rw [own_lt32] at c
    have A := own_add1 (z := own_size k) (i := (own_size k).toInt) rfl (by omega) S.2 h0 (by omega)
    omega
def own_Start (Z : State) (h0 : Heap) (s_F : Value) (s_C : Addr) : Prop := (Sta Z h0 "jdk/internal/util/Preconditions" "SIOOBE_FORMATTER" "Ljava/util/function/BiFunction;" s_F) ∧ (s_F.isRef = true) ∧ (Sta Z h0 "java/nio/charset/StandardCharsets" "ISO_8859_1" "Ljava/nio/charset/Charset;" (.ref s_C)) ∧ (Exa Z h0 s_C "sun/nio/cs/ISO_8859_1")
set_option maxRecDepth 65536 in
set_option maxHeartbeats 40000000 in
theorem rm_law (l : Launch) (Z : State) (a0 : Array Value) (hw : ∀ d ∈ tables_1, d.before a0 Z = true) (ws : List Jvm.Cond) (p1 : Int32) (p2 : Int32) (s_F : Value) (s_C : Addr) (h0 : Heap) (n0 : Nat) (Z0 : n0 ≤ h0.size) (hst : own_Start Z h0 s_F s_C) :
    MetFree l x (head1 (Jvm.Cond.code x code maxLocals ret :: ws) room_1) (fun a U => a = #[(.int p1), (.int p2)] ∧ Z.Warmed39 U.vm ∧ U.heap = h0 ∧ CHv Z consts_1 U.vm h0) (fun _ _ _ _ _ => True) (fun _ U o U' => ∃ v L, o = .returned v ∧ Q_law Z p1 p2 s_F s_C h0 n0 v U'.heap L ∧ CHr Z consts_1 U.vm U.heap U'.vm U'.heap ∧ ReturnedEndW U o U' L room_1.cells room_1.slots) := by
  obtain ⟨S_SIOOBE_FORMATTER, hsr, S_ISO_8859_1, E_s_C⟩ := hst
  obtain ⟨n1, n2, n3, n4⟩ := own_nb p1
  have z0 : (0 : Int32).toInt = 0 := by decide
  have k1 := own_k3 p2
  have k2 := own_k3 ((p2.toUInt32 >>> ((2 : Int32) &&& 31).toUInt32).toInt32)
  have k3 := own_k3 ((p2.toUInt32 >>> ((4 : Int32) &&& 31).toUInt32).toInt32)
  have a0' : (0 : Int32).toInt ≤ (own_n p1).toInt := by omega
  obtain ⟨a1, b1⟩ := own_stp (k := (p2 &&& (3 : Int32))) (by decide) a0' n4
  have c1 : 0 ≤ (own_step (own_n p1) (0 : Int32) (p2 &&& (3 : Int32))).toInt := by omega
  obtain ⟨a2, b2⟩ := own_stp (k := (((p2.toUInt32 >>> ((2 : Int32) &&& 31).toUInt32).toInt32) &&& (3 : Int32))) c1 b1 n4
  have c2 : 0 ≤ (own_step (own_n p1) (own_step (own_n p1) (0 : Int32) (p2 &&& (3 : Int32))) (((p2.toUInt32 >>> ((2 : Int32) &&& 31).toUInt32).toInt32) &&& (3 : Int32))).toInt := by omega
  obtain ⟨a3, b3⟩ := own_stp (k := (((p2.toUInt32 >>> ((4 : Int32) &&& 31).toUInt32).toInt32) &&& (3 : Int32))) c2 b2 n4
  by_cases d0 : (0 : Int32) < (own_n p1)
  · skip
    by_cases d1 : (own_step (own_n p1) (0 : Int32) (p2 &&& (3 : Int32))) < (own_n p1)
    · skip
      by_cases d2 : (own_step (own_n p1) (own_step (own_n p1) (0 : Int32) (p2 &&& (3 : Int32))) (((p2.toUInt32 >>> ((2 : Int32) &&& 31).toUInt32).toInt32) &&& (3 : Int32))) < (own_n p1)
      · skip
        by_cases d3 : (own_step (own_n p1) (own_step (own_n p1) (own_step (own_n p1) (0 : Int32) (p2 &&& (3 : Int32))) (((p2.toUInt32 >>> ((2 : Int32) &&& 31).toUInt32).toInt32) &&& (3 : Int32))) (((p2.toUInt32 >>> ((4 : Int32) &&& 31).toUInt32).toInt32) &&& (3 : Int32))) < (own_n p1)
        · skip
          exact rm_law_r4 l Z a0 hw ws p1 p2 s_F s_C h0 n0 Z0 ⟨S_SIOOBE_FORMATTER, hsr, S_ISO_8859_1, E_s_C, n1, n2, a0', n4, k1, c1, b1, k2, c2, b2, k3, d0, (own_has1 d0), d1, (own_has1 d1), d2, (own_has1 d2), d3, (own_has1 d3)⟩
        · skip
          exact rm_law_r3 l Z a0 hw ws p1 p2 s_F s_C h0 n0 Z0 ⟨S_SIOOBE_FORMATTER, hsr, S_ISO_8859_1, E_s_C, n1, n2, a0', n4, k1, c1, b1, k2, c2, b2, k3, d0, (own_has1 d0), d1, (own_has1 d1), d2, (own_has1 d2), d3, (own_has0 d3)⟩
      · skip
        have d3 : ¬ ((own_step (own_n p1) (own_step (own_n p1) (own_step (own_n p1) (0 : Int32) (p2 &&& (3 : Int32))) (((p2.toUInt32 >>> ((2 : Int32) &&& 31).toUInt32).toInt32) &&& (3 : Int32))) (((p2.toUInt32 >>> ((4 : Int32) &&& 31).toUInt32).toInt32) &&& (3 : Int32))) < (own_n p1)) := fun q => d2 (own_lt32.mpr (by rw [own_lt32] at q; omega))
        exact rm_law_r2 l Z a0 hw ws p1 p2 s_F s_C h0 n0 Z0 ⟨S_SIOOBE_FORMATTER, hsr, S_ISO_8859_1, E_s_C, n1, n2, a0', n4, k1, c1, b1, k2, c2, b2, k3, d0, (own_has1 d0), d1, (own_has1 d1), d2, (own_has0 d2), d3, (own_has0 d3)⟩
    · skip
      have d2 : ¬ ((own_step (own_n p1) (own_step (own_n p1) (0 : Int32) (p2 &&& (3 : Int32))) (((p2.toUInt32 >>> ((2 : Int32) &&& 31).toUInt32).toInt32) &&& (3 : Int32))) < (own_n p1)) := fun q => d1 (own_lt32.mpr (by rw [own_lt32] at q; omega))
      have d3 : ¬ ((own_step (own_n p1) (own_step (own_n p1) (own_step (own_n p1) (0 : Int32) (p2 &&& (3 : Int32))) (((p2.toUInt32 >>> ((2 : Int32) &&& 31).toUInt32).toInt32) &&& (3 : Int32))) (((p2.toUInt32 >>> ((4 : Int32) &&& 31).toUInt32).toInt32) &&& (3 : Int32))) < (own_n p1)) := fun q => d2 (own_lt32.mpr (by rw [own_lt32] at q; omega))
      exact rm_law_r1 l Z a0 hw ws p1 p2 s_F s_C h0 n0 Z0 ⟨S_SIOOBE_FORMATTER, hsr, S_ISO_8859_1, E_s_C, n1, n2, a0', n4, k1, c1, b1, k2, c2, b2, k3, d0, (own_has1 d0), d1, (own_has0 d1), d2, (own_has0 d2), d3, (own_has0 d3)⟩
  · skip
    have d1 : ¬ ((own_step (own_n p1) (0 : Int32) (p2 &&& (3 : Int32))) < (own_n p1)) := fun q => d0 (own_lt32.mpr (by rw [own_lt32] at q; omega))
    have d2 : ¬ ((own_step (own_n p1) (own_step (own_n p1) (0 : Int32) (p2 &&& (3 : Int32))) (((p2.toUInt32 >>> ((2 : Int32) &&& 31).toUInt32).toInt32) &&& (3 : Int32))) < (own_n p1)) := fun q => d1 (own_lt32.mpr (by rw [own_lt32] at q; omega))
    have d3 : ¬ ((own_step (own_n p1) (own_step (own_n p1) (own_step (own_n p1) (0 : Int32) (p2 &&& (3 : Int32))) (((p2.toUInt32 >>> ((2 : Int32) &&& 31).toUInt32).toInt32) &&& (3 : Int32))) (((p2.toUInt32 >>> ((4 : Int32) &&& 31).toUInt32).toInt32) &&& (3 : Int32))) < (own_n p1)) := fun q => d2 (own_lt32.mpr (by rw [own_lt32] at q; omega))
    exact rm_law_r0 l Z a0 hw ws p1 p2 s_F s_C h0 n0 Z0 ⟨S_SIOOBE_FORMATTER, hsr, S_ISO_8859_1, E_s_C, n1, n2, a0', n4, k1, c1, b1, k2, c2, b2, k3, d0, (own_has0 d0), d1, (own_has0 d1), d2, (own_has0 d2), d3, (own_has0 d3)⟩
set_option maxRecDepth 65536 in
set_option maxHeartbeats 40000000 in
theorem comes_1 {Post : Tables → Env → Array Value → State → Outcome → State → Prop} (hpost : ∀ tb e args s v u, (limb_1_1.after args s (.returned v) u = true ∧ limb_1_2.after args s (.returned v) u = true ∧ True) → ReturnedEndW s (.returned v) u (Jvm.fieldLocs frame_1_writes args s ++ Jvm.arrayLocs frame_1_arrays args s ++ Jvm.staticLocs frame_1_statics s) 24 2176 → Post tb e args s (.returned v) u) :
    ArmFor flags0 classFile x code maxLocals ret World_1 tables_1 room_1 Calls_1 rest_1 Pre_1 Post := by
  intro l hfl _ _ p e ha hc hk s m args below hf hA hF happ hP
  obtain ⟨hcalls, hrest, hpre⟩ := hP
  obtain ⟨-, -, -, hnamed, -, -, -, hat⟩ := (Spec.applies_iff hf).mp happ
  obtain ⟨hg, hn⟩ := and_e (Cond.before_iff.mp (show (Jvm.Cond.and given_1 narrow_1).before args s = true from hpre))
  obtain ⟨g1, g2⟩ := and_e hg
  obtain ⟨g3, g4⟩ := and_e g2
  obtain ⟨w0, w1, rfl⟩ : ∃ w0 w1 : Value, args = #[w0, w1] := by
    have hs : args.size = 2 := by simpa [Cond.value, given_1] using g1
    obtain ⟨L⟩ := args
    match L, hs with
    | [w0, w1], _ => exact ⟨w0, w1, rfl⟩
  have hw := fun d (hd : d ∈ tables_1) => atoms_spec (ws := Jvm.Cond.code x code maxLocals ret :: tables_1) hat d (List.mem_cons_of_mem _ hd)
  have hfit : Fit s := fun {y c} hc i hi => by
    obtain ⟨ha, rfl⟩ := Array.getElem?_eq_some_iff.mp hc
    have q := List.all_eq_true.mp ((Array.all_eq_true_iff_forall_mem.mp hF) _ (Array.getElem_mem ha)) i (List.mem_range.mpr hi)
    simpa [Array.getElem?_eq_getElem hi] using q
  obtain ⟨hsets, hown0⟩ := atoms_of _ (rest_1_c_eq ▸ (show rest_1_c.before _ s = true from hrest))
  obtain ⟨i0, ei0⟩ := is_v g3
  obtain rfl : w0 = (.int i0) := Option.some.inj ei0
  obtain ⟨i1, ei1⟩ := is_v g4
  obtain rfl : w1 = (.int i1) := Option.some.inj ei1
  have mI := Cond.before_iff.mp (hsets _ (List.mem_of_getElem? (i := 5) rfl))
  obtain ⟨aC, eC⟩ := exa_v mI
  have EC := Exa.start eC mI
  have SC := Sta.start eC (Or.inl (hsets _ (List.mem_of_getElem? (i := 1) rfl)))
  obtain ⟨vF, eF, rF⟩ := isR_v (Cond.before_iff.mp (hsets _ (List.mem_of_getElem? (i := 14) rfl)))
  have SFm := Sta.start eF (Or.inl (hsets _ (List.mem_of_getElem? (i := 13) rfl)))
  have CH : CHv s consts_1 s.vm s.heap := CHv.start (own_EW hw) hcalls.1 (hsets _ (List.mem_of_getElem? (i := 8) rfl)) (hw _ (List.mem_of_getElem? (i := 1) rfl)) (hw _ (List.mem_of_getElem? (i := 13) rfl))
  obtain ⟨n, o, h1, h2, h3, _, L, rfl, ⟨rfl, N⟩, -, hq⟩ := rm_law l s _ hw tables_1 i0 i1 vF aC s.heap s.heap.size (Nat.le_refl _) ⟨SFm, rF, SC, EC⟩ p e ha hc hk s m _ below hf ((Spec.applies_iff_loose hf).mp happ).1 ⟨rfl, State.Warmed39.refl s, rfl, CH⟩ trivial
  refine ⟨n, _, h1, h2, h3, hpost _ _ _ _ _ _ ⟨Cond.after_iff.mpr rfl, Cond.after_iff.mpr (eq_i res_at (Term.int_eval (1)) rfl), trivial⟩ ⟨hq.1, hq.2.1, hq.2.2.1, (hq.2.2.2.sift fun y hy => Or.inr (N y hy)).mono (by decide) (by decide)⟩⟩
theorem main_1_1 : Claimed_1_1 := comes_1 fun _ _ _ _ _ _ h hF => ⟨h.1, hF⟩
theorem main_1_2 : Claimed_1_2 := comes_1 fun _ _ _ _ _ _ h hF => ⟨h.2.1, hF⟩
end Jvm.Pilot.@@N@@
namespace Jvm.Pilot.@@N@@
open Jvm Jvm.ClassFile Sem Op Lib Jvm.Free Jvm.Stand Jvm.Pilot.@@N@@.Jvm.D
/-! MADE BY PROGRAM (witnessworld.py) out of the Statement's table words and the real class files: 22 classes; the members and pool entries that the words name. The judged class is class 1, her method 1. -/
namespace start1
open Jvm.ClassFile
def u (s : String) : CpInfo := .utf8 (stringToUtf16 s)
/-- a pool by its gaps: so many unusable entries, then the entry; so many at the end -/
def gap : Nat → List CpInfo → List CpInfo
  | 0, r => r
  | n + 1, r => .unusable :: gap n r
def poolList (es : List (Nat × CpInfo)) (last : Nat) : List CpInfo := es.foldr (fun e r => gap e.1 (e.2 :: r)) (gap last [])
def pool (es : List (Nat × CpInfo)) (last : Nat) : Array CpInfo := ⟨poolList es last⟩
def fileOf (pool : Array CpInfo) (this : Nat) (attrs : Array Attribute := #[]) (ms : Array MethodInfo := #[]) (fl : Nat := 33) (sup : Nat := 0) (ifs : Array Nat := #[]) (fds : Array FieldInfo := #[]) : ClassFile where
  minorVersion := 0
  majorVersion := 65
  constantPool := pool
  accessFlags := fl
  thisClass := this
  superClass := sup
  interfaces := ifs
  fields := fds
  methods := ms
  attributes := attrs
def plain (name : String) (sup : Option ClassId) : Class where
  name := name
  kind := .ordinary
  loader := none
  accessFlags := 33
  super := sup
  interfaces := #[]
  cf := none
  fields := #[]
  methods := #[]
  instanceTypes := #[]
  staticTypes := #[]
  resolved := #[]
  callSites := []
  init := .initialized
  statics := none
  mirror := none

def pool0 : Array CpInfo := pool [(5, u "<init>"), (0, u "()V"), (1, .class_ 10), (1, u "java/lang/Object")] 113

def k0c0 : Code := { maxStack := 0, maxLocals := 1, code := object_method_1_code, exceptionTable := #[], attributes := #[] }
def k0m0 : Method := { name := "<init>", desc := "()V", sig := { parameters := [], returnType := none }, accessFlags := 1, code := some k0c0 }
/-- java/lang/Object -/
def k0 : Class := { plain "java/lang/Object" none with
  accessFlags := 33
  interfaces := #[]
  cf := some (fileOf pool0 8 #[] #[{ accessFlags := 1, nameIndex := 5, descriptorIndex := 6, attributes := #[] }] 33 0 #[] #[])
  fields := #[]
  methods := #[k0m0]
  instanceTypes := #[]
  staticTypes := #[]
  resolved := Array.replicate 124 none
  statics := none }

def pool1 : Array CpInfo := pool [(2, .class_ 4), (1, u "java/lang/Object"), (0, u "<init>"), (0, u "()V"), (0, .integer 2147483647), (0, .class_ 9), (0, u "com/example/fieldstone/fieldstone/core/KeyReader"), (0, .methodref 8 11), (0, .nameAndType 5 12), (0, u "([B)V"), (0, .methodref 8 14), (0, .nameAndType 15 16), (0, u "hasRemaining"), (0, u "()Z"), (0, .methodref 18 19), (0, .class_ 20), (0, .nameAndType 21 22), (0, u "com/example/fieldstone/fieldstone/core/KeyReaderHasRemainingPinLaw"), (0, u "step"), (0, u "(Lcom/example/fieldstone/fieldstone/core/KeyReader;III)I"), (0, .methodref 8 24), (0, .nameAndType 25 16), (0, u "readBoolean"), (0, .methodref 8 27), (0, .nameAndType 28 29), (0, u "readString"), (0, u "()Ljava/lang/String;"), (0, .methodref 8 31), (0, .nameAndType 32 33), (0, u "readInt"), (0, u "()I"), (0, .methodref 8 35), (0, .nameAndType 36 37), (0, u "readLong"), (0, u "()J"), (2, u "law"), (0, u "(II)Z")] 5

def k1m0 : Method := { name := "<init>", desc := "()V", sig := { parameters := [], returnType := none }, accessFlags := 1, code := none }
def k1c1 : Code := { maxStack := 5, maxLocals := 7, code := code, exceptionTable := #[], attributes := #[] }
def k1m1 : Method := { name := "law", desc := "(II)Z", sig := { parameters := [.int, .int], returnType := some .boolean }, accessFlags := 9, code := some k1c1 }
def k1c2 : Code := { maxStack := 2, maxLocals := 5, code := method_3_code, exceptionTable := #[], attributes := #[] }
def k1m2 : Method := { name := "step", desc := "(Lcom/example/fieldstone/fieldstone/core/KeyReader;III)I", sig := { parameters := [(.object "com/example/fieldstone/fieldstone/core/KeyReader"), .int, .int, .int], returnType := some .int }, accessFlags := 10, code := some k1c2 }
/-- com/example/fieldstone/fieldstone/core/KeyReaderHasRemainingPinLaw -/
def k1 : Class := { plain "com/example/fieldstone/fieldstone/core/KeyReaderHasRemainingPinLaw" (some 0) with
  accessFlags := 49
  interfaces := #[]
  cf := some (fileOf pool1 18 #[] #[{ accessFlags := 1, nameIndex := 5, descriptorIndex := 6, attributes := #[] }, { accessFlags := 9, nameIndex := 40, descriptorIndex := 41, attributes := #[] }, { accessFlags := 10, nameIndex := 21, descriptorIndex := 22, attributes := #[] }] 49 2 #[] #[])
  fields := #[]
  methods := #[k1m0, k1m1, k1m2]
  instanceTypes := #[]
  staticTypes := #[]
  resolved := Array.replicate 47 none
  statics := none }

def pool2 : Array CpInfo := pool [(1, .methodref 2 3), (0, .class_ 4), (0, .nameAndType 5 6), (0, u "java/lang/Object"), (0, u "<init>"), (0, u "()V"), (0, .string 8), (0, u "key"), (0, .methodref 10 11), (0, .class_ 12), (0, .nameAndType 13 14), (0, u "java/util/Objects"), (0, u "requireNonNull"), (0, u "(Ljava/lang/Object;Ljava/lang/String;)Ljava/lang/Object;"), (0, .class_ 16), (0, u "[B"), (0, .fieldref 18 19), (0, .class_ 20), (0, .nameAndType 8 16), (0, u "com/example/fieldstone/fieldstone/core/KeyReader"), (0, .fieldref 18 22), (0, .nameAndType 23 24), (0, u "position"), (0, u "I"), (0, .class_ 26), (0, u "java/lang/String"), (0, .fieldref 28 29), (0, .class_ 30), (0, .nameAndType 31 32), (0, u "java/nio/charset/StandardCharsets"), (0, u "ISO_8859_1"), (0, u "Ljava/nio/charset/Charset;"), (0, .methodref 25 34), (0, .nameAndType 5 35), (0, u "([BIILjava/nio/charset/Charset;)V"), (3, u "()Ljava/lang/String;"), (21, .methodref 18 62), (0, .nameAndType 63 64), (0, u "readSignFlipped"), (0, u "(I)J"), (0, .integer 2147483648), (2, .long 9223372036854775808), (24, u "([B)V"), (2, u "readString"), (3, u "readInt"), (0, u "()I"), (0, u "readLong"), (0, u "()J"), (2, u "readBoolean"), (0, u "()Z"), (0, u "hasRemaining")] 17

def k2c0 : Code := { maxStack := 3, maxLocals := 2, code := prog_48_method_1_code, exceptionTable := #[], attributes := #[] }
def k2m0 : Method := { name := "<init>", desc := "([B)V", sig := { parameters := [(.array .byte)], returnType := none }, accessFlags := 1, code := some k2c0 }
def k2c1 : Code := { maxStack := 6, maxLocals := 3, code := prog_48_method_2_code, exceptionTable := #[], attributes := #[] }
def k2m1 : Method := { name := "readString", desc := "()Ljava/lang/String;", sig := { parameters := [], returnType := some (.object "java/lang/String") }, accessFlags := 1, code := some k2c1 }
def k2c2 : Code := { maxStack := 2, maxLocals := 1, code := prog_48_method_4_code, exceptionTable := #[], attributes := #[] }
def k2m2 : Method := { name := "readInt", desc := "()I", sig := { parameters := [], returnType := some .int }, accessFlags := 1, code := some k2c2 }
def k2c3 : Code := { maxStack := 4, maxLocals := 1, code := prog_48_method_5_code, exceptionTable := #[], attributes := #[] }
def k2m3 : Method := { name := "readLong", desc := "()J", sig := { parameters := [], returnType := some .long }, accessFlags := 1, code := some k2c3 }
def k2c4 : Code := { maxStack := 5, maxLocals := 1, code := prog_48_method_7_code, exceptionTable := #[], attributes := #[] }
def k2m4 : Method := { name := "readBoolean", desc := "()Z", sig := { parameters := [], returnType := some .boolean }, accessFlags := 1, code := some k2c4 }
def k2c5 : Code := { maxStack := 2, maxLocals := 1, code := prog_48_method_9_code, exceptionTable := #[], attributes := #[] }
def k2m5 : Method := { name := "hasRemaining", desc := "()Z", sig := { parameters := [], returnType := some .boolean }, accessFlags := 1, code := some k2c5 }
def k2c6 : Code := { maxStack := 5, maxLocals := 5, code := prog_48_method_10_code, exceptionTable := #[], attributes := #[] }
def k2m6 : Method := { name := "readSignFlipped", desc := "(I)J", sig := { parameters := [.int], returnType := some .long }, accessFlags := 2, code := some k2c6 }
/-- com/example/fieldstone/fieldstone/core/KeyReader -/
def k2 : Class := { plain "com/example/fieldstone/fieldstone/core/KeyReader" (some 0) with
  accessFlags := 33
  interfaces := #[]
  cf := some (fileOf pool2 18 #[] #[{ accessFlags := 1, nameIndex := 5, descriptorIndex := 93, attributes := #[] }, { accessFlags := 1, nameIndex := 96, descriptorIndex := 39, attributes := #[] }, { accessFlags := 1, nameIndex := 100, descriptorIndex := 101, attributes := #[] }, { accessFlags := 1, nameIndex := 102, descriptorIndex := 103, attributes := #[] }, { accessFlags := 1, nameIndex := 106, descriptorIndex := 107, attributes := #[] }, { accessFlags := 1, nameIndex := 108, descriptorIndex := 107, attributes := #[] }, { accessFlags := 2, nameIndex := 63, descriptorIndex := 64, attributes := #[] }] 33 2 #[] #[{ accessFlags := 18, nameIndex := 8, descriptorIndex := 16, attributes := #[] }, { accessFlags := 2, nameIndex := 23, descriptorIndex := 24, attributes := #[] }])
  fields := #[{ name := "key", type := (.array .byte), accessFlags := 18, slot := 0, constantValue := 0 }, { name := "position", type := .int, accessFlags := 2, slot := 1, constantValue := 0 }]
  methods := #[k2m0, k2m1, k2m2, k2m3, k2m4, k2m5, k2m6]
  instanceTypes := #[(.array .byte), .int]
  staticTypes := #[]
  resolved := Array.replicate 126 none
  statics := none }

def pool3 : Array CpInfo := pool [(1, .class_ 2), (0, u "java/io/Serializable"), (0, .class_ 4), (0, u "java/lang/Object")] 2

/-- java/io/Serializable -/
def k3 : Class := { plain "java/io/Serializable" (some 0) with
  accessFlags := 1537
  interfaces := #[]
  cf := some (fileOf pool3 1 #[] #[] 1537 3 #[] #[])
  fields := #[]
  methods := #[]
  instanceTypes := #[]
  staticTypes := #[]
  resolved := Array.replicate 7 none
  statics := none }

def pool4 : Array CpInfo := pool [(1, .class_ 2), (0, u "java/lang/Comparable"), (0, .class_ 4), (0, u "java/lang/Object")] 7

/-- java/lang/Comparable -/
def k4 : Class := { plain "java/lang/Comparable" (some 0) with
  accessFlags := 1537
  interfaces := #[]
  cf := some (fileOf pool4 1 #[] #[] 1537 3 #[] #[])
  fields := #[]
  methods := #[]
  instanceTypes := #[]
  staticTypes := #[]
  resolved := Array.replicate 12 none
  statics := none }

def pool5 : Array CpInfo := pool [(2, .class_ 4), (1, u "java/lang/CharSequence"), (42, .class_ 48), (0, u "java/lang/CharSequence$1CodePointIterator"), (10, .class_ 60), (0, u "java/lang/CharSequence$1CharIterator"), (5, .class_ 67), (0, u "java/lang/Object")] 63

/-- java/lang/CharSequence -/
def k5 : Class := { plain "java/lang/CharSequence" (some 0) with
  accessFlags := 1537
  interfaces := #[]
  cf := some (fileOf pool5 2 #[.nestMembers #[47, 59]] #[] 1537 66 #[] #[])
  fields := #[]
  methods := #[]
  instanceTypes := #[]
  staticTypes := #[]
  resolved := Array.replicate 131 none
  statics := none }

def pool6 : Array CpInfo := pool [(1, .class_ 2), (0, u "java/lang/constant/Constable"), (0, .class_ 4), (0, u "java/lang/Object")] 6

/-- java/lang/constant/Constable -/
def k6 : Class := { plain "java/lang/constant/Constable" (some 0) with
  accessFlags := 1537
  interfaces := #[]
  cf := some (fileOf pool6 1 #[] #[] 1537 3 #[] #[])
  fields := #[]
  methods := #[]
  instanceTypes := #[]
  staticTypes := #[]
  resolved := Array.replicate 11 none
  statics := none }

def pool7 : Array CpInfo := pool [(1, .class_ 2), (0, u "java/lang/constant/ConstantDesc"), (0, .class_ 4), (0, u "java/lang/Object")] 32

/-- java/lang/constant/ConstantDesc -/
def k7 : Class := { plain "java/lang/constant/ConstantDesc" (some 0) with
  accessFlags := 1537
  interfaces := #[]
  cf := some (fileOf pool7 1 #[] #[] 1537 3 #[] #[])
  fields := #[]
  methods := #[]
  instanceTypes := #[]
  staticTypes := #[]
  resolved := Array.replicate 37 none
  statics := none }

def pool8 : Array CpInfo := pool [(1, .methodref 2 3), (0, .class_ 4), (0, .nameAndType 5 6), (0, u "java/lang/Object"), (0, u "<init>"), (0, u "()V"), (0, .string 8), (0, u ""), (0, .fieldref 10 11), (0, .class_ 12), (0, .nameAndType 13 14), (0, u "java/lang/String"), (0, u "value"), (0, u "[B"), (0, .fieldref 10 16), (0, .nameAndType 17 18), (0, u "coder"), (0, u "B"), (2, u "hash"), (0, u "I"), (2, u "hashIsZero"), (0, u "Z"), (7, .methodref 10 35), (0, .nameAndType 36 37), (0, u "checkBoundsOffCount"), (0, u "(III)I"), (2, u "COMPACT_STRINGS"), (34, .methodref 10 76), (0, .nameAndType 5 77), (0, u "(Ljava/nio/charset/Charset;[BII)V"), (0, .methodref 79 80), (0, .class_ 81), (0, .nameAndType 82 83), (0, u "java/util/Objects"), (0, u "requireNonNull"), (0, u "(Ljava/lang/Object;)Ljava/lang/Object;"), (0, .class_ 85), (0, u "java/nio/charset/Charset"), (152, u "([BIILjava/nio/charset/Charset;)V"), (336, .class_ 576), (0, u "java/lang/CharSequence"), (22, u "CASE_INSENSITIVE_ORDER"), (0, u "Ljava/util/Comparator;"), (452, .fieldref 1054 1055), (0, .class_ 1056), (0, .nameAndType 1057 1058), (0, u "jdk/internal/util/Preconditions"), (0, u "SIOOBE_FORMATTER"), (0, u "Ljava/util/function/BiFunction;"), (5, u "(IIILjava/util/function/BiFunction;)I"), (0, .methodref 1054 1066), (0, .nameAndType 1067 1064), (0, u "checkFromIndexSize"), (33, u "serialPersistentFields"), (0, u "[Ljava/io/ObjectStreamField;"), (0, .class_ 1104), (0, u "java/lang/String$CaseInsensitiveComparator"), (1, .class_ 1107), (0, u "java/io/Serializable"), (0, .class_ 1109), (0, u "java/lang/Comparable"), (0, .class_ 1111), (0, u "java/lang/constant/Constable"), (0, .class_ 1113), (0, u "java/lang/constant/ConstantDesc"), (2, u "serialVersionUID"), (0, u "J"), (3, u "REPL"), (0, u "C"), (2, u "LATIN1"), (1, u "UTF16")] 323

def k8m0 : Method := { name := "<init>", desc := "()V", sig := { parameters := [], returnType := none }, accessFlags := 1, code := none }
def k8c1 : Code := { maxStack := 6, maxLocals := 5, code := jdk_42_method_10_code, exceptionTable := #[], attributes := #[] }
def k8m1 : Method := { name := "<init>", desc := "([BIILjava/nio/charset/Charset;)V", sig := { parameters := [(.array .byte), .int, .int, (.object "java/nio/charset/Charset")], returnType := none }, accessFlags := 1, code := some k8c1 }
def k8c2 : Code := { maxStack := 6, maxLocals := 11, code := jdk_42_method_11_code, exceptionTable := #[{ startPc := 800, endPc := 813, handlerPc := 816, catchType := 202 }], attributes := #[] }
def k8m2 : Method := { name := "<init>", desc := "(Ljava/nio/charset/Charset;[BII)V", sig := { parameters := [(.object "java/nio/charset/Charset"), (.array .byte), .int, .int], returnType := none }, accessFlags := 2, code := some k8c2 }
def k8c3 : Code := { maxStack := 4, maxLocals := 3, code := jdk_42_method_157_code, exceptionTable := #[], attributes := #[] }
def k8m3 : Method := { name := "checkBoundsOffCount", desc := "(III)I", sig := { parameters := [.int, .int, .int], returnType := some .int }, accessFlags := 8, code := some k8c3 }
/-- java/lang/String -/
def k8 : Class := { plain "java/lang/String" (some 0) with
  accessFlags := 49
  interfaces := #[3, 4, 5, 6, 7]
  cf := some (fileOf pool8 10 #[.nestMembers #[1103]] #[{ accessFlags := 1, nameIndex := 5, descriptorIndex := 6, attributes := #[] }, { accessFlags := 1, nameIndex := 5, descriptorIndex := 238, attributes := #[] }, { accessFlags := 2, nameIndex := 5, descriptorIndex := 77, attributes := #[] }, { accessFlags := 8, nameIndex := 36, descriptorIndex := 37, attributes := #[] }] 49 2 #[1106, 1108, 575, 1110, 1112] #[{ accessFlags := 18, nameIndex := 13, descriptorIndex := 14, attributes := #[] }, { accessFlags := 18, nameIndex := 17, descriptorIndex := 18, attributes := #[] }, { accessFlags := 2, nameIndex := 21, descriptorIndex := 22, attributes := #[] }, { accessFlags := 2, nameIndex := 25, descriptorIndex := 26, attributes := #[] }, { accessFlags := 26, nameIndex := 1116, descriptorIndex := 1117, attributes := #[] }, { accessFlags := 24, nameIndex := 40, descriptorIndex := 26, attributes := #[] }, { accessFlags := 26, nameIndex := 1101, descriptorIndex := 1102, attributes := #[] }, { accessFlags := 26, nameIndex := 1121, descriptorIndex := 1122, attributes := #[] }, { accessFlags := 25, nameIndex := 599, descriptorIndex := 600, attributes := #[] }, { accessFlags := 24, nameIndex := 1125, descriptorIndex := 18, attributes := #[] }, { accessFlags := 24, nameIndex := 1127, descriptorIndex := 18, attributes := #[] }])
  fields := #[{ name := "value", type := (.array .byte), accessFlags := 18, slot := 0, constantValue := 0 }, { name := "coder", type := .byte, accessFlags := 18, slot := 1, constantValue := 0 }, { name := "hash", type := .int, accessFlags := 2, slot := 2, constantValue := 0 }, { name := "hashIsZero", type := .boolean, accessFlags := 2, slot := 3, constantValue := 0 }, { name := "serialVersionUID", type := .long, accessFlags := 26, slot := 0, constantValue := 0 }, { name := "COMPACT_STRINGS", type := .boolean, accessFlags := 24, slot := 1, constantValue := 0 }, { name := "serialPersistentFields", type := (.array (.object "java/io/ObjectStreamField")), accessFlags := 26, slot := 2, constantValue := 0 }, { name := "REPL", type := .char, accessFlags := 26, slot := 3, constantValue := 0 }, { name := "CASE_INSENSITIVE_ORDER", type := (.object "java/util/Comparator"), accessFlags := 25, slot := 4, constantValue := 0 }, { name := "LATIN1", type := .byte, accessFlags := 24, slot := 5, constantValue := 0 }, { name := "UTF16", type := .byte, accessFlags := 24, slot := 6, constantValue := 0 }]
  methods := #[k8m0, k8m1, k8m2, k8m3]
  instanceTypes := #[(.array .byte), .byte, .int, .boolean]
  staticTypes := #[.long, .boolean, (.array (.object "java/io/ObjectStreamField")), .char, (.object "java/util/Comparator"), .byte, .byte]
  resolved := Array.replicate 1451 none
  statics := some 0 }

def pool9 : Array CpInfo := pool [(2, .class_ 4), (1, u "java/lang/Object"), (0, u "<init>"), (0, u "()V"), (35, .class_ 44), (1, u "java/util/Objects"), (0, u "requireNonNull"), (0, u "(Ljava/lang/Object;)Ljava/lang/Object;"), (47, u "(Ljava/lang/Object;Ljava/lang/String;)Ljava/lang/Object;")] 89

def k9m0 : Method := { name := "<init>", desc := "()V", sig := { parameters := [], returnType := none }, accessFlags := 2, code := none }
def k9c1 : Code := { maxStack := 2, maxLocals := 1, code := jdk_31_method_10_code, exceptionTable := #[], attributes := #[] }
def k9m1 : Method := { name := "requireNonNull", desc := "(Ljava/lang/Object;)Ljava/lang/Object;", sig := { parameters := [(.object "java/lang/Object")], returnType := some (.object "java/lang/Object") }, accessFlags := 9, code := some k9c1 }
def k9c2 : Code := { maxStack := 3, maxLocals := 2, code := jdk_31_method_11_code, exceptionTable := #[], attributes := #[] }
def k9m2 : Method := { name := "requireNonNull", desc := "(Ljava/lang/Object;Ljava/lang/String;)Ljava/lang/Object;", sig := { parameters := [(.object "java/lang/Object"), (.object "java/lang/String")], returnType := some (.object "java/lang/Object") }, accessFlags := 9, code := some k9c2 }
/-- java/util/Objects -/
def k9 : Class := { plain "java/util/Objects" (some 0) with
  accessFlags := 49
  interfaces := #[]
  cf := some (fileOf pool9 42 #[] #[{ accessFlags := 2, nameIndex := 5, descriptorIndex := 6, attributes := #[] }, { accessFlags := 9, nameIndex := 45, descriptorIndex := 46, attributes := #[] }, { accessFlags := 9, nameIndex := 45, descriptorIndex := 94, attributes := #[] }] 49 2 #[] #[])
  fields := #[]
  methods := #[k9m0, k9m1, k9m2]
  instanceTypes := #[]
  staticTypes := #[]
  resolved := Array.replicate 184 none
  statics := none }

def pool10 : Array CpInfo := pool [(2, .class_ 4), (1, u "java/lang/Object"), (0, u "<init>"), (0, u "()V"), (14, .class_ 23), (1, u "java/nio/charset/StandardCharsets"), (0, u "US_ASCII"), (0, u "Ljava/nio/charset/Charset;"), (7, u "ISO_8859_1"), (7, u "UTF_8"), (5, u "UTF_16BE"), (5, u "UTF_16LE"), (5, u "UTF_16")] 8

def k10m0 : Method := { name := "<init>", desc := "()V", sig := { parameters := [], returnType := none }, accessFlags := 2, code := none }
/-- java/nio/charset/StandardCharsets -/
def k10 : Class := { plain "java/nio/charset/StandardCharsets" (some 0) with
  accessFlags := 49
  interfaces := #[]
  cf := some (fileOf pool10 21 #[] #[{ accessFlags := 2, nameIndex := 5, descriptorIndex := 6, attributes := #[] }] 49 2 #[] #[{ accessFlags := 25, nameIndex := 24, descriptorIndex := 25, attributes := #[] }, { accessFlags := 25, nameIndex := 33, descriptorIndex := 25, attributes := #[] }, { accessFlags := 25, nameIndex := 41, descriptorIndex := 25, attributes := #[] }, { accessFlags := 25, nameIndex := 47, descriptorIndex := 25, attributes := #[] }, { accessFlags := 25, nameIndex := 53, descriptorIndex := 25, attributes := #[] }, { accessFlags := 25, nameIndex := 59, descriptorIndex := 25, attributes := #[] }])
  fields := #[{ name := "US_ASCII", type := (.object "java/nio/charset/Charset"), accessFlags := 25, slot := 0, constantValue := 0 }, { name := "ISO_8859_1", type := (.object "java/nio/charset/Charset"), accessFlags := 25, slot := 1, constantValue := 0 }, { name := "UTF_8", type := (.object "java/nio/charset/Charset"), accessFlags := 25, slot := 2, constantValue := 0 }, { name := "UTF_16BE", type := (.object "java/nio/charset/Charset"), accessFlags := 25, slot := 3, constantValue := 0 }, { name := "UTF_16LE", type := (.object "java/nio/charset/Charset"), accessFlags := 25, slot := 4, constantValue := 0 }, { name := "UTF_16", type := (.object "java/nio/charset/Charset"), accessFlags := 25, slot := 5, constantValue := 0 }]
  methods := #[k10m0]
  instanceTypes := #[]
  staticTypes := #[(.object "java/nio/charset/Charset"), (.object "java/nio/charset/Charset"), (.object "java/nio/charset/Charset"), (.object "java/nio/charset/Charset"), (.object "java/nio/charset/Charset"), (.object "java/nio/charset/Charset")]
  resolved := Array.replicate 68 none
  statics := some 1 }

def pool11 : Array CpInfo := pool [(18, .class_ 20), (1, u "java/nio/charset/Charset"), (0, u "cache1"), (0, u "[Ljava/lang/Object;"), (2, u "cache2"), (0, .class_ 27), (0, u "java/lang/Object"), (0, .class_ 29), (0, u "java/nio/charset/Charset$1"), (4, .class_ 36), (1, u "java/nio/charset/Charset$ThreadTrackHolder"), (21, .class_ 59), (0, u "java/nio/charset/Charset$2"), (11, .class_ 73), (1, u "java/nio/charset/Charset$ExtendedProviderHolder"), (22, u "standardProvider"), (0, u "Ljava/nio/charset/spi/CharsetProvider;"), (29, u "name"), (7, .class_ 136), (0, u "java/nio/charset/Charset$3"), (5, u "defaultCharset"), (0, u "Ljava/nio/charset/Charset;"), (14, u "zeroAliases"), (0, u "[Ljava/lang/String;"), (29, u "Ljava/lang/String;"), (2, u "aliases"), (2, u "aliasSet"), (0, u "Ljava/util/Set;"), (82, .class_ 280), (0, u "java/lang/Comparable"), (84, .class_ 366), (0, u "java/nio/charset/Charset$ExtendedProviderHolder$1")] 3

/-- java/nio/charset/Charset -/
def k11 : Class := { plain "java/nio/charset/Charset" (some 0) with
  accessFlags := 1057
  interfaces := #[4]
  cf := some (fileOf pool11 18 #[.nestMembers #[71, 365, 34, 135, 58, 28]] #[] 1057 26 #[279] #[{ accessFlags := 26, nameIndex := 96, descriptorIndex := 97, attributes := #[] }, { accessFlags := 26, nameIndex := 158, descriptorIndex := 159, attributes := #[] }, { accessFlags := 74, nameIndex := 21, descriptorIndex := 22, attributes := #[] }, { accessFlags := 74, nameIndex := 25, descriptorIndex := 22, attributes := #[] }, { accessFlags := 10, nameIndex := 142, descriptorIndex := 143, attributes := #[] }, { accessFlags := 18, nameIndex := 127, descriptorIndex := 189, attributes := #[] }, { accessFlags := 18, nameIndex := 192, descriptorIndex := 159, attributes := #[] }, { accessFlags := 2, nameIndex := 195, descriptorIndex := 196, attributes := #[] }])
  fields := #[{ name := "standardProvider", type := (.object "java/nio/charset/spi/CharsetProvider"), accessFlags := 26, slot := 0, constantValue := 0 }, { name := "zeroAliases", type := (.array (.object "java/lang/String")), accessFlags := 26, slot := 1, constantValue := 0 }, { name := "cache1", type := (.array (.object "java/lang/Object")), accessFlags := 74, slot := 2, constantValue := 0 }, { name := "cache2", type := (.array (.object "java/lang/Object")), accessFlags := 74, slot := 3, constantValue := 0 }, { name := "defaultCharset", type := (.object "java/nio/charset/Charset"), accessFlags := 10, slot := 4, constantValue := 0 }, { name := "name", type := (.object "java/lang/String"), accessFlags := 18, slot := 0, constantValue := 0 }, { name := "aliases", type := (.array (.object "java/lang/String")), accessFlags := 18, slot := 1, constantValue := 0 }, { name := "aliasSet", type := (.object "java/util/Set"), accessFlags := 2, slot := 2, constantValue := 0 }]
  methods := #[]
  instanceTypes := #[(.object "java/lang/String"), (.array (.object "java/lang/String")), (.object "java/util/Set")]
  staticTypes := #[(.object "java/nio/charset/spi/CharsetProvider"), (.array (.object "java/lang/String")), (.array (.object "java/lang/Object")), (.array (.object "java/lang/Object")), (.object "java/nio/charset/Charset")]
  resolved := Array.replicate 370 none
  statics := none }

def pool12 : Array CpInfo := pool [(1, .class_ 2), (0, u "sun/nio/cs/HistoricallyNamedCharset"), (0, .class_ 4), (0, u "java/lang/Object")] 4

/-- sun/nio/cs/HistoricallyNamedCharset -/
def k12 : Class := { plain "sun/nio/cs/HistoricallyNamedCharset" (some 0) with
  accessFlags := 1537
  interfaces := #[]
  cf := some (fileOf pool12 1 #[] #[] 1537 3 #[] #[])
  fields := #[]
  methods := #[]
  instanceTypes := #[]
  staticTypes := #[]
  resolved := Array.replicate 9 none
  statics := none }

def pool13 : Array CpInfo := pool [(10, .class_ 12), (1, u "java/nio/charset/Charset"), (0, u "<init>"), (5, .class_ 20), (0, u "sun/nio/cs/ISO_8859_1"), (0, .class_ 22), (0, u "sun/nio/cs/ISO_8859_1$Decoder"), (3, .class_ 27), (0, u "sun/nio/cs/ISO_8859_1$Encoder"), (3, u "()V"), (2, u "INSTANCE"), (0, u "Lsun/nio/cs/ISO_8859_1;"), (0, .class_ 37), (0, u "sun/nio/cs/HistoricallyNamedCharset")] 22

def k13m0 : Method := { name := "<init>", desc := "()V", sig := { parameters := [], returnType := none }, accessFlags := 1, code := none }
/-- sun/nio/cs/ISO_8859_1 -/
def k13 : Class := { plain "sun/nio/cs/ISO_8859_1" (some 11) with
  accessFlags := 33
  interfaces := #[12]
  cf := some (fileOf pool13 19 #[.nestMembers #[26, 21]] #[{ accessFlags := 1, nameIndex := 13, descriptorIndex := 31, attributes := #[] }] 33 10 #[36] #[{ accessFlags := 25, nameIndex := 34, descriptorIndex := 35, attributes := #[] }])
  fields := #[{ name := "INSTANCE", type := (.object "sun/nio/cs/ISO_8859_1"), accessFlags := 25, slot := 0, constantValue := 0 }]
  methods := #[k13m0]
  instanceTypes := #[(.object "java/lang/String"), (.array (.object "java/lang/String")), (.object "java/util/Set")]
  staticTypes := #[(.object "sun/nio/cs/ISO_8859_1")]
  resolved := Array.replicate 60 none
  statics := some 2 }

def pool14 : Array CpInfo := pool [(2, .class_ 4), (1, u "java/lang/Object"), (0, u "<init>"), (0, u "()V"), (17, .class_ 26), (1, u "jdk/internal/util/Preconditions"), (22, u "checkFromIndexSize"), (5, .class_ 56), (0, u "jdk/internal/util/Preconditions$4"), (57, .class_ 115), (0, u "jdk/internal/util/Preconditions$1"), (7, u "SIOOBE_FORMATTER"), (0, u "Ljava/util/function/BiFunction;"), (0, .class_ 126), (0, u "jdk/internal/util/Preconditions$2"), (3, u "AIOOBE_FORMATTER"), (0, .class_ 132), (0, u "jdk/internal/util/Preconditions$3"), (3, u "IOOBE_FORMATTER"), (46, u "(IIILjava/util/function/BiFunction;)I")] 10

def k14m0 : Method := { name := "<init>", desc := "()V", sig := { parameters := [], returnType := none }, accessFlags := 1, code := none }
def k14c1 : Code := { maxStack := 4, maxLocals := 4, code := jdk_41_method_13_code, exceptionTable := #[], attributes := #[] }
def k14m1 : Method := { name := "checkFromIndexSize", desc := "(IIILjava/util/function/BiFunction;)I", sig := { parameters := [.int, .int, .int, (.object "java/util/function/BiFunction")], returnType := some .int }, accessFlags := 9, code := some k14c1 }
/-- jdk/internal/util/Preconditions -/
def k14 : Class := { plain "jdk/internal/util/Preconditions" (some 0) with
  accessFlags := 33
  interfaces := #[]
  cf := some (fileOf pool14 24 #[.nestMembers #[55, 131, 125, 114]] #[{ accessFlags := 1, nameIndex := 5, descriptorIndex := 6, attributes := #[] }, { accessFlags := 9, nameIndex := 49, descriptorIndex := 183, attributes := #[] }] 33 2 #[] #[{ accessFlags := 25, nameIndex := 123, descriptorIndex := 124, attributes := #[] }, { accessFlags := 25, nameIndex := 130, descriptorIndex := 124, attributes := #[] }, { accessFlags := 25, nameIndex := 136, descriptorIndex := 124, attributes := #[] }])
  fields := #[{ name := "SIOOBE_FORMATTER", type := (.object "java/util/function/BiFunction"), accessFlags := 25, slot := 0, constantValue := 0 }, { name := "AIOOBE_FORMATTER", type := (.object "java/util/function/BiFunction"), accessFlags := 25, slot := 1, constantValue := 0 }, { name := "IOOBE_FORMATTER", type := (.object "java/util/function/BiFunction"), accessFlags := 25, slot := 2, constantValue := 0 }]
  methods := #[k14m0, k14m1]
  instanceTypes := #[]
  staticTypes := #[(.object "java/util/function/BiFunction"), (.object "java/util/function/BiFunction"), (.object "java/util/function/BiFunction")]
  resolved := Array.replicate 194 none
  statics := some 3 }

def pool15 : Array CpInfo := pool [(4, .class_ 6), (1, u "java/lang/Object"), (0, u "<init>"), (0, u "()V"), (5, .class_ 16), (1, u "java/lang/StringLatin1"), (104, u "$assertionsDisabled"), (0, u "Z"), (98, .class_ 223), (1, u "java/lang/StringLatin1$LinesSpliterator"), (166, .class_ 391), (0, u "java/lang/StringLatin1$CharsSpliterator")] 3

def k15m0 : Method := { name := "<init>", desc := "()V", sig := { parameters := [], returnType := none }, accessFlags := 0, code := none }
/-- java/lang/StringLatin1 -/
def k15 : Class := { plain "java/lang/StringLatin1" (some 0) with
  accessFlags := 48
  interfaces := #[]
  cf := some (fileOf pool15 14 #[.nestMembers #[390, 221]] #[{ accessFlags := 0, nameIndex := 7, descriptorIndex := 8, attributes := #[] }] 48 4 #[] #[{ accessFlags := 4120, nameIndex := 121, descriptorIndex := 122, attributes := #[] }])
  fields := #[{ name := "$assertionsDisabled", type := .boolean, accessFlags := 4120, slot := 0, constantValue := 0 }]
  methods := #[k15m0]
  instanceTypes := #[]
  staticTypes := #[.boolean]
  resolved := Array.replicate 395 none
  statics := none }

def pool16 : Array CpInfo := pool [(9, u "<init>"), (6, .class_ 18), (1, u "java/lang/Object"), (0, u "()V"), (1, .class_ 23), (1, u "jdk/internal/util/ArraysSupport"), (0, u "LOG2_ARRAY_LONG_INDEX_SCALE"), (0, u "I"), (2, u "U"), (0, u "Ljdk/internal/misc/Unsafe;"), (8, u "BIG_ENDIAN"), (0, u "Z"), (8, u "LOG2_BYTE_BIT_SIZE"), (4, u "LOG2_ARRAY_INT_INDEX_SCALE"), (54, u "JLA"), (0, u "Ljdk/internal/access/JavaLangAccess;"), (11, u "LOG2_ARRAY_BOOLEAN_INDEX_SCALE"), (9, u "LOG2_ARRAY_BYTE_INDEX_SCALE"), (5, u "LOG2_ARRAY_CHAR_INDEX_SCALE"), (5, u "LOG2_ARRAY_SHORT_INDEX_SCALE"), (18, u "LOG2_ARRAY_FLOAT_INDEX_SCALE"), (24, u "LOG2_ARRAY_DOUBLE_INDEX_SCALE"), (89, u "T_BOOLEAN"), (2, u "T_CHAR"), (1, u "T_FLOAT"), (1, u "T_DOUBLE"), (1, u "T_BYTE"), (1, u "T_SHORT"), (1, u "T_INT"), (1, u "T_LONG"), (1, u "SOFT_MAX_ARRAY_LENGTH")] 83

def k16m0 : Method := { name := "<init>", desc := "()V", sig := { parameters := [], returnType := none }, accessFlags := 2, code := none }
/-- jdk/internal/util/ArraysSupport -/
def k16 : Class := { plain "jdk/internal/util/ArraysSupport" (some 0) with
  accessFlags := 33
  interfaces := #[]
  cf := some (fileOf pool16 21 #[] #[{ accessFlags := 2, nameIndex := 9, descriptorIndex := 19, attributes := #[] }] 33 16 #[] #[{ accessFlags := 24, nameIndex := 28, descriptorIndex := 29, attributes := #[] }, { accessFlags := 26, nameIndex := 38, descriptorIndex := 39, attributes := #[] }, { accessFlags := 25, nameIndex := 121, descriptorIndex := 25, attributes := #[] }, { accessFlags := 25, nameIndex := 131, descriptorIndex := 25, attributes := #[] }, { accessFlags := 25, nameIndex := 137, descriptorIndex := 25, attributes := #[] }, { accessFlags := 25, nameIndex := 143, descriptorIndex := 25, attributes := #[] }, { accessFlags := 25, nameIndex := 53, descriptorIndex := 25, attributes := #[] }, { accessFlags := 25, nameIndex := 24, descriptorIndex := 25, attributes := #[] }, { accessFlags := 25, nameIndex := 162, descriptorIndex := 25, attributes := #[] }, { accessFlags := 25, nameIndex := 187, descriptorIndex := 25, attributes := #[] }, { accessFlags := 26, nameIndex := 48, descriptorIndex := 25, attributes := #[] }, { accessFlags := 25, nameIndex := 277, descriptorIndex := 25, attributes := #[] }, { accessFlags := 25, nameIndex := 280, descriptorIndex := 25, attributes := #[] }, { accessFlags := 25, nameIndex := 282, descriptorIndex := 25, attributes := #[] }, { accessFlags := 25, nameIndex := 284, descriptorIndex := 25, attributes := #[] }, { accessFlags := 25, nameIndex := 286, descriptorIndex := 25, attributes := #[] }, { accessFlags := 25, nameIndex := 288, descriptorIndex := 25, attributes := #[] }, { accessFlags := 25, nameIndex := 290, descriptorIndex := 25, attributes := #[] }, { accessFlags := 25, nameIndex := 292, descriptorIndex := 25, attributes := #[] }, { accessFlags := 26, nameIndex := 108, descriptorIndex := 109, attributes := #[] }, { accessFlags := 25, nameIndex := 294, descriptorIndex := 25, attributes := #[] }])
  fields := #[{ name := "U", type := (.object "jdk/internal/misc/Unsafe"), accessFlags := 24, slot := 0, constantValue := 0 }, { name := "BIG_ENDIAN", type := .boolean, accessFlags := 26, slot := 1, constantValue := 0 }, { name := "LOG2_ARRAY_BOOLEAN_INDEX_SCALE", type := .int, accessFlags := 25, slot := 2, constantValue := 0 }, { name := "LOG2_ARRAY_BYTE_INDEX_SCALE", type := .int, accessFlags := 25, slot := 3, constantValue := 0 }, { name := "LOG2_ARRAY_CHAR_INDEX_SCALE", type := .int, accessFlags := 25, slot := 4, constantValue := 0 }, { name := "LOG2_ARRAY_SHORT_INDEX_SCALE", type := .int, accessFlags := 25, slot := 5, constantValue := 0 }, { name := "LOG2_ARRAY_INT_INDEX_SCALE", type := .int, accessFlags := 25, slot := 6, constantValue := 0 }, { name := "LOG2_ARRAY_LONG_INDEX_SCALE", type := .int, accessFlags := 25, slot := 7, constantValue := 0 }, { name := "LOG2_ARRAY_FLOAT_INDEX_SCALE", type := .int, accessFlags := 25, slot := 8, constantValue := 0 }, { name := "LOG2_ARRAY_DOUBLE_INDEX_SCALE", type := .int, accessFlags := 25, slot := 9, constantValue := 0 }, { name := "LOG2_BYTE_BIT_SIZE", type := .int, accessFlags := 26, slot := 10, constantValue := 0 }, { name := "T_BOOLEAN", type := .int, accessFlags := 25, slot := 11, constantValue := 0 }, { name := "T_CHAR", type := .int, accessFlags := 25, slot := 12, constantValue := 0 }, { name := "T_FLOAT", type := .int, accessFlags := 25, slot := 13, constantValue := 0 }, { name := "T_DOUBLE", type := .int, accessFlags := 25, slot := 14, constantValue := 0 }, { name := "T_BYTE", type := .int, accessFlags := 25, slot := 15, constantValue := 0 }, { name := "T_SHORT", type := .int, accessFlags := 25, slot := 16, constantValue := 0 }, { name := "T_INT", type := .int, accessFlags := 25, slot := 17, constantValue := 0 }, { name := "T_LONG", type := .int, accessFlags := 25, slot := 18, constantValue := 0 }, { name := "JLA", type := (.object "jdk/internal/access/JavaLangAccess"), accessFlags := 26, slot := 19, constantValue := 0 }, { name := "SOFT_MAX_ARRAY_LENGTH", type := .int, accessFlags := 25, slot := 20, constantValue := 0 }]
  methods := #[k16m0]
  instanceTypes := #[]
  staticTypes := #[(.object "jdk/internal/misc/Unsafe"), .boolean, .int, .int, .int, .int, .int, .int, .int, .int, .int, .int, .int, .int, .int, .int, .int, .int, .int, (.object "jdk/internal/access/JavaLangAccess"), .int]
  resolved := Array.replicate 378 none
  statics := none }

def pool17 : Array CpInfo := pool [(1, u "java/lang/Cloneable"), (0, .class_ 1), (0, u "java/lang/Object"), (0, .class_ 3)] 3

/-- java/lang/Cloneable -/
def k17 : Class := { plain "java/lang/Cloneable" (some 0) with
  accessFlags := 1537
  interfaces := #[]
  cf := some (fileOf pool17 2 #[] #[] 1537 4 #[] #[])
  fields := #[]
  methods := #[]
  instanceTypes := #[]
  staticTypes := #[]
  resolved := Array.replicate 8 none
  statics := none }

/-- the primitive byte -/
def k18 : Class := { plain "byte" none with kind := .primitive 'B', accessFlags := 0x411 }
/-- [B -/
def k19 : Class := { plain "[B" (some 0) with kind := .array 18 .byte, interfaces := #[17, 3], accessFlags := 1041 }

/-- the primitive int -/
def k20 : Class := { plain "int" none with kind := .primitive 'I', accessFlags := 0x411 }
/-- [I -/
def k21 : Class := { plain "[I" (some 0) with kind := .array 20 .int, interfaces := #[17, 3], accessFlags := 1041 }

def heap : Heap := #[{ cls := 8, slots := #[.long 0, .int 1, .null, .int 0, .null, .int 0, .int 0], vm := .statics 8 },
  { cls := 10, slots := #[.null, .ref 4, .null, .null, .null, .null], vm := .statics 10 },
  { cls := 13, slots := #[.ref 4], vm := .statics 13 },
  { cls := 14, slots := #[.null, .null, .null], vm := .statics 14 },
  { cls := 13, slots := #[.null, .null, .null], vm := .none }]
def classes : Array Class := #[k0, k1, k2, k3, k4, k5, k6, k7, k8, k9, k10, k11, k12, k13, k14, k15, k16, k17, k18, k19, k20, k21]
def interned : List (Array UInt16 × Addr) := []
def slotsUsed : Nat := 20
def theMethod : MethodId := ⟨1, 1⟩
def args0 : Array Value := #[.int 9, .int 27]
def aboutOver (below : List Frame) : State where
  vm := { classes := classes, interned := interned.toArray }
  heap := heap
  slotsUsed := slotsUsed
  threads := #[{ frames := .invoking theMethod args0 :: below }]
def below0 : List Frame := [.native { method := ⟨0, 0⟩, args := #[] }]
def about1 : State := aboutOver below0
def p0 : Program := .bare "" "" ""
def e0 : Env := launch0.env 0 0 0
theorem w_frames : about1.frames = Frame.invoking theMethod args0 :: below0 := rfl
set_option maxRecDepth 65536 in
theorem w_args : argsFit about1.vm theMethod args0 = true := by decide +kernel
set_option maxRecDepth 65536 in
theorem w_heap : heapFits about1 = true := by decide +kernel
set_option maxRecDepth 65536 in
theorem w_runnable : about1.curStatus? = some .runnable := by decide +kernel
set_option maxRecDepth 65536 in
theorem w_alone : about1.alone = true := by decide +kernel
set_option maxRecDepth 65536 in
theorem w_named : about1.methodNamed? x = some theMethod := by decide +kernel
set_option maxRecDepth 65536 in
theorem w_hears : about1.hears theMethod below0 = true := by decide +kernel
set_option maxRecDepth 65536 in
theorem w_ripe : about1.ripe theMethod args0 below0 = true := by decide +kernel
theorem w_running : about1.status = .running := rfl
set_option maxRecDepth 65536 in
theorem w_room : about1.hasRoom e0.platform room_1 = true :=
  launch0.hasRoom_least _ room_1 (by decide +kernel) (by decide +kernel) (by decide +kernel) (by decide +kernel) (by decide +kernel) (by decide +kernel)
theorem allAtoms_all (ts : List Jvm.Cond) (a : Array Jvm.Value) (st : Jvm.State) : (allAtoms ts).before a st = ts.all (fun c => c.before a st) := by
  induction ts with
  | nil => rfl
  | cons c t ih =>
    show (Jvm.Cond.and c (allAtoms t)).before a st = _
    rw [Jvm.Cond.before_and, ih, List.all_cons]
def words1 : List Jvm.Cond := Jvm.Cond.code x code maxLocals ret :: tables_1
/-- a 'code' word, met by the world's own term for the bytes: nothing is compared byte by byte -/
theorem code_word {y : MethodName} {bytes : ByteArray} {mx : Nat} {rt : Option FieldType} {a : Array Value} {s : State} {m : MethodId} {meth : Method} {c : Code} (h1 : s.methodNamed? y = some m) (h2 : s.vm.method? m = some meth) (h3 : meth.code = some c) (h4 : c.code = bytes)
    (h5 : (c.maxLocals == mx && c.exceptionTable.isEmpty && decide (c.maxStack ≤ mostOperands) && decide (meth.sig.returnType = rt) && !meth.locks && decide (parseMethodDescriptor y.desc = some meth.sig)) = true) : (Jvm.Cond.code y bytes mx rt).before a s = true := by
  simp only [Bool.and_eq_true, beq_iff_eq, Bool.not_eq_true', decide_eq_true_eq] at h5
  obtain ⟨⟨⟨⟨⟨g1, g2⟩, g3⟩, g4⟩, g5⟩, g6⟩ := h5
  simp [Cond.before, Cond.holds, Cond.value, h1, h2, h3, h4, g1, g2, g3, g4, g5, g6]
theorem own_codeWith {y : MethodName} {bytes : ByteArray} {mx : Nat} {rt : Option FieldType} {hs : List (Nat × Nat × Nat × Nat)} {a : Array Value} {s : State} {m : MethodId} {meth : Method} {c : Code} (h1 : s.methodNamed? y = some m) (h2 : s.vm.method? m = some meth) (h3 : meth.code = some c) (h4 : c.code = bytes)
    (h6 : c.exceptionTable.toList.map (fun h => (h.startPc, h.endPc, h.handlerPc, h.catchType)) = hs) (h5 : (c.maxLocals == mx && decide (c.maxStack ≤ mostOperands) && decide (meth.sig.returnType = rt) && !meth.locks && decide (parseMethodDescriptor y.desc = some meth.sig)) = true) : (Jvm.Cond.codeWith y bytes mx rt hs).before a s = true := by
  simp only [Bool.and_eq_true, beq_iff_eq, Bool.not_eq_true', decide_eq_true_eq] at h5
  obtain ⟨⟨⟨⟨g1, g3⟩, g4⟩, g5⟩, g6⟩ := h5
  simp [Cond.before, Cond.holds, Cond.value, h1, h2, h3, h4, h6, g1, g3, g4, g5, g6]
def isCode : Jvm.Cond → Bool
  | .code _ _ _ _ => true
  | .codeWith _ _ _ _ _ => true
  | _ => false
theorem all_split {L : List Jvm.Cond} {P : Jvm.Cond → Bool} (h1 : L.all (fun c => isCode c || P c) = true) (h2 : ∀ c ∈ L.filter isCode, P c = true) : L.all P = true := by
  refine List.all_eq_true.mpr fun c hc => ?_
  have h := List.all_eq_true.mp h1 c hc
  rcases Bool.eq_false_or_eq_true (isCode c) with hi | hi
  · exact h2 c (List.mem_filter.mpr ⟨hc, hi⟩)
  · simpa [hi] using h
set_option maxRecDepth 65536 in
theorem w_c0 : (Jvm.Cond.code x code maxLocals ret).before args0 about1 = true := code_word (m := ⟨1, 1⟩) (meth := k1m1) (c := k1c1) (by decide +kernel) rfl rfl rfl (by decide +kernel)
set_option maxRecDepth 65536 in
theorem w_c1 : (Jvm.Cond.code ({ cls := "com/example/fieldstone/fieldstone/core/KeyReader", name := "<init>", desc := "([B)V" } : Jvm.MethodName) prog_48_method_1_code (2 : Nat) (Option.none : Option Jvm.ClassFile.FieldType)).before args0 about1 = true := code_word (m := ⟨2, 0⟩) (meth := k2m0) (c := k2c0) (by decide +kernel) rfl rfl rfl (by decide +kernel)
set_option maxRecDepth 65536 in
theorem w_c2 : (Jvm.Cond.code ({ cls := "java/lang/Object", name := "<init>", desc := "()V" } : Jvm.MethodName) object_method_1_code (1 : Nat) (Option.none : Option Jvm.ClassFile.FieldType)).before args0 about1 = true := code_word (m := ⟨0, 0⟩) (meth := k0m0) (c := k0c0) (by decide +kernel) rfl rfl rfl (by decide +kernel)
set_option maxRecDepth 65536 in
theorem w_c3 : (Jvm.Cond.code ({ cls := "java/util/Objects", name := "requireNonNull", desc := "(Ljava/lang/Object;Ljava/lang/String;)Ljava/lang/Object;" } : Jvm.MethodName) jdk_31_method_11_code (2 : Nat) (Option.some (Jvm.ClassFile.FieldType.object "java/lang/Object"))).before args0 about1 = true := code_word (m := ⟨9, 2⟩) (meth := k9m2) (c := k9c2) (by decide +kernel) rfl rfl rfl (by decide +kernel)
set_option maxRecDepth 65536 in
theorem w_c4 : (Jvm.Cond.code ({ cls := "com/example/fieldstone/fieldstone/core/KeyReader", name := "hasRemaining", desc := "()Z" } : Jvm.MethodName) prog_48_method_9_code (1 : Nat) (Option.some Jvm.ClassFile.FieldType.boolean)).before args0 about1 = true := code_word (m := ⟨2, 5⟩) (meth := k2m5) (c := k2c5) (by decide +kernel) rfl rfl rfl (by decide +kernel)
set_option maxRecDepth 65536 in
theorem w_c5 : (Jvm.Cond.code ({ cls := "com/example/fieldstone/fieldstone/core/KeyReaderHasRemainingPinLaw", name := "step", desc := "(Lcom/example/fieldstone/fieldstone/core/KeyReader;III)I" } : Jvm.MethodName) method_3_code (5 : Nat) (Option.some Jvm.ClassFile.FieldType.int)).before args0 about1 = true := code_word (m := ⟨1, 2⟩) (meth := k1m2) (c := k1c2) (by decide +kernel) rfl rfl rfl (by decide +kernel)
set_option maxRecDepth 65536 in
theorem w_c6 : (Jvm.Cond.code ({ cls := "com/example/fieldstone/fieldstone/core/KeyReader", name := "readString", desc := "()Ljava/lang/String;" } : Jvm.MethodName) prog_48_method_2_code (3 : Nat) (Option.some (Jvm.ClassFile.FieldType.object "java/lang/String"))).before args0 about1 = true := code_word (m := ⟨2, 1⟩) (meth := k2m1) (c := k2c1) (by decide +kernel) rfl rfl rfl (by decide +kernel)
set_option maxRecDepth 65536 in
theorem w_c7 : (Jvm.Cond.code ({ cls := "java/lang/String", name := "<init>", desc := "([BIILjava/nio/charset/Charset;)V" } : Jvm.MethodName) jdk_42_method_10_code (5 : Nat) (Option.none : Option Jvm.ClassFile.FieldType)).before args0 about1 = true := code_word (m := ⟨8, 1⟩) (meth := k8m1) (c := k8c1) (by decide +kernel) rfl rfl rfl (by decide +kernel)
set_option maxRecDepth 65536 in
theorem w_c8 : (Jvm.Cond.code ({ cls := "java/util/Objects", name := "requireNonNull", desc := "(Ljava/lang/Object;)Ljava/lang/Object;" } : Jvm.MethodName) jdk_31_method_10_code (1 : Nat) (Option.some (Jvm.ClassFile.FieldType.object "java/lang/Object"))).before args0 about1 = true := code_word (m := ⟨9, 1⟩) (meth := k9m1) (c := k9c1) (by decide +kernel) rfl rfl rfl (by decide +kernel)
set_option maxRecDepth 65536 in
theorem w_c9 : (Jvm.Cond.code ({ cls := "java/lang/String", name := "checkBoundsOffCount", desc := "(III)I" } : Jvm.MethodName) jdk_42_method_157_code (3 : Nat) (Option.some Jvm.ClassFile.FieldType.int)).before args0 about1 = true := code_word (m := ⟨8, 3⟩) (meth := k8m3) (c := k8c3) (by decide +kernel) rfl rfl rfl (by decide +kernel)
set_option maxRecDepth 65536 in
theorem w_c10 : (Jvm.Cond.code ({ cls := "jdk/internal/util/Preconditions", name := "checkFromIndexSize", desc := "(IIILjava/util/function/BiFunction;)I" } : Jvm.MethodName) jdk_41_method_13_code (4 : Nat) (Option.some Jvm.ClassFile.FieldType.int)).before args0 about1 = true := code_word (m := ⟨14, 1⟩) (meth := k14m1) (c := k14c1) (by decide +kernel) rfl rfl rfl (by decide +kernel)
set_option maxRecDepth 65536 in
theorem w_cW : (Jvm.Cond.codeWith ({ cls := "java/lang/String", name := "<init>", desc := "(Ljava/nio/charset/Charset;[BII)V" } : Jvm.MethodName) jdk_42_method_11_code (11 : Nat) (Option.none : Option Jvm.ClassFile.FieldType) [((800 : Nat), (813 : Nat), (816 : Nat), (202 : Nat))]).before args0 about1 = true := own_codeWith (m := ⟨8, 2⟩) (meth := k8m2) (c := k8c2) (by decide +kernel) rfl rfl rfl rfl (by decide +kernel)
set_option maxRecDepth 65536 in
theorem w_c11 : (Jvm.Cond.code ({ cls := "com/example/fieldstone/fieldstone/core/KeyReader", name := "readBoolean", desc := "()Z" } : Jvm.MethodName) prog_48_method_7_code (1 : Nat) (Option.some Jvm.ClassFile.FieldType.boolean)).before args0 about1 = true := code_word (m := ⟨2, 4⟩) (meth := k2m4) (c := k2c4) (by decide +kernel) rfl rfl rfl (by decide +kernel)
set_option maxRecDepth 65536 in
theorem w_c12 : (Jvm.Cond.code ({ cls := "com/example/fieldstone/fieldstone/core/KeyReader", name := "readLong", desc := "()J" } : Jvm.MethodName) prog_48_method_5_code (1 : Nat) (Option.some Jvm.ClassFile.FieldType.long)).before args0 about1 = true := code_word (m := ⟨2, 3⟩) (meth := k2m3) (c := k2c3) (by decide +kernel) rfl rfl rfl (by decide +kernel)
set_option maxRecDepth 65536 in
theorem w_c13 : (Jvm.Cond.code ({ cls := "com/example/fieldstone/fieldstone/core/KeyReader", name := "readSignFlipped", desc := "(I)J" } : Jvm.MethodName) prog_48_method_10_code (5 : Nat) (Option.some Jvm.ClassFile.FieldType.long)).before args0 about1 = true := code_word (m := ⟨2, 6⟩) (meth := k2m6) (c := k2c6) (by decide +kernel) rfl rfl rfl (by decide +kernel)
set_option maxRecDepth 65536 in
theorem w_c14 : (Jvm.Cond.code ({ cls := "com/example/fieldstone/fieldstone/core/KeyReader", name := "readInt", desc := "()I" } : Jvm.MethodName) prog_48_method_4_code (1 : Nat) (Option.some Jvm.ClassFile.FieldType.int)).before args0 about1 = true := code_word (m := ⟨2, 2⟩) (meth := k2m2) (c := k2c2) (by decide +kernel) rfl rfl rfl (by decide +kernel)
def codes1 : List Jvm.Cond := [Jvm.Cond.code x code maxLocals ret, Jvm.Cond.code ({ cls := "com/example/fieldstone/fieldstone/core/KeyReader", name := "<init>", desc := "([B)V" } : Jvm.MethodName) prog_48_method_1_code (2 : Nat) (Option.none : Option Jvm.ClassFile.FieldType), Jvm.Cond.code ({ cls := "java/lang/Object", name := "<init>", desc := "()V" } : Jvm.MethodName) object_method_1_code (1 : Nat) (Option.none : Option Jvm.ClassFile.FieldType), Jvm.Cond.code ({ cls := "java/util/Objects", name := "requireNonNull", desc := "(Ljava/lang/Object;Ljava/lang/String;)Ljava/lang/Object;" } : Jvm.MethodName) jdk_31_method_11_code (2 : Nat) (Option.some (Jvm.ClassFile.FieldType.object "java/lang/Object")), Jvm.Cond.code ({ cls := "com/example/fieldstone/fieldstone/core/KeyReader", name := "hasRemaining", desc := "()Z" } : Jvm.MethodName) prog_48_method_9_code (1 : Nat) (Option.some Jvm.ClassFile.FieldType.boolean), Jvm.Cond.code ({ cls := "com/example/fieldstone/fieldstone/core/KeyReaderHasRemainingPinLaw", name := "step", desc := "(Lcom/example/fieldstone/fieldstone/core/KeyReader;III)I" } : Jvm.MethodName) method_3_code (5 : Nat) (Option.some Jvm.ClassFile.FieldType.int), Jvm.Cond.code ({ cls := "com/example/fieldstone/fieldstone/core/KeyReader", name := "readString", desc := "()Ljava/lang/String;" } : Jvm.MethodName) prog_48_method_2_code (3 : Nat) (Option.some (Jvm.ClassFile.FieldType.object "java/lang/String")), Jvm.Cond.code ({ cls := "java/lang/String", name := "<init>", desc := "([BIILjava/nio/charset/Charset;)V" } : Jvm.MethodName) jdk_42_method_10_code (5 : Nat) (Option.none : Option Jvm.ClassFile.FieldType), Jvm.Cond.code ({ cls := "java/util/Objects", name := "requireNonNull", desc := "(Ljava/lang/Object;)Ljava/lang/Object;" } : Jvm.MethodName) jdk_31_method_10_code (1 : Nat) (Option.some (Jvm.ClassFile.FieldType.object "java/lang/Object")), Jvm.Cond.code ({ cls := "java/lang/String", name := "checkBoundsOffCount", desc := "(III)I" } : Jvm.MethodName) jdk_42_method_157_code (3 : Nat) (Option.some Jvm.ClassFile.FieldType.int), Jvm.Cond.code ({ cls := "jdk/internal/util/Preconditions", name := "checkFromIndexSize", desc := "(IIILjava/util/function/BiFunction;)I" } : Jvm.MethodName) jdk_41_method_13_code (4 : Nat) (Option.some Jvm.ClassFile.FieldType.int), Jvm.Cond.codeWith ({ cls := "java/lang/String", name := "<init>", desc := "(Ljava/nio/charset/Charset;[BII)V" } : Jvm.MethodName) jdk_42_method_11_code (11 : Nat) (Option.none : Option Jvm.ClassFile.FieldType) [((800 : Nat), (813 : Nat), (816 : Nat), (202 : Nat))], Jvm.Cond.code ({ cls := "com/example/fieldstone/fieldstone/core/KeyReader", name := "readBoolean", desc := "()Z" } : Jvm.MethodName) prog_48_method_7_code (1 : Nat) (Option.some Jvm.ClassFile.FieldType.boolean), Jvm.Cond.code ({ cls := "com/example/fieldstone/fieldstone/core/KeyReader", name := "readLong", desc := "()J" } : Jvm.MethodName) prog_48_method_5_code (1 : Nat) (Option.some Jvm.ClassFile.FieldType.long), Jvm.Cond.code ({ cls := "com/example/fieldstone/fieldstone/core/KeyReader", name := "readSignFlipped", desc := "(I)J" } : Jvm.MethodName) prog_48_method_10_code (5 : Nat) (Option.some Jvm.ClassFile.FieldType.long), Jvm.Cond.code ({ cls := "com/example/fieldstone/fieldstone/core/KeyReader", name := "readInt", desc := "()I" } : Jvm.MethodName) prog_48_method_4_code (1 : Nat) (Option.some Jvm.ClassFile.FieldType.int)]
set_option maxRecDepth 65536 in
theorem codes_eq : words1.filter isCode = codes1 := rfl
theorem w_codes : ∀ c ∈ words1.filter isCode, c.before args0 about1 = true := by
  rw [codes_eq]
  intro c hc
  simp only [codes1, List.mem_cons, List.not_mem_nil, or_false] at hc
  rcases hc with rfl | rfl | rfl | rfl | rfl | rfl | rfl | rfl | rfl | rfl | rfl | rfl | rfl | rfl | rfl | rfl
  · exact w_c0
  · exact w_c1
  · exact w_c2
  · exact w_c3
  · exact w_c4
  · exact w_c5
  · exact w_c6
  · exact w_c7
  · exact w_c8
  · exact w_c9
  · exact w_c10
  · exact w_cW
  · exact w_c11
  · exact w_c12
  · exact w_c13
  · exact w_c14
set_option maxRecDepth 65536 in
theorem w_t1 : (words1.take 24).all (fun c => isCode c || c.before args0 about1) = true := by decide +kernel
set_option maxRecDepth 65536 in
theorem w_t2 : ((words1.drop 24).take 24).all (fun c => isCode c || c.before args0 about1) = true := by decide +kernel
set_option maxRecDepth 65536 in
theorem w_t3 : (((words1.drop 24).drop 24).take 24).all (fun c => isCode c || c.before args0 about1) = true := by decide +kernel
set_option maxRecDepth 65536 in
theorem w_t4 : (((words1.drop 24).drop 24).drop 24).all (fun c => isCode c || c.before args0 about1) = true := by decide +kernel
theorem w_tables : (allAtoms (Jvm.Cond.code x code maxLocals ret :: tables_1)).before args0 about1 = true := by
  rw [allAtoms_all]
  show words1.all (fun c => c.before args0 about1) = true
  refine all_split ?_ w_codes
  rw [← List.take_append_drop 24 words1, List.all_append, w_t1, ← List.take_append_drop 24 (words1.drop 24), List.all_append, w_t2, ← List.take_append_drop 24 ((words1.drop 24).drop 24), List.all_append, w_t3, w_t4]
  rfl
set_option maxRecDepth 65536 in
theorem w_rest : rest_1_c.before args0 about1 = true := by decide +kernel
set_option maxRecDepth 65536 in
theorem w_case : (Jvm.Cond.and given_1 narrow_1).before args0 about1 = true := by decide +kernel
set_option maxRecDepth 65536 in
theorem w_consts : constsHeld consts_1 about1 := Jvm.Lit.constsHeldB_iff.mp (by decide +kernel)
theorem w_applies : (headSpec (Jvm.Cond.code x code maxLocals ret :: tables_1) room_1).applies x e0.platform about1 = true :=
  (Spec.applies_iff w_frames).mpr ⟨w_running, w_runnable, w_alone, w_named, w_hears, w_ripe, w_room, w_tables⟩
theorem atStart : AtStart classFile x code maxLocals ret World_1 tables_1 room_1 Calls_1 rest_1 Pre_1 launch0 p0 e0 about1 theMethod args0 below0 :=
  ⟨lists_1, trivial, launch0.admits_env _ _ _, launch0.least_env, fairChoices_fair.cas, fairChoices_fair.clock, w_frames, w_args, w_heap, w_applies, ⟨w_consts, trivial⟩, w_rest, w_case⟩
end start1
theorem witness_1 : WitnessClaimed_1 := ⟨start1.p0, start1.e0, start1.about1, start1.theMethod, start1.args0, start1.below0, start1.atStart⟩
end Jvm.Pilot.@@N@@
