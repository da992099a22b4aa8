import JvmDerived
import JvmDerived.Pilot.@@N@@Statement
import JvmDerived.Pilot.@@N@@Code
set_option linter.unusedVariables false
set_option linter.unusedSimpArgs false
namespace Jvm.RoadKit
open Sem ClassFile Op Lib Jvm.Stand Jvm.Free Jvm.LawKit
section New
variable {p : Program} {l : Launch} {e : Env} {R : Room} {s : State} {m : MethodId} {args : Array Value} {below : List Frame} {meth : Method} {c : Code} {T : State} {locs : List Loc} {cells slots : Nat}
theorem retI (X : Stand p l e R s m args below meth c T locs cells slots) (hx : p.tables.exec = Jvm.exec) {pc : Nat} {Ls : Array Slot} {z : Int32} {rest : List Value} (hret : meth.sig.returnType = some .int) (hd : decode c.code pc = .ok (.ireturn, 1)) {fs : List Frame}
    (hl : ∀ (f : JFrame) (acts : List Action), f.method = m → f.locked = none → f.entered = [] → (doReturn e (T.setTop f) acts (some (.int z))).1 = T.setFrames fs) : Steps p.tables e below (T.setTop (mkF m pc Ls (.int z :: rest))) (T.setFrames fs) := by
  have hm' : T.vm.method? m = some meth := X.method'
  have hn : narrow .int (.int z) = .int z := rfl
  show Steps p.tables e below (T.setTop { method := m, pc := pc, locals := Ls, stack := _ :: rest, locked := none }) _
  jvm_step X.here [X.here.top, hx, hd, hm', hret, hn]
  first | (intro acts; rw [hl _ acts rfl rfl rfl]) | rw [hl _ _ rfl rfl rfl]
  exact Steps.refl _
end New
end Jvm.RoadKit
namespace Jvm.Pilot.@@N@@
open Jvm Jvm.ClassFile Sem Op Lib Jvm.Free Jvm.Stand Jvm.LawKit Jvm.RoadKit Bundle Jvm.Pilot.@@N@@.Jvm.D
/-- from U the run comes back to its caller; what it returns, the heap and the places written meet Q -/
def Goes (p : Program) (e : Env) (below : List Frame) (s : State) (Q : Option Value → Heap → List Loc → Prop) (C S : Nat) (U : State) : Prop :=
  ∃ s₂ o, Steps p.tables e below U s₂ ∧ s₂.status = .running ∧ Ended s₂ below o ∧ ∃ v L, o = .returned v ∧ Q v s₂.heap L ∧ FrameEnd s o s₂ L C S
section Own
variable {p : Program} {l : Launch} {e : Env} {R : Room} {s : State} {m : MethodId} {args : Array Value} {below : List Frame} {meth : Method} {c : Code} {T : State} {locs : List Loc} {cells slots : Nat} {Q : Option Value → Heap → List Loc → Prop} {C S : Nat} {U U' : State}
theorem Goes.pre (f : ∀ t, Steps p.tables e below U' t → Steps p.tables e below U t) (g : Goes p e below s Q C S U') : Goes p e below s Q C S U := by
  obtain ⟨s₂, o, h1, r⟩ := g
  exact ⟨s₂, o, f _ h1, r⟩
theorem Goes.enter {g g' : JFrame} (q : g = g') (h : Goes p e below s Q C S (U.setTop g')) : Goes p e below s Q C S (U.setTop g) := q ▸ h
theorem Goes.ret (X : Stand p l e R s m args below meth c T locs cells slots) {v : Option Value} (hv : meth.sig.returnType = none → v = none) (hlocks : meth.locks = false) (hc : cells ≤ C) (hs : slots ≤ S) {h : Heap} (eT : T.heap = h)
    (step : ∀ fs, (∀ (f : JFrame) (acts : List Action), f.method = m → f.locked = none → f.entered = [] → (doReturn e (T.setTop f) acts v).1 = T.setFrames fs) → Steps p.tables e below U (T.setFrames fs)) (q : Q v h locs) : Goes p e below s Q C S U := by
  obtain ⟨fs, hr, hrun, hended, hW, hsame⟩ := X.leave hv hlocks
  refine ⟨_, _, step fs hr, hrun, hended, _, _, rfl, ?_, ⟨_, rfl⟩, hW, hsame.mono hc hs⟩
  show Q v T.heap locs
  rw [eT]
  exact q
end Own
theorem own_lsw {tb : Tables} [Ours tb] {e : Env} {below : List Frame} {T target : State} {m : MethodId} {c : Code} {g : JFrame} (h : At T m c below) (hx : tb.exec = Jvm.exec) (hg : g.method = m) {dflt : Int} {prs : Array (Int × Int)} {len : Nat} {o : Int} {pc0 pc' : Nat} (hpc : g.pc = pc0) (hd : decode c.code g.pc = .ok (.lookupswitch dflt prs, len)) {i : Int32} {rest : List Value} (hs : g.stack = .int i :: rest)
    (hso : ∀ (a b a_1 b_1 : Int), ((a, b), a_1, b_1) ∈ prs.toList.zip prs.toList.tail → a < a_1) (hoff : lookupswitch.offset prs.toList dflt i.toInt = o) (ho : 0 ≤ (pc0 : Int) + o) (hp : ((pc0 : Int) + o).toNat = pc')
    (hr : Steps tb e below (T.setTop { g with pc := pc', stack := rest }) target) : Steps tb e below (T.setTop g) target := by
  subst hg hpc hp
  jvm_step h [h.top, hx, hd, hs, lookupswitch.wp_chain, hoff, ho]
  exact ⟨hso, hr⟩
theorem ef_rm_init (m : MethodId) (x0 : Addr) (x1 : Int32) : entryFrame m #[(.ref x0), (.int x1)] 2 = mkF m 0 #[.val (.ref x0), .val (.int x1)] [] := by first | (simp [entryFrame, mkF, argsToLocals, Value.category]; done) | rfl
theorem pn_com_example_bnodiff_bnodiff_engine_Steps : plainName "com/example/bnodiff/bnodiff/engine/Steps" = true := by first | (simp [plainName, overriddenIn]; done) | decide +kernel
theorem d1_0 : decode prog_36_method_1_code 0 = .ok (.aload_n 0, 1) := by decide +kernel
theorem d1_1 : decode prog_36_method_1_code 1 = .ok (.invokespecial 1, 3) := by decide +kernel
theorem d1_4 : decode prog_36_method_1_code 4 = .ok (.aload_n 0, 1) := by decide +kernel
theorem d1_5 : decode prog_36_method_1_code 5 = .ok (.iload_n 1, 1) := by decide +kernel
theorem d1_6 : decode prog_36_method_1_code 6 = .ok (.putfield 7, 3) := by decide +kernel
theorem d1_9 : decode prog_36_method_1_code 9 = .ok (.return_, 1) := by decide +kernel
def Q_rm_init (Z : State) (a : Addr) (q : Int32) (h0 : Heap) (n0 : Nat) (v : Option Value) (h : Heap) (L : List Loc) : Prop := v = none ∧ Fr n0 L ∧ Keep h0 h [a] ∧ Fld Z h a "com/example/bnodiff/bnodiff/engine/Steps" "limit" "I" (.int q) ∧ Fld Z h a "com/example/bnodiff/bnodiff/engine/Steps" "taken" "I" (.int 0)
set_option maxRecDepth 65536 in
set_option maxHeartbeats 40000000 in
theorem rm_init (l : Launch) (Z : State) (a0 : Array Value) (hw : ∀ d ∈ tables_1, d.before a0 Z = true) (ws : List Jvm.Cond) (a : Addr) (q : Int32) (h0 : Heap) (n0 : Nat) (Z0 : n0 ≤ h0.size) (E_a : Exa Z h0 a "com/example/bnodiff/bnodiff/engine/Steps") (F_limit_a : Fld Z h0 a "com/example/bnodiff/bnodiff/engine/Steps" "limit" "I" (.int 0)) (F_taken_a : Fld Z h0 a "com/example/bnodiff/bnodiff/engine/Steps" "taken" "I" (.int 0)) (g_a : n0 ≤ a) :
    MetFree l (⟨"com/example/bnodiff/bnodiff/engine/Steps", "<init>", "(I)V"⟩ : MethodName) (head1 (Jvm.Cond.code (⟨"com/example/bnodiff/bnodiff/engine/Steps", "<init>", "(I)V"⟩ : MethodName) prog_36_method_1_code 2 none :: ws) ({ frames := 1, cells := 0, slots := 0, locals := 12 } : Room)) (fun argv U => argv = #[(.ref a), (.int q)] ∧ Z.Warmed39 U.vm ∧ U.heap = h0) (fun _ _ _ _ _ => True) (fun _ U o U' => ∃ v L, o = .returned v ∧ Q_rm_init Z a q h0 n0 v U'.heap L ∧ FrameEnd U o U' L ({ frames := 1, cells := 0, slots := 0, locals := 12 } : Room).cells ({ frames := 1, cells := 0, slots := 0, locals := 12 } : Room).slots) := by
  refine MetFree.of_bodySF (plainFor_of_name pn_com_example_bnodiff_bnodiff_engine_Steps) hisR ?_
  intro p e s m args below meth c s₁ Bd hml0 hP hK
  obtain ⟨rfl, hZ, hh⟩ := hP
  have hx := Bd.exec
  have hby := Bd.bytes
  have hml : c.maxLocals = 2 := hml0
  have hown : s.vm.findClass "com/example/bnodiff/bnodiff/engine/Steps" = some m.cls := findClass_of_methodNamed Bd.named
  have hnm := (name_of_methodNamed Bd.named Bd.method).1
  have X0 : Stand p l e ({ frames := 1, cells := 0, slots := 0, locals := 12 } : Room) s m #[(.ref a), (.int q)] below meth c s₁ [] 0 0 := Stand.of_body Bd
  have e0 : s₁.heap = h0 := by rw [← hh, Bd.state]; rfl
  have N0 := Fr.nil n0
  have K0 := Keep.refl h0 [a]
  refine Goes.enter (Q := fun v h L => Q_rm_init Z a q h0 n0 v h L) (C := ({ frames := 1, cells := 0, slots := 0, locals := 12 } : Room).cells) (S := ({ frames := 1, cells := 0, slots := 0, locals := 12 } : Room).slots) (ef_rm_init m a q) ?_
  show Goes p e below s _ _ _ (s₁.setTop (mkF m 0 #[.val (.ref a), .val (.int q)] []))
  refine Goes.pre (U' := s₁.setTop (mkF m 1 #[.val (.ref a), .val (.int q)] [(.ref a)])) (fun t k => XS.aloadN X0.here hx rfl (hb hby d1_0) rfl rfl k) ?_
  obtain ⟨T1, X1, e1, st1⟩ := initO X0 hx hZ hown (hw _ (List.mem_of_getElem? (i := 8) rfl)) (hw _ (List.mem_of_getElem? (i := 9) rfl)) (hw _ (List.mem_of_getElem? (i := 10) rfl)) e0 (g := (mkF m 1 #[.val (.ref a), .val (.int q)] [(.ref a)])) rfl (by rw [hml]; rfl) rfl (hb hby d1_1) (by decide) (W := 0) (by show 2 * 0 + _ ≤ _; exact Nat.le_of_eq rfl) (by decide)
  refine Goes.pre (U' := T1.setTop (mkF m 4 #[.val (.ref a), .val (.int q)] [])) (fun t k => st1 t k) ?_
  refine Goes.pre (U' := T1.setTop (mkF m 5 #[.val (.ref a), .val (.int q)] [(.ref a)])) (fun t k => XS.aloadN X1.here hx rfl (hb hby d1_4) rfl rfl k) ?_
  refine Goes.pre (U' := T1.setTop (mkF m 6 #[.val (.ref a), .val (.int q)] [(.int q), (.ref a)])) (fun t k => XS.iloadN X1.here hx rfl (hb hby d1_5) rfl k) ?_
  obtain ⟨T2, h2, X2, e2, W2, st2⟩ := putF X1 hx hZ hown (host := "") (Or.inl (hw _ (List.mem_of_getElem? (i := 11) rfl))) Via.refl e1 F_limit_a E_a (Or.inr ⟨(hw _ (List.mem_of_getElem? (i := 12) rfl)), rfl, hnm⟩) (hw _ (List.mem_of_getElem? (i := 3) rfl)) (ty := .int) (by decide) rfl rfl (g := (mkF m 6 #[.val (.ref a), .val (.int q)] [(.int q), (.ref a)])) rfl rfl (hb hby d1_6)
  have E_a := E_a.wr W2
  have F_taken_a := F_taken_a.other W2 (Or.inr (slot_ne (Or.inl (hw _ (List.mem_of_getElem? (i := 19) rfl))) (Or.inr (hw _ (List.mem_of_getElem? (i := 12) rfl))) (by decide) (t := .int) (t' := .int) (by decide) (by decide)))
  have Z2 : n0 ≤ h2.size := Nat.le_trans Z0 (Keep.of_wr W2).1
  have F_limit_a := F_limit_a.same W2
  have K2 := K0.wr W2 (Or.inl (List.mem_of_getElem? (i := 0) rfl))
  have N2 := Fr.snoc X2 N0 g_a
  refine Goes.pre (U' := T2.setTop (mkF m 9 #[.val (.ref a), .val (.int q)] [])) (fun t k => st2 t k) ?_
  refine Goes.ret X2 (v := none) (fun _ => rfl) Bd.notSynchronized (by decide) (by decide) e2 (fun fs hr => X2.returnOut hx Bd.returns (hb hby d1_9) hr) ?_
  exact ⟨rfl, N2, K2, F_limit_a, F_taken_a⟩
theorem ef_rm_take (m : MethodId) (x0 : Addr) (x1 : Int32) : entryFrame m #[(.ref x0), (.int x1)] 2 = mkF m 0 #[.val (.ref x0), .val (.int x1)] [] := by first | (simp [entryFrame, mkF, argsToLocals, Value.category]; done) | rfl
theorem d3_0 : decode prog_36_method_2_code 0 = .ok (.iload_n 1, 1) := by decide +kernel
theorem d3_1 : decode prog_36_method_2_code 1 = .ok (.aload_n 0, 1) := by decide +kernel
theorem d3_2 : decode prog_36_method_2_code 2 = .ok (.getfield 7, 3) := by decide +kernel
theorem d3_5 : decode prog_36_method_2_code 5 = .ok (.aload_n 0, 1) := by decide +kernel
theorem d3_6 : decode prog_36_method_2_code 6 = .ok (.getfield 13, 3) := by decide +kernel
theorem d3_9 : decode prog_36_method_2_code 9 = .ok (.isub, 1) := by decide +kernel
theorem d3_10 : decode prog_36_method_2_code 10 = .ok (.if_icmp .le 15, 3) := by decide +kernel
theorem d3_25 : decode prog_36_method_2_code 25 = .ok (.aload_n 0, 1) := by decide +kernel
theorem d3_26 : decode prog_36_method_2_code 26 = .ok (.dup, 1) := by decide +kernel
theorem d3_27 : decode prog_36_method_2_code 27 = .ok (.getfield 13, 3) := by decide +kernel
theorem d3_30 : decode prog_36_method_2_code 30 = .ok (.iload_n 1, 1) := by decide +kernel
theorem d3_31 : decode prog_36_method_2_code 31 = .ok (.iadd, 1) := by decide +kernel
theorem d3_32 : decode prog_36_method_2_code 32 = .ok (.putfield 13, 3) := by decide +kernel
theorem d3_35 : decode prog_36_method_2_code 35 = .ok (.return_, 1) := by decide +kernel
def Q_rm_take (Z : State) (a : Addr) (d lim tk : Int32) (h0 : Heap) (n0 : Nat) (v : Option Value) (h : Heap) (L : List Loc) : Prop := v = none ∧ Fr n0 L ∧ Keep h0 h [a] ∧ Fld Z h a "com/example/bnodiff/bnodiff/engine/Steps" "limit" "I" (.int lim) ∧ Fld Z h a "com/example/bnodiff/bnodiff/engine/Steps" "taken" "I" (.int (tk + d))
set_option maxRecDepth 65536 in
set_option maxHeartbeats 40000000 in
theorem rm_take (l : Launch) (Z : State) (a0 : Array Value) (hw : ∀ d ∈ tables_1, d.before a0 Z = true) (ws : List Jvm.Cond) (a : Addr) (d lim tk : Int32) (h0 : Heap) (n0 : Nat) (Z0 : n0 ≤ h0.size) (E_a : Exa Z h0 a "com/example/bnodiff/bnodiff/engine/Steps") (F_limit_a : Fld Z h0 a "com/example/bnodiff/bnodiff/engine/Steps" "limit" "I" (.int lim)) (F_taken_a : Fld Z h0 a "com/example/bnodiff/bnodiff/engine/Steps" "taken" "I" (.int tk)) (g_a : n0 ≤ a) (hle : ¬ (lim - tk < d)) :
    MetFree l (⟨"com/example/bnodiff/bnodiff/engine/Steps", "take", "(I)V"⟩ : MethodName) (head1 (Jvm.Cond.code (⟨"com/example/bnodiff/bnodiff/engine/Steps", "take", "(I)V"⟩ : MethodName) prog_36_method_2_code 2 none :: ws) ({ frames := 0, cells := 0, slots := 0, locals := 0 } : Room)) (fun argv U => argv = #[(.ref a), (.int d)] ∧ Z.Warmed39 U.vm ∧ U.heap = h0) (fun _ _ _ _ _ => True) (fun _ U o U' => ∃ v L, o = .returned v ∧ Q_rm_take Z a d lim tk h0 n0 v U'.heap L ∧ FrameEnd U o U' L ({ frames := 0, cells := 0, slots := 0, locals := 0 } : Room).cells ({ frames := 0, cells := 0, slots := 0, locals := 0 } : Room).slots) := by
  refine MetFree.of_bodySF (plainFor_of_name pn_com_example_bnodiff_bnodiff_engine_Steps) hisR ?_
  intro p e s m args below meth c s₁ Bd hml0 hP hK
  obtain ⟨rfl, hZ, hh⟩ := hP
  have hx := Bd.exec
  have hby := Bd.bytes
  have hml : c.maxLocals = 2 := hml0
  have hown : s.vm.findClass "com/example/bnodiff/bnodiff/engine/Steps" = some m.cls := findClass_of_methodNamed Bd.named
  have hnm := (name_of_methodNamed Bd.named Bd.method).1
  have X0 : Stand p l e ({ frames := 0, cells := 0, slots := 0, locals := 0 } : Room) s m #[(.ref a), (.int d)] below meth c s₁ [] 0 0 := Stand.of_body Bd
  have e0 : s₁.heap = h0 := by rw [← hh, Bd.state]; rfl
  have N0 := Fr.nil n0
  have K0 := Keep.refl h0 [a]
  refine Goes.enter (Q := fun v h L => Q_rm_take Z a d lim tk h0 n0 v h L) (C := ({ frames := 0, cells := 0, slots := 0, locals := 0 } : Room).cells) (S := ({ frames := 0, cells := 0, slots := 0, locals := 0 } : Room).slots) (ef_rm_take m a d) ?_
  show Goes p e below s _ _ _ (s₁.setTop (mkF m 0 #[.val (.ref a), .val (.int d)] []))
  refine Goes.pre (U' := s₁.setTop (mkF m 1 #[.val (.ref a), .val (.int d)] [(.int d)])) (fun t k => XS.iloadN X0.here hx rfl (hb hby d3_0) rfl k) ?_
  refine Goes.pre (U' := s₁.setTop (mkF m 2 #[.val (.ref a), .val (.int d)] [(.ref a), (.int d)])) (fun t k => XS.aloadN X0.here hx rfl (hb hby d3_1) rfl rfl k) ?_
  obtain ⟨T1, X1, e1, st1⟩ := getF X0 hx hZ hown (host := "") (Or.inl (hw _ (List.mem_of_getElem? (i := 11) rfl))) Via.refl e0 F_limit_a (g := (mkF m 2 #[.val (.ref a), .val (.int d)] [(.ref a), (.int d)])) rfl rfl (hb hby d3_2)
  refine Goes.pre (U' := T1.setTop (mkF m 5 #[.val (.ref a), .val (.int d)] [(.int lim), (.int d)])) (fun t k => st1 t k) ?_
  refine Goes.pre (U' := T1.setTop (mkF m 6 #[.val (.ref a), .val (.int d)] [(.ref a), (.int lim), (.int d)])) (fun t k => XS.aloadN X1.here hx rfl (hb hby d3_5) rfl rfl k) ?_
  obtain ⟨T2, X2, e2, st2⟩ := getF X1 hx hZ hown (host := "") (Or.inl (hw _ (List.mem_of_getElem? (i := 18) rfl))) Via.refl e1 F_taken_a (g := (mkF m 6 #[.val (.ref a), .val (.int d)] [(.ref a), (.int lim), (.int d)])) rfl rfl (hb hby d3_6)
  refine Goes.pre (U' := T2.setTop (mkF m 9 #[.val (.ref a), .val (.int d)] [(.int tk), (.int lim), (.int d)])) (fun t k => st2 t k) ?_
  refine Goes.pre (U' := T2.setTop (mkF m 10 #[.val (.ref a), .val (.int d)] [(.int (lim - tk)), (.int d)])) (fun t k => XS.isub X2.here hx rfl (hb hby d3_9) rfl k) ?_
  have hc10 : ¬ ((lim - tk) < d) := hle
  refine Goes.pre (U' := T2.setTop (mkF m 25 #[.val (.ref a), .val (.int d)] [])) (fun t k => XS.icmpYes X2.here hx rfl (pc0 := 10) (pc' := 25) rfl (hb hby d3_10) rfl (flt hc10).2.2.2 (by decide) (by decide) k) ?_
  refine Goes.pre (U' := T2.setTop (mkF m 26 #[.val (.ref a), .val (.int d)] [(.ref a)])) (fun t k => XS.aloadN X2.here hx rfl (hb hby d3_25) rfl rfl k) ?_
  refine Goes.pre (U' := T2.setTop (mkF m 27 #[.val (.ref a), .val (.int d)] [(.ref a), (.ref a)])) (fun t k => XS.dup X2.here hx rfl (hb hby d3_26) rfl rfl k) ?_
  obtain ⟨T3, X3, e3, st3⟩ := getF X2 hx hZ hown (host := "") (Or.inl (hw _ (List.mem_of_getElem? (i := 18) rfl))) Via.refl e2 F_taken_a (g := (mkF m 27 #[.val (.ref a), .val (.int d)] [(.ref a), (.ref a)])) rfl rfl (hb hby d3_27)
  refine Goes.pre (U' := T3.setTop (mkF m 30 #[.val (.ref a), .val (.int d)] [(.int tk), (.ref a)])) (fun t k => st3 t k) ?_
  refine Goes.pre (U' := T3.setTop (mkF m 31 #[.val (.ref a), .val (.int d)] [(.int d), (.int tk), (.ref a)])) (fun t k => XS.iloadN X3.here hx rfl (hb hby d3_30) rfl k) ?_
  refine Goes.pre (U' := T3.setTop (mkF m 32 #[.val (.ref a), .val (.int d)] [(.int (tk + d)), (.ref a)])) (fun t k => XS.iadd X3.here hx rfl (hb hby d3_31) rfl k) ?_
  obtain ⟨T4, h4, X4, e4, W4, st4⟩ := putF X3 hx hZ hown (host := "") (Or.inl (hw _ (List.mem_of_getElem? (i := 18) rfl))) Via.refl e3 F_taken_a E_a (Or.inl (hw _ (List.mem_of_getElem? (i := 19) rfl))) (hw _ (List.mem_of_getElem? (i := 3) rfl)) (ty := .int) (by decide) rfl rfl (g := (mkF m 32 #[.val (.ref a), .val (.int d)] [(.int (tk + d)), (.ref a)])) rfl rfl (hb hby d3_32)
  have E_a := E_a.wr W4
  have F_limit_a := F_limit_a.other W4 (Or.inr (slot_ne (Or.inr (hw _ (List.mem_of_getElem? (i := 12) rfl))) (Or.inl (hw _ (List.mem_of_getElem? (i := 19) rfl))) (by decide) (t := .int) (t' := .int) (by decide) (by decide)))
  have Z4 : n0 ≤ h4.size := Nat.le_trans Z0 (Keep.of_wr W4).1
  have F_taken_a := F_taken_a.same W4
  have K4 := K0.wr W4 (Or.inl (List.mem_of_getElem? (i := 0) rfl))
  have N4 := Fr.snoc X4 N0 g_a
  refine Goes.pre (U' := T4.setTop (mkF m 35 #[.val (.ref a), .val (.int d)] [])) (fun t k => st4 t k) ?_
  refine Goes.ret X4 (v := none) (fun _ => rfl) Bd.notSynchronized (by decide) (by decide) e4 (fun fs hr => X4.returnOut hx Bd.returns (hb hby d3_35) hr) ?_
  exact ⟨rfl, N4, K4, F_limit_a, F_taken_a⟩
theorem own_ok (lim tk d : Int32) (h0 : 0 ≤ tk.toInt) (h1 : 0 ≤ d.toInt) (h2 : tk.toInt + d.toInt ≤ lim.toInt) : ¬ (lim - tk < d) ∧ (tk + d).toInt = tk.toInt + d.toInt := by
  have e1 := c_isub lim tk
  have e2 := c_iadd tk d
  have r1 := rng32 lim
  have r2 := rng32 (lim - tk)
  have r3 := rng32 (tk + d)
  rw [Int32.lt_iff_toInt_lt]
  omega
theorem own_a (lim x : Int32) (h : 0 ≤ lim.toInt) : 0 ≤ (((x.toInt64 &&& (2147483647 : Int64)) - ((x.toInt64 &&& (2147483647 : Int64)) / (lim.toInt64 + (1 : Int64))) * (lim.toInt64 + (1 : Int64))).toInt32).toInt ∧ (((x.toInt64 &&& (2147483647 : Int64)) - ((x.toInt64 &&& (2147483647 : Int64)) / (lim.toInt64 + (1 : Int64))) * (lim.toInt64 + (1 : Int64))).toInt32).toInt ≤ lim.toInt := by
  have e1 := c_maskL x.toInt64 2147483647 31 (by decide) (by decide)
  have e2 := c_ladd lim.toInt64 1
  have e3 := c_i2l lim
  have r1 := rng32 lim
  have r2 := rng64 (lim.toInt64 + 1)
  have k1 : (1 : Int64).toInt = 1 := by decide
  have e4 : (lim.toInt64 + (1 : Int64)).toInt = lim.toInt + 1 := by omega
  have e5 := (c_lrem (x.toInt64 &&& 2147483647) (lim.toInt64 + 1) _ e4).1 (by rw [e1]; omega)
  have e6 := c_l2i ((x.toInt64 &&& (2147483647 : Int64)) - ((x.toInt64 &&& (2147483647 : Int64)) / (lim.toInt64 + (1 : Int64))) * (lim.toInt64 + (1 : Int64)))
  have r3 := rng32 ((x.toInt64 &&& (2147483647 : Int64)) - ((x.toInt64 &&& (2147483647 : Int64)) / (lim.toInt64 + (1 : Int64))) * (lim.toInt64 + (1 : Int64))).toInt32
  have m1 := Int.emod_nonneg (x.toInt64 &&& 2147483647).toInt (show lim.toInt + 1 ≠ 0 by omega)
  have m2 := Int.emod_lt_of_pos (x.toInt64 &&& 2147483647).toInt (show 0 < lim.toInt + 1 by omega)
  omega
theorem own_nz (lim : Int32) (h : 0 ≤ lim.toInt) : lim.toInt64 + (1 : Int64) ≠ 0 := by
  intro q
  have e2 := c_ladd lim.toInt64 1
  have e3 := c_i2l lim
  have r1 := rng32 lim
  have k1 : (1 : Int64).toInt = 1 := by decide
  have k0 : (0 : Int64).toInt = 0 := by decide
  rw [q] at e2
  omega
theorem ef_rm0 (m : MethodId) (x0 : Int32) (x1 : Int32) (x2 : Int32) : entryFrame m #[(.int x0), (.int x1), (.int x2)] maxLocals = mkF m 0 #[.val (.int x0), .val (.int x1), .val (.int x2), .unset, .unset, .unset, .unset, .unset, .unset, .unset] [] := by first | (simp [entryFrame, mkF, argsToLocals, Value.category, maxLocals]; done) | rfl
theorem pn_com_example_bnodiff_bnodiff_engine_StepsTakePinLaw : plainName "com/example/bnodiff/bnodiff/engine/StepsTakePinLaw" = true := by first | (simp [plainName, overriddenIn]; done) | decide +kernel
theorem pd__28I_29V : parseMethodDescriptor "(I)V" = some ⟨[.int], none⟩ := by decide +kernel
def Q_rm0 (Z : State) (p1 p2 p3 : Int32) (h0 : Heap) (n0 : Nat) (v : Option Value) (h : Heap) (L : List Loc) : Prop := v = some (.int 1) ∧ Fr n0 L
set_option maxRecDepth 65536 in
set_option maxHeartbeats 40000000 in
theorem rm0 (l : Launch) (Z : State) (a0 : Array Value) (hw : ∀ d ∈ tables_1, d.before a0 Z = true) (ws : List Jvm.Cond) (p1 p2 p3 : Int32) (h0 : Heap) (n0 : Nat) (Z0 : n0 ≤ h0.size)  :
    MetFree l x (head1 (Jvm.Cond.code x code maxLocals ret :: ws) room_1) (fun argv U => argv = #[(.int p1), (.int p2), (.int p3)] ∧ Z.Warmed39 U.vm ∧ U.heap = h0) (fun _ _ _ _ _ => True) (fun _ U o U' => ∃ v L, o = .returned v ∧ Q_rm0 Z p1 p2 p3 h0 n0 v U'.heap L ∧ FrameEnd U o U' L room_1.cells room_1.slots) := by
  refine MetFree.of_bodySF (plainFor_of_name pn_com_example_bnodiff_bnodiff_engine_StepsTakePinLaw) hisR ?_
  intro p e s m args below meth c s₁ Bd hml0 hP hK
  obtain ⟨rfl, hZ, hh⟩ := hP
  have hx := Bd.exec
  have hby := Bd.bytes
  have hml : c.maxLocals = 10 := hml0
  have hown : s.vm.findClass "com/example/bnodiff/bnodiff/engine/StepsTakePinLaw" = some m.cls := findClass_of_methodNamed Bd.named
  have hnm := (name_of_methodNamed Bd.named Bd.method).1
  have X0 : Stand p l e room_1 s m #[(.int p1), (.int p2), (.int p3)] below meth c s₁ [] 0 0 := Stand.of_body Bd
  have e0 : s₁.heap = h0 := by rw [← hh, Bd.state]; rfl
  have N0 := Fr.nil n0
  refine Goes.enter (Q := fun v h L => Q_rm0 Z p1 p2 p3 h0 n0 v h L) (C := room_1.cells) (S := room_1.slots) (ef_rm0 m p1 p2 p3) ?_
  show Goes p e below s _ _ _ (s₁.setTop (mkF m 0 #[.val (.int p1), .val (.int p2), .val (.int p3), .unset, .unset, .unset, .unset, .unset, .unset, .unset] []))
  refine Goes.pre (U' := s₁.setTop (mkF m 1 #[.val (.int p1), .val (.int p2), .val (.int p3), .unset, .unset, .unset, .unset, .unset, .unset, .unset] [(.int p1)])) (fun t k => XS.iloadN X0.here hx rfl (hb hby at_0) rfl k) ?_
  refine Goes.pre (U' := s₁.setTop (mkF m 3 #[.val (.int p1), .val (.int p2), .val (.int p3), .unset, .unset, .unset, .unset, .unset, .unset, .unset] [(.int (2147483647 : Int32)), (.int p1)])) (fun t k => X0.ldcInt hx hown (mvT hZ (hw _ (List.mem_of_getElem? (i := 0) rfl))) (g := (mkF m 1 #[.val (.int p1), .val (.int p2), .val (.int p3), .unset, .unset, .unset, .unset, .unset, .unset, .unset] [(.int p1)])) rfl (hb hby at_1) _ k) ?_
  refine Goes.pre (U' := s₁.setTop (mkF m 4 #[.val (.int p1), .val (.int p2), .val (.int p3), .unset, .unset, .unset, .unset, .unset, .unset, .unset] [(.int (p1 &&& (2147483647 : Int32)))])) (fun t k => XS.iand X0.here hx rfl (hb hby at_3) rfl k) ?_
  refine Goes.pre (U' := s₁.setTop (mkF m 5 #[.val (.int p1), .val (.int p2), .val (.int p3), .val (.int (p1 &&& (2147483647 : Int32))), .unset, .unset, .unset, .unset, .unset, .unset] [])) (fun t k => XS.istoreN X0.here hx rfl (hb hby at_4) rfl (l' := #[.val (.int p1), .val (.int p2), .val (.int p3), .val (.int (p1 &&& (2147483647 : Int32))), .unset, .unset, .unset, .unset, .unset, .unset]) rfl k) ?_
  obtain ⟨lim, hlim⟩ : ∃ z : Int32, z = (p1 &&& (2147483647 : Int32)) := ⟨_, rfl⟩
  rw [← hlim]
  have hl0 : 0 ≤ lim.toInt := by rw [hlim]; exact (c_and p1 2147483647 (by decide)).1
  refine Goes.pre (U' := s₁.setTop (mkF m 6 #[.val (.int p1), .val (.int p2), .val (.int p3), .val (.int lim), .unset, .unset, .unset, .unset, .unset, .unset] [(.int lim)])) (fun t k => XS.iloadN X0.here hx rfl (hb hby at_5) rfl k) ?_
  refine Goes.pre (U' := s₁.setTop (mkF m 7 #[.val (.int p1), .val (.int p2), .val (.int p3), .val (.int lim), .unset, .unset, .unset, .unset, .unset, .unset] [(.long (lim.toInt64))])) (fun t k => XS.i2l X0.here hx rfl (hb hby at_6) rfl k) ?_
  refine Goes.pre (U' := s₁.setTop (mkF m 8 #[.val (.int p1), .val (.int p2), .val (.int p3), .val (.int lim), .unset, .unset, .unset, .unset, .unset, .unset] [(.long (1 : Int64)), (.long (lim.toInt64))])) (fun t k => XS.lconst X0.here hx rfl (hb hby at_7) k) ?_
  refine Goes.pre (U' := s₁.setTop (mkF m 9 #[.val (.int p1), .val (.int p2), .val (.int p3), .val (.int lim), .unset, .unset, .unset, .unset, .unset, .unset] [(.long ((lim.toInt64) + (1 : Int64)))])) (fun t k => XS.ladd X0.here hx rfl (hb hby at_8) rfl k) ?_
  refine Goes.pre (U' := s₁.setTop (mkF m 11 #[.val (.int p1), .val (.int p2), .val (.int p3), .val (.int lim), .val (.long ((lim.toInt64) + (1 : Int64))), .second, .unset, .unset, .unset, .unset] [])) (fun t k => XS.lstore X0.here hx rfl (hb hby at_9) rfl (l' := #[.val (.int p1), .val (.int p2), .val (.int p3), .val (.int lim), .val (.long ((lim.toInt64) + (1 : Int64))), .second, .unset, .unset, .unset, .unset]) rfl k) ?_
  refine Goes.pre (U' := s₁.setTop (mkF m 12 #[.val (.int p1), .val (.int p2), .val (.int p3), .val (.int lim), .val (.long ((lim.toInt64) + (1 : Int64))), .second, .unset, .unset, .unset, .unset] [(.int p2)])) (fun t k => XS.iloadN X0.here hx rfl (hb hby at_11) rfl k) ?_
  refine Goes.pre (U' := s₁.setTop (mkF m 13 #[.val (.int p1), .val (.int p2), .val (.int p3), .val (.int lim), .val (.long ((lim.toInt64) + (1 : Int64))), .second, .unset, .unset, .unset, .unset] [(.long (p2.toInt64))])) (fun t k => XS.i2l X0.here hx rfl (hb hby at_12) rfl k) ?_
  refine Goes.pre (U' := s₁.setTop (mkF m 16 #[.val (.int p1), .val (.int p2), .val (.int p3), .val (.int lim), .val (.long ((lim.toInt64) + (1 : Int64))), .second, .unset, .unset, .unset, .unset] [(.long (2147483647 : Int64)), (.long (p2.toInt64))])) (fun t k => X0.ldc2Long hx hown (mvT hZ (hw _ (List.mem_of_getElem? (i := 1) rfl))) (g := (mkF m 13 #[.val (.int p1), .val (.int p2), .val (.int p3), .val (.int lim), .val (.long ((lim.toInt64) + (1 : Int64))), .second, .unset, .unset, .unset, .unset] [(.long (p2.toInt64))])) rfl (hb hby at_13) _ k) ?_
  refine Goes.pre (U' := s₁.setTop (mkF m 17 #[.val (.int p1), .val (.int p2), .val (.int p3), .val (.int lim), .val (.long ((lim.toInt64) + (1 : Int64))), .second, .unset, .unset, .unset, .unset] [(.long ((p2.toInt64) &&& (2147483647 : Int64)))])) (fun t k => XS.land X0.here hx rfl (hb hby at_16) rfl k) ?_
  refine Goes.pre (U' := s₁.setTop (mkF m 19 #[.val (.int p1), .val (.int p2), .val (.int p3), .val (.int lim), .val (.long ((lim.toInt64) + (1 : Int64))), .second, .unset, .unset, .unset, .unset] [(.long ((lim.toInt64) + (1 : Int64))), (.long ((p2.toInt64) &&& (2147483647 : Int64)))])) (fun t k => XS.lload X0.here hx rfl (hb hby at_17) rfl k) ?_
  refine Goes.pre (U' := s₁.setTop (mkF m 20 #[.val (.int p1), .val (.int p2), .val (.int p3), .val (.int lim), .val (.long ((lim.toInt64) + (1 : Int64))), .second, .unset, .unset, .unset, .unset] [(.long (((p2.toInt64) &&& (2147483647 : Int64)) - (((p2.toInt64) &&& (2147483647 : Int64)) / ((lim.toInt64) + (1 : Int64))) * ((lim.toInt64) + (1 : Int64))))])) (fun t k => XS.lrem X0.here hx rfl (hb hby at_19) rfl (own_nz lim hl0) k) ?_
  refine Goes.pre (U' := s₁.setTop (mkF m 21 #[.val (.int p1), .val (.int p2), .val (.int p3), .val (.int lim), .val (.long ((lim.toInt64) + (1 : Int64))), .second, .unset, .unset, .unset, .unset] [(.int ((((p2.toInt64) &&& (2147483647 : Int64)) - (((p2.toInt64) &&& (2147483647 : Int64)) / ((lim.toInt64) + (1 : Int64))) * ((lim.toInt64) + (1 : Int64))).toInt32))])) (fun t k => XS.l2i X0.here hx rfl (hb hby at_20) rfl k) ?_
  refine Goes.pre (U' := s₁.setTop (mkF m 23 #[.val (.int p1), .val (.int p2), .val (.int p3), .val (.int lim), .val (.long ((lim.toInt64) + (1 : Int64))), .second, .val (.int ((((p2.toInt64) &&& (2147483647 : Int64)) - (((p2.toInt64) &&& (2147483647 : Int64)) / ((lim.toInt64) + (1 : Int64))) * ((lim.toInt64) + (1 : Int64))).toInt32)), .unset, .unset, .unset] [])) (fun t k => XS.istore X0.here hx rfl (hb hby at_21) rfl (l' := #[.val (.int p1), .val (.int p2), .val (.int p3), .val (.int lim), .val (.long ((lim.toInt64) + (1 : Int64))), .second, .val (.int ((((p2.toInt64) &&& (2147483647 : Int64)) - (((p2.toInt64) &&& (2147483647 : Int64)) / ((lim.toInt64) + (1 : Int64))) * ((lim.toInt64) + (1 : Int64))).toInt32)), .unset, .unset, .unset]) rfl k) ?_
  have hva0 := own_a lim p2 hl0
  obtain ⟨va, hva⟩ : ∃ z : Int32, z = ((((p2.toInt64) &&& (2147483647 : Int64)) - (((p2.toInt64) &&& (2147483647 : Int64)) / ((lim.toInt64) + (1 : Int64))) * ((lim.toInt64) + (1 : Int64))).toInt32) := ⟨_, rfl⟩
  rw [← hva]
  rw [← hva] at hva0
  have hsb : (lim - va).toInt = lim.toInt - va.toInt := by
    have q := c_isub lim va
    have q2 := rng32 lim
    have q3 := rng32 (lim - va)
    omega
  have hl1 : 0 ≤ (lim - va).toInt := by omega
  refine Goes.pre (U' := s₁.setTop (mkF m 24 #[.val (.int p1), .val (.int p2), .val (.int p3), .val (.int lim), .val (.long ((lim.toInt64) + (1 : Int64))), .second, .val (.int va), .unset, .unset, .unset] [(.int p3)])) (fun t k => XS.iloadN X0.here hx rfl (hb hby at_23) rfl k) ?_
  refine Goes.pre (U' := s₁.setTop (mkF m 25 #[.val (.int p1), .val (.int p2), .val (.int p3), .val (.int lim), .val (.long ((lim.toInt64) + (1 : Int64))), .second, .val (.int va), .unset, .unset, .unset] [(.long (p3.toInt64))])) (fun t k => XS.i2l X0.here hx rfl (hb hby at_24) rfl k) ?_
  refine Goes.pre (U' := s₁.setTop (mkF m 28 #[.val (.int p1), .val (.int p2), .val (.int p3), .val (.int lim), .val (.long ((lim.toInt64) + (1 : Int64))), .second, .val (.int va), .unset, .unset, .unset] [(.long (2147483647 : Int64)), (.long (p3.toInt64))])) (fun t k => X0.ldc2Long hx hown (mvT hZ (hw _ (List.mem_of_getElem? (i := 1) rfl))) (g := (mkF m 25 #[.val (.int p1), .val (.int p2), .val (.int p3), .val (.int lim), .val (.long ((lim.toInt64) + (1 : Int64))), .second, .val (.int va), .unset, .unset, .unset] [(.long (p3.toInt64))])) rfl (hb hby at_25) _ k) ?_
  refine Goes.pre (U' := s₁.setTop (mkF m 29 #[.val (.int p1), .val (.int p2), .val (.int p3), .val (.int lim), .val (.long ((lim.toInt64) + (1 : Int64))), .second, .val (.int va), .unset, .unset, .unset] [(.long ((p3.toInt64) &&& (2147483647 : Int64)))])) (fun t k => XS.land X0.here hx rfl (hb hby at_28) rfl k) ?_
  refine Goes.pre (U' := s₁.setTop (mkF m 30 #[.val (.int p1), .val (.int p2), .val (.int p3), .val (.int lim), .val (.long ((lim.toInt64) + (1 : Int64))), .second, .val (.int va), .unset, .unset, .unset] [(.int lim), (.long ((p3.toInt64) &&& (2147483647 : Int64)))])) (fun t k => XS.iloadN X0.here hx rfl (hb hby at_29) rfl k) ?_
  refine Goes.pre (U' := s₁.setTop (mkF m 32 #[.val (.int p1), .val (.int p2), .val (.int p3), .val (.int lim), .val (.long ((lim.toInt64) + (1 : Int64))), .second, .val (.int va), .unset, .unset, .unset] [(.int va), (.int lim), (.long ((p3.toInt64) &&& (2147483647 : Int64)))])) (fun t k => XS.iload X0.here hx rfl (hb hby at_30) rfl k) ?_
  refine Goes.pre (U' := s₁.setTop (mkF m 33 #[.val (.int p1), .val (.int p2), .val (.int p3), .val (.int lim), .val (.long ((lim.toInt64) + (1 : Int64))), .second, .val (.int va), .unset, .unset, .unset] [(.int (lim - va)), (.long ((p3.toInt64) &&& (2147483647 : Int64)))])) (fun t k => XS.isub X0.here hx rfl (hb hby at_32) rfl k) ?_
  refine Goes.pre (U' := s₁.setTop (mkF m 34 #[.val (.int p1), .val (.int p2), .val (.int p3), .val (.int lim), .val (.long ((lim.toInt64) + (1 : Int64))), .second, .val (.int va), .unset, .unset, .unset] [(.long ((lim - va).toInt64)), (.long ((p3.toInt64) &&& (2147483647 : Int64)))])) (fun t k => XS.i2l X0.here hx rfl (hb hby at_33) rfl k) ?_
  refine Goes.pre (U' := s₁.setTop (mkF m 35 #[.val (.int p1), .val (.int p2), .val (.int p3), .val (.int lim), .val (.long ((lim.toInt64) + (1 : Int64))), .second, .val (.int va), .unset, .unset, .unset] [(.long (1 : Int64)), (.long ((lim - va).toInt64)), (.long ((p3.toInt64) &&& (2147483647 : Int64)))])) (fun t k => XS.lconst X0.here hx rfl (hb hby at_34) k) ?_
  refine Goes.pre (U' := s₁.setTop (mkF m 36 #[.val (.int p1), .val (.int p2), .val (.int p3), .val (.int lim), .val (.long ((lim.toInt64) + (1 : Int64))), .second, .val (.int va), .unset, .unset, .unset] [(.long (((lim - va).toInt64) + (1 : Int64))), (.long ((p3.toInt64) &&& (2147483647 : Int64)))])) (fun t k => XS.ladd X0.here hx rfl (hb hby at_35) rfl k) ?_
  refine Goes.pre (U' := s₁.setTop (mkF m 37 #[.val (.int p1), .val (.int p2), .val (.int p3), .val (.int lim), .val (.long ((lim.toInt64) + (1 : Int64))), .second, .val (.int va), .unset, .unset, .unset] [(.long (((p3.toInt64) &&& (2147483647 : Int64)) - (((p3.toInt64) &&& (2147483647 : Int64)) / (((lim - va).toInt64) + (1 : Int64))) * (((lim - va).toInt64) + (1 : Int64))))])) (fun t k => XS.lrem X0.here hx rfl (hb hby at_36) rfl (own_nz _ hl1) k) ?_
  refine Goes.pre (U' := s₁.setTop (mkF m 38 #[.val (.int p1), .val (.int p2), .val (.int p3), .val (.int lim), .val (.long ((lim.toInt64) + (1 : Int64))), .second, .val (.int va), .unset, .unset, .unset] [(.int ((((p3.toInt64) &&& (2147483647 : Int64)) - (((p3.toInt64) &&& (2147483647 : Int64)) / (((lim - va).toInt64) + (1 : Int64))) * (((lim - va).toInt64) + (1 : Int64))).toInt32))])) (fun t k => XS.l2i X0.here hx rfl (hb hby at_37) rfl k) ?_
  refine Goes.pre (U' := s₁.setTop (mkF m 40 #[.val (.int p1), .val (.int p2), .val (.int p3), .val (.int lim), .val (.long ((lim.toInt64) + (1 : Int64))), .second, .val (.int va), .val (.int ((((p3.toInt64) &&& (2147483647 : Int64)) - (((p3.toInt64) &&& (2147483647 : Int64)) / (((lim - va).toInt64) + (1 : Int64))) * (((lim - va).toInt64) + (1 : Int64))).toInt32)), .unset, .unset] [])) (fun t k => XS.istore X0.here hx rfl (hb hby at_38) rfl (l' := #[.val (.int p1), .val (.int p2), .val (.int p3), .val (.int lim), .val (.long ((lim.toInt64) + (1 : Int64))), .second, .val (.int va), .val (.int ((((p3.toInt64) &&& (2147483647 : Int64)) - (((p3.toInt64) &&& (2147483647 : Int64)) / (((lim - va).toInt64) + (1 : Int64))) * (((lim - va).toInt64) + (1 : Int64))).toInt32)), .unset, .unset]) rfl k) ?_
  have hvb0 := own_a (lim - va) p3 hl1
  obtain ⟨vb, hvb⟩ : ∃ z : Int32, z = ((((p3.toInt64) &&& (2147483647 : Int64)) - (((p3.toInt64) &&& (2147483647 : Int64)) / (((lim - va).toInt64) + (1 : Int64))) * (((lim - va).toInt64) + (1 : Int64))).toInt32) := ⟨_, rfl⟩
  rw [← hvb]
  rw [← hvb] at hvb0
  refine Goes.pre (U' := s₁.setTop (mkF m 41 #[.val (.int p1), .val (.int p2), .val (.int p3), .val (.int lim), .val (.long ((lim.toInt64) + (1 : Int64))), .second, .val (.int va), .val (.int vb), .unset, .unset] [(.int lim)])) (fun t k => XS.iloadN X0.here hx rfl (hb hby at_40) rfl k) ?_
  refine Goes.pre (U' := s₁.setTop (mkF m 43 #[.val (.int p1), .val (.int p2), .val (.int p3), .val (.int lim), .val (.long ((lim.toInt64) + (1 : Int64))), .second, .val (.int va), .val (.int vb), .unset, .unset] [(.int va), (.int lim)])) (fun t k => XS.iload X0.here hx rfl (hb hby at_41) rfl k) ?_
  refine Goes.pre (U' := s₁.setTop (mkF m 44 #[.val (.int p1), .val (.int p2), .val (.int p3), .val (.int lim), .val (.long ((lim.toInt64) + (1 : Int64))), .second, .val (.int va), .val (.int vb), .unset, .unset] [(.int (lim - va))])) (fun t k => XS.isub X0.here hx rfl (hb hby at_43) rfl k) ?_
  refine Goes.pre (U' := s₁.setTop (mkF m 46 #[.val (.int p1), .val (.int p2), .val (.int p3), .val (.int lim), .val (.long ((lim.toInt64) + (1 : Int64))), .second, .val (.int va), .val (.int vb), .unset, .unset] [(.int vb), (.int (lim - va))])) (fun t k => XS.iload X0.here hx rfl (hb hby at_44) rfl k) ?_
  refine Goes.pre (U' := s₁.setTop (mkF m 47 #[.val (.int p1), .val (.int p2), .val (.int p3), .val (.int lim), .val (.long ((lim.toInt64) + (1 : Int64))), .second, .val (.int va), .val (.int vb), .unset, .unset] [(.int ((lim - va) - vb))])) (fun t k => XS.isub X0.here hx rfl (hb hby at_46) rfl k) ?_
  refine Goes.pre (U' := s₁.setTop (mkF m 49 #[.val (.int p1), .val (.int p2), .val (.int p3), .val (.int lim), .val (.long ((lim.toInt64) + (1 : Int64))), .second, .val (.int va), .val (.int vb), .val (.int ((lim - va) - vb)), .unset] [])) (fun t k => XS.istore X0.here hx rfl (hb hby at_47) rfl (l' := #[.val (.int p1), .val (.int p2), .val (.int p3), .val (.int lim), .val (.long ((lim.toInt64) + (1 : Int64))), .second, .val (.int va), .val (.int vb), .val (.int ((lim - va) - vb)), .unset]) rfl k) ?_
  obtain ⟨vc, hvc⟩ : ∃ z : Int32, z = ((lim - va) - vb) := ⟨_, rfl⟩
  rw [← hvc]
  have hvc0 : vc.toInt = lim.toInt - va.toInt - vb.toInt := by
    rw [hvc]
    have q := c_isub (lim - va) vb
    have q2 := rng32 lim
    have q3 := rng32 (lim - va - vb)
    omega
  have hz0 : (0 : Int32).toInt = 0 := rfl
  obtain ⟨T1, h1, X1, e1, E1, A1, D1, -, st1⟩ := newO X0 hx hZ hown (hw _ (List.mem_of_getElem? (i := 2) rfl)) (hw _ (List.mem_of_getElem? (i := 3) rfl)) (hw _ (List.mem_of_getElem? (i := 4) rfl)) e0 (g := (mkF m 49 #[.val (.int p1), .val (.int p2), .val (.int p3), .val (.int lim), .val (.long ((lim.toInt64) + (1 : Int64))), .second, .val (.int va), .val (.int vb), .val (.int vc), .unset] [])) rfl (hb hby at_49) (by decide) (by decide)
  obtain ⟨a, g1⟩ : ∃ z, z = h0.size := ⟨_, rfl⟩
  rw [← g1] at A1 D1 st1
  have g_a : n0 ≤ a := Nat.le_trans Z0 (Nat.le_of_eq g1.symm)
  have Z1 : n0 ≤ h1.size := Nat.le_trans Z0 E1.1
  have E_a := A1
  have F_limit_a : Fld Z h1 a "com/example/bnodiff/bnodiff/engine/Steps" "limit" "I" (.int (0 : Int32)) := D1 (Or.inr (hw _ (List.mem_of_getElem? (i := 12) rfl))) (ty := .int) (by decide)
  have F_taken_a : Fld Z h1 a "com/example/bnodiff/bnodiff/engine/Steps" "taken" "I" (.int (0 : Int32)) := D1 (Or.inl (hw _ (List.mem_of_getElem? (i := 19) rfl))) (ty := .int) (by decide)
  refine Goes.pre (U' := T1.setTop (mkF m 52 #[.val (.int p1), .val (.int p2), .val (.int p3), .val (.int lim), .val (.long ((lim.toInt64) + (1 : Int64))), .second, .val (.int va), .val (.int vb), .val (.int vc), .unset] [(.ref a)])) (fun t k => st1 t k) ?_
  refine Goes.pre (U' := T1.setTop (mkF m 53 #[.val (.int p1), .val (.int p2), .val (.int p3), .val (.int lim), .val (.long ((lim.toInt64) + (1 : Int64))), .second, .val (.int va), .val (.int vb), .val (.int vc), .unset] [(.ref a), (.ref a)])) (fun t k => XS.dup X1.here hx rfl (hb hby at_52) rfl rfl k) ?_
  refine Goes.pre (U' := T1.setTop (mkF m 54 #[.val (.int p1), .val (.int p2), .val (.int p3), .val (.int lim), .val (.long ((lim.toInt64) + (1 : Int64))), .second, .val (.int va), .val (.int vb), .val (.int vc), .unset] [(.int lim), (.ref a), (.ref a)])) (fun t k => XS.iloadN X1.here hx rfl (hb hby at_53) rfl k) ?_
  obtain ⟨_, _, ⟨T2, L2, k2, n2⟩, -, X2, ⟨Lc2, hQ2, l2, y2, z2⟩, st2⟩ := X1.specialBack hx (y := (⟨"com/example/bnodiff/bnodiff/engine/Steps", "<init>", "(I)V"⟩ : MethodName)) rfl hown (mvT hZ (hw _ (List.mem_of_getElem? (i := 5) rfl))) (mvT hZ (hw _ (List.mem_of_getElem? (i := 6) rfl))) (mvT hZ (hw _ (List.mem_of_getElem? (i := 7) rfl))) (by decide) (backOf (W := 1) (rm_init l Z a0 hw [] a lim h1 n0 Z1 E_a F_limit_a F_taken_a g_a) hZ (hw _ (List.mem_of_getElem? (i := 7) rfl)) (hw _ (List.mem_of_getElem? (i := 4) rfl)) (by decide) (by decide)) (g := (mkF m 54 #[.val (.int p1), .val (.int p2), .val (.int p3), .val (.int lim), .val (.long ((lim.toInt64) + (1 : Int64))), .second, .val (.int va), .val (.int vb), .val (.int vc), .unset] [(.int lim), (.ref a), (.ref a)])) rfl (by rw [hml]; rfl) (Steps.refl _) (a := a) (argsL := [(.int lim)]) (rest := [(.ref a)]) (lenOf pd__28I_29V rfl) rfl (by show 2 * 0 + _ ≤ _; exact Nat.le_of_eq rfl) (hb hby at_54) (fun _ _ => ⟨rfl, e1, (by decide : 1 + 0 ≤ _), (by decide : 2 + 0 ≤ _)⟩)
  dsimp only [Pt.U, Pt.locs, Pt.cells, Pt.slots] at X2 l2 y2 z2 st2 hQ2
  subst l2 y2 z2
  obtain ⟨rfl, N2q, KQ2, fl2, ft2⟩ := hQ2
  have N2 := Fr.app N0 N2q
  have E_a := E_a.keep KQ2
  have Z3 : n0 ≤ T2.heap.size := Nat.le_trans Z1 KQ2.1
  have F_limit_a := fl2
  have F_taken_a := ft2
  refine Goes.pre (U' := T2.setTop (mkF m 57 #[.val (.int p1), .val (.int p2), .val (.int p3), .val (.int lim), .val (.long ((lim.toInt64) + (1 : Int64))), .second, .val (.int va), .val (.int vb), .val (.int vc), .unset] [(.ref a)])) (fun t k => st2.trans k) ?_
  refine Goes.pre (U' := T2.setTop (mkF m 59 #[.val (.int p1), .val (.int p2), .val (.int p3), .val (.int lim), .val (.long ((lim.toInt64) + (1 : Int64))), .second, .val (.int va), .val (.int vb), .val (.int vc), .val (.ref a)] [])) (fun t k => XS.astore X2.here hx rfl (hb hby at_57) rfl rfl (l' := #[.val (.int p1), .val (.int p2), .val (.int p3), .val (.int lim), .val (.long ((lim.toInt64) + (1 : Int64))), .second, .val (.int va), .val (.int vb), .val (.int vc), .val (.ref a)]) rfl k) ?_
  refine Goes.pre (U' := T2.setTop (mkF m 61 #[.val (.int p1), .val (.int p2), .val (.int p3), .val (.int lim), .val (.long ((lim.toInt64) + (1 : Int64))), .second, .val (.int va), .val (.int vb), .val (.int vc), .val (.ref a)] [(.ref a)])) (fun t k => XS.aload X2.here hx rfl (hb hby at_59) rfl rfl k) ?_
  refine Goes.pre (U' := T2.setTop (mkF m 62 #[.val (.int p1), .val (.int p2), .val (.int p3), .val (.int lim), .val (.long ((lim.toInt64) + (1 : Int64))), .second, .val (.int va), .val (.int vb), .val (.int vc), .val (.ref a)] [(.int (0 : Int32)), (.ref a)])) (fun t k => XS.iconst X2.here hx rfl (hb hby at_61) k) ?_
  have ok1 := own_ok lim (0 : Int32) (0 : Int32) (by first | decide | (rw [hz0]; omega)) (by first | decide | omega) (by first | omega | (rw [hz0]; omega))
  obtain ⟨cq4, kq4, q4a, q4b, q4c⟩ := isOf hZ rfl E_a
  obtain ⟨_, _, ⟨T4, L4, k4, n4⟩, -, X4, ⟨Lc4, hQ4, l4, y4, z4⟩, st4⟩ := X2.virtualBack hx (y := (⟨"com/example/bnodiff/bnodiff/engine/Steps", "take", "(I)V"⟩ : MethodName)) (z := (⟨"com/example/bnodiff/bnodiff/engine/Steps", "take", "(I)V"⟩ : MethodName)) hown (mvT hZ (hw _ (List.mem_of_getElem? (i := 13) rfl))) (mvT hZ (hw _ (List.mem_of_getElem? (i := 14) rfl))) (notFace_of_selects (args := #[]) (mvT hZ (hw _ (List.mem_of_getElem? (i := 16) rfl)))) (mvT hZ (hw _ (List.mem_of_getElem? (i := 16) rfl))) (mvT hZ (hw _ (List.mem_of_getElem? (i := 15) rfl))) (by decide) (backOf (W := 0) (rm_take l Z a0 hw [] a (0 : Int32) lim (0 : Int32) T2.heap n0 Z3 E_a F_limit_a F_taken_a g_a ok1.1) hZ (hw _ (List.mem_of_getElem? (i := 17) rfl)) (hw _ (List.mem_of_getElem? (i := 4) rfl)) (by decide) (by decide)) q4a q4c (g := (mkF m 62 #[.val (.int p1), .val (.int p2), .val (.int p3), .val (.int lim), .val (.long ((lim.toInt64) + (1 : Int64))), .second, .val (.int va), .val (.int vb), .val (.int vc), .val (.ref a)] [(.int (0 : Int32)), (.ref a)])) rfl (by rw [hml]; rfl) (Steps.refl _) (argsL := [(.int (0 : Int32))]) (rest := []) (lenOf pd__28I_29V rfl) rfl (by show 2 * 0 + _ ≤ _; exact Nat.le_of_eq rfl) (hb hby at_62) (fun _ _ => ⟨rfl, rfl, (by decide : 1 + 0 ≤ _), (by decide : 2 + 0 ≤ _)⟩)
  dsimp only [Pt.U, Pt.locs, Pt.cells, Pt.slots] at X4 l4 y4 z4 st4 hQ4
  subst l4 y4 z4
  obtain ⟨rfl, N4q, KQ4, fl4, ft4⟩ := hQ4
  have N4 := Fr.app N2 N4q
  have E_a := E_a.keep KQ4
  have Z5 : n0 ≤ T4.heap.size := Nat.le_trans Z3 KQ4.1
  have F_limit_a := fl4
  have F_taken_a := ft4
  refine Goes.pre (U' := T4.setTop (mkF m 65 #[.val (.int p1), .val (.int p2), .val (.int p3), .val (.int lim), .val (.long ((lim.toInt64) + (1 : Int64))), .second, .val (.int va), .val (.int vb), .val (.int vc), .val (.ref a)] [])) (fun t k => st4.trans k) ?_
  refine Goes.pre (U' := T4.setTop (mkF m 67 #[.val (.int p1), .val (.int p2), .val (.int p3), .val (.int lim), .val (.long ((lim.toInt64) + (1 : Int64))), .second, .val (.int va), .val (.int vb), .val (.int vc), .val (.ref a)] [(.ref a)])) (fun t k => XS.aload X4.here hx rfl (hb hby at_65) rfl rfl k) ?_
  refine Goes.pre (U' := T4.setTop (mkF m 69 #[.val (.int p1), .val (.int p2), .val (.int p3), .val (.int lim), .val (.long ((lim.toInt64) + (1 : Int64))), .second, .val (.int va), .val (.int vb), .val (.int vc), .val (.ref a)] [(.int va), (.ref a)])) (fun t k => XS.iload X4.here hx rfl (hb hby at_67) rfl k) ?_
  have ok2 := own_ok lim ((0 : Int32) + (0 : Int32)) va (by first | decide | (rw [ok1.2]; omega)) (by first | decide | omega) (by first | omega | (rw [ok1.2]; omega))
  obtain ⟨cq6, kq6, q6a, q6b, q6c⟩ := isOf hZ rfl E_a
  obtain ⟨_, _, ⟨T6, L6, k6, n6⟩, -, X6, ⟨Lc6, hQ6, l6, y6, z6⟩, st6⟩ := X4.virtualBack hx (y := (⟨"com/example/bnodiff/bnodiff/engine/Steps", "take", "(I)V"⟩ : MethodName)) (z := (⟨"com/example/bnodiff/bnodiff/engine/Steps", "take", "(I)V"⟩ : MethodName)) hown (mvT hZ (hw _ (List.mem_of_getElem? (i := 13) rfl))) (mvT hZ (hw _ (List.mem_of_getElem? (i := 14) rfl))) (notFace_of_selects (args := #[]) (mvT hZ (hw _ (List.mem_of_getElem? (i := 16) rfl)))) (mvT hZ (hw _ (List.mem_of_getElem? (i := 16) rfl))) (mvT hZ (hw _ (List.mem_of_getElem? (i := 15) rfl))) (by decide) (backOf (W := 0) (rm_take l Z a0 hw [] a va lim ((0 : Int32) + (0 : Int32)) T4.heap n0 Z5 E_a F_limit_a F_taken_a g_a ok2.1) hZ (hw _ (List.mem_of_getElem? (i := 17) rfl)) (hw _ (List.mem_of_getElem? (i := 4) rfl)) (by decide) (by decide)) q6a q6c (g := (mkF m 69 #[.val (.int p1), .val (.int p2), .val (.int p3), .val (.int lim), .val (.long ((lim.toInt64) + (1 : Int64))), .second, .val (.int va), .val (.int vb), .val (.int vc), .val (.ref a)] [(.int va), (.ref a)])) rfl (by rw [hml]; rfl) (Steps.refl _) (argsL := [(.int va)]) (rest := []) (lenOf pd__28I_29V rfl) rfl (by show 2 * 0 + _ ≤ _; exact Nat.le_of_eq rfl) (hb hby at_69) (fun _ _ => ⟨rfl, rfl, (by decide : 1 + 0 ≤ _), (by decide : 2 + 0 ≤ _)⟩)
  dsimp only [Pt.U, Pt.locs, Pt.cells, Pt.slots] at X6 l6 y6 z6 st6 hQ6
  subst l6 y6 z6
  obtain ⟨rfl, N6q, KQ6, fl6, ft6⟩ := hQ6
  have N6 := Fr.app N4 N6q
  have E_a := E_a.keep KQ6
  have Z7 : n0 ≤ T6.heap.size := Nat.le_trans Z5 KQ6.1
  have F_limit_a := fl6
  have F_taken_a := ft6
  refine Goes.pre (U' := T6.setTop (mkF m 72 #[.val (.int p1), .val (.int p2), .val (.int p3), .val (.int lim), .val (.long ((lim.toInt64) + (1 : Int64))), .second, .val (.int va), .val (.int vb), .val (.int vc), .val (.ref a)] [])) (fun t k => st6.trans k) ?_
  refine Goes.pre (U' := T6.setTop (mkF m 74 #[.val (.int p1), .val (.int p2), .val (.int p3), .val (.int lim), .val (.long ((lim.toInt64) + (1 : Int64))), .second, .val (.int va), .val (.int vb), .val (.int vc), .val (.ref a)] [(.ref a)])) (fun t k => XS.aload X6.here hx rfl (hb hby at_72) rfl rfl k) ?_
  refine Goes.pre (U' := T6.setTop (mkF m 76 #[.val (.int p1), .val (.int p2), .val (.int p3), .val (.int lim), .val (.long ((lim.toInt64) + (1 : Int64))), .second, .val (.int va), .val (.int vb), .val (.int vc), .val (.ref a)] [(.int vb), (.ref a)])) (fun t k => XS.iload X6.here hx rfl (hb hby at_74) rfl k) ?_
  have ok3 := own_ok lim (((0 : Int32) + (0 : Int32)) + va) vb (by first | decide | (rw [ok2.2]; omega)) (by first | decide | omega) (by first | omega | (rw [ok2.2]; omega))
  obtain ⟨cq8, kq8, q8a, q8b, q8c⟩ := isOf hZ rfl E_a
  obtain ⟨_, _, ⟨T8, L8, k8, n8⟩, -, X8, ⟨Lc8, hQ8, l8, y8, z8⟩, st8⟩ := X6.virtualBack hx (y := (⟨"com/example/bnodiff/bnodiff/engine/Steps", "take", "(I)V"⟩ : MethodName)) (z := (⟨"com/example/bnodiff/bnodiff/engine/Steps", "take", "(I)V"⟩ : MethodName)) hown (mvT hZ (hw _ (List.mem_of_getElem? (i := 13) rfl))) (mvT hZ (hw _ (List.mem_of_getElem? (i := 14) rfl))) (notFace_of_selects (args := #[]) (mvT hZ (hw _ (List.mem_of_getElem? (i := 16) rfl)))) (mvT hZ (hw _ (List.mem_of_getElem? (i := 16) rfl))) (mvT hZ (hw _ (List.mem_of_getElem? (i := 15) rfl))) (by decide) (backOf (W := 0) (rm_take l Z a0 hw [] a vb lim (((0 : Int32) + (0 : Int32)) + va) T6.heap n0 Z7 E_a F_limit_a F_taken_a g_a ok3.1) hZ (hw _ (List.mem_of_getElem? (i := 17) rfl)) (hw _ (List.mem_of_getElem? (i := 4) rfl)) (by decide) (by decide)) q8a q8c (g := (mkF m 76 #[.val (.int p1), .val (.int p2), .val (.int p3), .val (.int lim), .val (.long ((lim.toInt64) + (1 : Int64))), .second, .val (.int va), .val (.int vb), .val (.int vc), .val (.ref a)] [(.int vb), (.ref a)])) rfl (by rw [hml]; rfl) (Steps.refl _) (argsL := [(.int vb)]) (rest := []) (lenOf pd__28I_29V rfl) rfl (by show 2 * 0 + _ ≤ _; exact Nat.le_of_eq rfl) (hb hby at_76) (fun _ _ => ⟨rfl, rfl, (by decide : 1 + 0 ≤ _), (by decide : 2 + 0 ≤ _)⟩)
  dsimp only [Pt.U, Pt.locs, Pt.cells, Pt.slots] at X8 l8 y8 z8 st8 hQ8
  subst l8 y8 z8
  obtain ⟨rfl, N8q, KQ8, fl8, ft8⟩ := hQ8
  have N8 := Fr.app N6 N8q
  have E_a := E_a.keep KQ8
  have Z9 : n0 ≤ T8.heap.size := Nat.le_trans Z7 KQ8.1
  have F_limit_a := fl8
  have F_taken_a := ft8
  refine Goes.pre (U' := T8.setTop (mkF m 79 #[.val (.int p1), .val (.int p2), .val (.int p3), .val (.int lim), .val (.long ((lim.toInt64) + (1 : Int64))), .second, .val (.int va), .val (.int vb), .val (.int vc), .val (.ref a)] [])) (fun t k => st8.trans k) ?_
  refine Goes.pre (U' := T8.setTop (mkF m 81 #[.val (.int p1), .val (.int p2), .val (.int p3), .val (.int lim), .val (.long ((lim.toInt64) + (1 : Int64))), .second, .val (.int va), .val (.int vb), .val (.int vc), .val (.ref a)] [(.ref a)])) (fun t k => XS.aload X8.here hx rfl (hb hby at_79) rfl rfl k) ?_
  refine Goes.pre (U' := T8.setTop (mkF m 83 #[.val (.int p1), .val (.int p2), .val (.int p3), .val (.int lim), .val (.long ((lim.toInt64) + (1 : Int64))), .second, .val (.int va), .val (.int vb), .val (.int vc), .val (.ref a)] [(.int vc), (.ref a)])) (fun t k => XS.iload X8.here hx rfl (hb hby at_81) rfl k) ?_
  have ok4 := own_ok lim ((((0 : Int32) + (0 : Int32)) + va) + vb) vc (by first | decide | (rw [ok3.2]; omega)) (by first | decide | omega) (by first | omega | (rw [ok3.2]; omega))
  obtain ⟨cq10, kq10, q10a, q10b, q10c⟩ := isOf hZ rfl E_a
  obtain ⟨_, _, ⟨T10, L10, k10, n10⟩, -, X10, ⟨Lc10, hQ10, l10, y10, z10⟩, st10⟩ := X8.virtualBack hx (y := (⟨"com/example/bnodiff/bnodiff/engine/Steps", "take", "(I)V"⟩ : MethodName)) (z := (⟨"com/example/bnodiff/bnodiff/engine/Steps", "take", "(I)V"⟩ : MethodName)) hown (mvT hZ (hw _ (List.mem_of_getElem? (i := 13) rfl))) (mvT hZ (hw _ (List.mem_of_getElem? (i := 14) rfl))) (notFace_of_selects (args := #[]) (mvT hZ (hw _ (List.mem_of_getElem? (i := 16) rfl)))) (mvT hZ (hw _ (List.mem_of_getElem? (i := 16) rfl))) (mvT hZ (hw _ (List.mem_of_getElem? (i := 15) rfl))) (by decide) (backOf (W := 0) (rm_take l Z a0 hw [] a vc lim ((((0 : Int32) + (0 : Int32)) + va) + vb) T8.heap n0 Z9 E_a F_limit_a F_taken_a g_a ok4.1) hZ (hw _ (List.mem_of_getElem? (i := 17) rfl)) (hw _ (List.mem_of_getElem? (i := 4) rfl)) (by decide) (by decide)) q10a q10c (g := (mkF m 83 #[.val (.int p1), .val (.int p2), .val (.int p3), .val (.int lim), .val (.long ((lim.toInt64) + (1 : Int64))), .second, .val (.int va), .val (.int vb), .val (.int vc), .val (.ref a)] [(.int vc), (.ref a)])) rfl (by rw [hml]; rfl) (Steps.refl _) (argsL := [(.int vc)]) (rest := []) (lenOf pd__28I_29V rfl) rfl (by show 2 * 0 + _ ≤ _; exact Nat.le_of_eq rfl) (hb hby at_83) (fun _ _ => ⟨rfl, rfl, (by decide : 1 + 0 ≤ _), (by decide : 2 + 0 ≤ _)⟩)
  dsimp only [Pt.U, Pt.locs, Pt.cells, Pt.slots] at X10 l10 y10 z10 st10 hQ10
  subst l10 y10 z10
  obtain ⟨rfl, N10q, KQ10, fl10, ft10⟩ := hQ10
  have N10 := Fr.app N8 N10q
  have E_a := E_a.keep KQ10
  have Z11 : n0 ≤ T10.heap.size := Nat.le_trans Z9 KQ10.1
  have F_limit_a := fl10
  have F_taken_a := ft10
  refine Goes.pre (U' := T10.setTop (mkF m 86 #[.val (.int p1), .val (.int p2), .val (.int p3), .val (.int lim), .val (.long ((lim.toInt64) + (1 : Int64))), .second, .val (.int va), .val (.int vb), .val (.int vc), .val (.ref a)] [])) (fun t k => st10.trans k) ?_
  refine Goes.pre (U' := T10.setTop (mkF m 88 #[.val (.int p1), .val (.int p2), .val (.int p3), .val (.int lim), .val (.long ((lim.toInt64) + (1 : Int64))), .second, .val (.int va), .val (.int vb), .val (.int vc), .val (.ref a)] [(.ref a)])) (fun t k => XS.aload X10.here hx rfl (hb hby at_86) rfl rfl k) ?_
  refine Goes.pre (U' := T10.setTop (mkF m 89 #[.val (.int p1), .val (.int p2), .val (.int p3), .val (.int lim), .val (.long ((lim.toInt64) + (1 : Int64))), .second, .val (.int va), .val (.int vb), .val (.int vc), .val (.ref a)] [(.int (0 : Int32)), (.ref a)])) (fun t k => XS.iconst X10.here hx rfl (hb hby at_88) k) ?_
  have ok5 := own_ok lim (((((0 : Int32) + (0 : Int32)) + va) + vb) + vc) (0 : Int32) (by first | decide | (rw [ok4.2]; omega)) (by first | decide | omega) (by first | omega | (rw [ok4.2]; omega))
  obtain ⟨cq12, kq12, q12a, q12b, q12c⟩ := isOf hZ rfl E_a
  obtain ⟨_, _, ⟨T12, L12, k12, n12⟩, -, X12, ⟨Lc12, hQ12, l12, y12, z12⟩, st12⟩ := X10.virtualBack hx (y := (⟨"com/example/bnodiff/bnodiff/engine/Steps", "take", "(I)V"⟩ : MethodName)) (z := (⟨"com/example/bnodiff/bnodiff/engine/Steps", "take", "(I)V"⟩ : MethodName)) hown (mvT hZ (hw _ (List.mem_of_getElem? (i := 13) rfl))) (mvT hZ (hw _ (List.mem_of_getElem? (i := 14) rfl))) (notFace_of_selects (args := #[]) (mvT hZ (hw _ (List.mem_of_getElem? (i := 16) rfl)))) (mvT hZ (hw _ (List.mem_of_getElem? (i := 16) rfl))) (mvT hZ (hw _ (List.mem_of_getElem? (i := 15) rfl))) (by decide) (backOf (W := 0) (rm_take l Z a0 hw [] a (0 : Int32) lim (((((0 : Int32) + (0 : Int32)) + va) + vb) + vc) T10.heap n0 Z11 E_a F_limit_a F_taken_a g_a ok5.1) hZ (hw _ (List.mem_of_getElem? (i := 17) rfl)) (hw _ (List.mem_of_getElem? (i := 4) rfl)) (by decide) (by decide)) q12a q12c (g := (mkF m 89 #[.val (.int p1), .val (.int p2), .val (.int p3), .val (.int lim), .val (.long ((lim.toInt64) + (1 : Int64))), .second, .val (.int va), .val (.int vb), .val (.int vc), .val (.ref a)] [(.int (0 : Int32)), (.ref a)])) rfl (by rw [hml]; rfl) (Steps.refl _) (argsL := [(.int (0 : Int32))]) (rest := []) (lenOf pd__28I_29V rfl) rfl (by show 2 * 0 + _ ≤ _; exact Nat.le_of_eq rfl) (hb hby at_89) (fun _ _ => ⟨rfl, rfl, (by decide : 1 + 0 ≤ _), (by decide : 2 + 0 ≤ _)⟩)
  dsimp only [Pt.U, Pt.locs, Pt.cells, Pt.slots] at X12 l12 y12 z12 st12 hQ12
  subst l12 y12 z12
  obtain ⟨rfl, N12q, KQ12, fl12, ft12⟩ := hQ12
  have N12 := Fr.app N10 N12q
  have E_a := E_a.keep KQ12
  have Z13 : n0 ≤ T12.heap.size := Nat.le_trans Z11 KQ12.1
  have F_limit_a := fl12
  have F_taken_a := ft12
  refine Goes.pre (U' := T12.setTop (mkF m 92 #[.val (.int p1), .val (.int p2), .val (.int p3), .val (.int lim), .val (.long ((lim.toInt64) + (1 : Int64))), .second, .val (.int va), .val (.int vb), .val (.int vc), .val (.ref a)] [])) (fun t k => st12.trans k) ?_
  refine Goes.pre (U' := T12.setTop (mkF m 93 #[.val (.int p1), .val (.int p2), .val (.int p3), .val (.int lim), .val (.long ((lim.toInt64) + (1 : Int64))), .second, .val (.int va), .val (.int vb), .val (.int vc), .val (.ref a)] [(.int (1 : Int32))])) (fun t k => XS.iconst X12.here hx rfl (hb hby at_92) k) ?_
  refine Goes.ret X12 (v := (some (.int (1 : Int32)))) (fun h => by rw [Bd.returns] at h; cases h) Bd.notSynchronized (by decide) (by decide) rfl (fun fs hr => retN X12 hx (t := .boolean) Bd.returns (by simp) (hb hby at_93) hr) ?_
  exact ⟨rfl, N12⟩
set_option maxRecDepth 65536 in
set_option maxHeartbeats 40000000 in
theorem comes_1 {Post : Tables → Env → Array Value → State → Outcome → State → Prop} (hpost : ∀ tb e args s v u, (limb_1_1.after args s (.returned v) u = true ∧ limb_1_2.after args s (.returned v) u = true ∧ True) → FrameEnd s (.returned v) u (Jvm.fieldLocs frame_1_writes args s ++ Jvm.arrayLocs frame_1_arrays args s ++ Jvm.staticLocs frame_1_statics s) 16 128 → Post tb e args s (.returned v) u) :
    ArmFor flags0 classFile x code maxLocals ret World_1 tables_1 room_1 Calls_1 rest_1 Pre_1 Post := by
  intro l hfl _ _ p e ha hc hk s m args below hf hA hF happ hP
  obtain ⟨hcalls, hrest, hpre⟩ := hP
  obtain ⟨-, -, -, hnamed, -, -, -, hat⟩ := (Spec.applies_iff hf).mp happ
  obtain ⟨hg, hn⟩ := and_e (Cond.before_iff.mp (show (Jvm.Cond.and given_1 narrow_1).before args s = true from hpre))
  obtain ⟨g1, g2⟩ := and_e hg
  obtain ⟨g3, g4⟩ := and_e g2
  obtain ⟨g5, g6⟩ := and_e g4
  obtain ⟨w0, w1, w2, rfl⟩ : ∃ w0 w1 w2 : Value, args = #[w0, w1, w2] := by
    have hs : args.size = 3 := by simpa [Cond.value, given_1] using g1
    obtain ⟨L⟩ := args
    match L, hs with
    | [w0, w1, w2], _ => exact ⟨w0, w1, w2, rfl⟩
  have hw := fun d (hd : d ∈ tables_1) => atoms_spec (ws := Jvm.Cond.code x code maxLocals ret :: tables_1) hat d (List.mem_cons_of_mem _ hd)
  have hfit : Fit s := fun {y c} hc i hi => by
    obtain ⟨ha, rfl⟩ := Array.getElem?_eq_some_iff.mp hc
    have q := List.all_eq_true.mp ((Array.all_eq_true_iff_forall_mem.mp hF) _ (Array.getElem_mem ha)) i (List.mem_range.mpr hi)
    simpa [Array.getElem?_eq_getElem hi] using q
  obtain ⟨i0, ei0⟩ := is_v g3
  obtain rfl : w0 = (.int i0) := Option.some.inj ei0
  obtain ⟨i1, ei1⟩ := is_v g5
  obtain rfl : w1 = (.int i1) := Option.some.inj ei1
  obtain ⟨i2, ei2⟩ := is_v g6
  obtain rfl : w2 = (.int i2) := Option.some.inj ei2
  obtain ⟨n, o, h1, h2, h3, _, L, rfl, ⟨rfl, N⟩, hq⟩ := rm0 l s _ hw tables_1 i0 i1 i2 s.heap s.heap.size (Nat.le_refl _) p e ha hc hk s m _ below hf ((Spec.applies_iff_loose hf).mp happ).1 ⟨rfl, State.Warmed39.refl s, rfl⟩ trivial
  refine ⟨n, _, h1, h2, h3, hpost _ _ _ _ _ _ ⟨Cond.after_iff.mpr rfl, Cond.after_iff.mpr (eq_i res_at (Term.int_eval (1)) rfl), trivial⟩ ⟨hq.1, hq.2.1, (hq.2.2.sift fun y hy => Or.inr (N y hy)).mono (by decide) (by decide)⟩⟩
theorem main_1_1 : Claimed_1_1 := comes_1 fun _ _ _ _ _ _ h hF => ⟨h.1, hF⟩
theorem main_1_2 : Claimed_1_2 := comes_1 fun _ _ _ _ _ _ h hF => ⟨h.2.1, hF⟩
end Jvm.Pilot.@@N@@
namespace Jvm.Pilot.@@N@@
open Jvm Jvm.ClassFile Sem Op Lib Jvm.Free Jvm.Stand Jvm.Pilot.@@N@@.Jvm.D
/-! MADE BY PROGRAM (witnessworld.py) out of the Statement's table words and the real class files: 9 classes; the members and pool entries that the words name. The judged class is class 1, her method 1. -/
namespace start1
open Jvm.ClassFile
def u (s : String) : CpInfo := .utf8 (stringToUtf16 s)
/-- a pool by its gaps: so many unusable entries, then the entry; so many at the end -/
def gap : Nat → List CpInfo → List CpInfo
  | 0, r => r
  | n + 1, r => .unusable :: gap n r
def poolList (es : List (Nat × CpInfo)) (last : Nat) : List CpInfo := es.foldr (fun e r => gap e.1 (e.2 :: r)) (gap last [])
def pool (es : List (Nat × CpInfo)) (last : Nat) : Array CpInfo := ⟨poolList es last⟩
def fileOf (pool : Array CpInfo) (this : Nat) (attrs : Array Attribute := #[]) (ms : Array MethodInfo := #[]) (fl : Nat := 33) (sup : Nat := 0) (ifs : Array Nat := #[]) (fds : Array FieldInfo := #[]) : ClassFile where
  minorVersion := 0
  majorVersion := 65
  constantPool := pool
  accessFlags := fl
  thisClass := this
  superClass := sup
  interfaces := ifs
  fields := fds
  methods := ms
  attributes := attrs
def plain (name : String) (sup : Option ClassId) : Class where
  name := name
  kind := .ordinary
  loader := none
  accessFlags := 33
  super := sup
  interfaces := #[]
  cf := none
  fields := #[]
  methods := #[]
  instanceTypes := #[]
  staticTypes := #[]
  resolved := #[]
  callSites := []
  init := .initialized
  statics := none
  mirror := none

def pool0 : Array CpInfo := pool [(5, u "<init>"), (0, u "()V"), (1, .class_ 10), (1, u "java/lang/Object")] 113

def k0c0 : Code := { maxStack := 0, maxLocals := 1, code := object_method_1_code, exceptionTable := #[], attributes := #[] }
def k0m0 : Method := { name := "<init>", desc := "()V", sig := { parameters := [], returnType := none }, accessFlags := 1, code := some k0c0 }
/-- java/lang/Object -/
def k0 : Class := { plain "java/lang/Object" none with
  accessFlags := 33
  interfaces := #[]
  cf := some (fileOf pool0 8 #[] #[{ accessFlags := 1, nameIndex := 5, descriptorIndex := 6, attributes := #[] }] 33 0 #[] #[])
  fields := #[]
  methods := #[k0m0]
  instanceTypes := #[]
  staticTypes := #[]
  resolved := Array.replicate 124 none
  statics := none }

def pool1 : Array CpInfo := pool [(2, .class_ 4), (1, u "java/lang/Object"), (0, u "<init>"), (0, u "()V"), (0, .integer 2147483647), (0, .long 2147483647), (1, .class_ 11), (0, u "com/example/bnodiff/bnodiff/engine/Steps"), (0, .methodref 10 13), (0, .nameAndType 5 14), (0, u "(I)V"), (0, .methodref 10 16), (0, .nameAndType 17 14), (0, u "take"), (0, .class_ 19), (0, u "com/example/bnodiff/bnodiff/engine/StepsTakePinLaw"), (2, u "law"), (0, u "(III)Z")] 2

def k1m0 : Method := { name := "<init>", desc := "()V", sig := { parameters := [], returnType := none }, accessFlags := 1, code := none }
def k1c1 : Code := { maxStack := 6, maxLocals := 10, code := code, exceptionTable := #[], attributes := #[] }
def k1m1 : Method := { name := "law", desc := "(III)Z", sig := { parameters := [.int, .int, .int], returnType := some .boolean }, accessFlags := 9, code := some k1c1 }
/-- com/example/bnodiff/bnodiff/engine/StepsTakePinLaw -/
def k1 : Class := { plain "com/example/bnodiff/bnodiff/engine/StepsTakePinLaw" (some 0) with
  accessFlags := 49
  interfaces := #[]
  cf := some (fileOf pool1 18 #[] #[{ accessFlags := 1, nameIndex := 5, descriptorIndex := 6, attributes := #[] }, { accessFlags := 9, nameIndex := 22, descriptorIndex := 23, attributes := #[] }] 49 2 #[] #[])
  fields := #[]
  methods := #[k1m0, k1m1]
  instanceTypes := #[]
  staticTypes := #[]
  resolved := Array.replicate 26 none
  statics := none }

def pool2 : Array CpInfo := pool [(1, .methodref 2 3), (0, .class_ 4), (0, .nameAndType 5 6), (0, u "java/lang/Object"), (0, u "<init>"), (0, u "()V"), (0, .fieldref 8 9), (0, .class_ 10), (0, .nameAndType 11 12), (0, u "com/example/bnodiff/bnodiff/engine/Steps"), (0, u "limit"), (0, u "I"), (0, .fieldref 8 14), (0, .nameAndType 15 12), (0, u "taken"), (4, u "(I)V"), (2, u "take")] 3

def k2c0 : Code := { maxStack := 2, maxLocals := 2, code := prog_36_method_1_code, exceptionTable := #[], attributes := #[] }
def k2m0 : Method := { name := "<init>", desc := "(I)V", sig := { parameters := [.int], returnType := none }, accessFlags := 0, code := some k2c0 }
def k2c1 : Code := { maxStack := 3, maxLocals := 2, code := prog_36_method_2_code, exceptionTable := #[], attributes := #[] }
def k2m1 : Method := { name := "take", desc := "(I)V", sig := { parameters := [.int], returnType := none }, accessFlags := 0, code := some k2c1 }
/-- com/example/bnodiff/bnodiff/engine/Steps -/
def k2 : Class := { plain "com/example/bnodiff/bnodiff/engine/Steps" (some 0) with
  accessFlags := 48
  interfaces := #[]
  cf := some (fileOf pool2 8 #[] #[{ accessFlags := 0, nameIndex := 5, descriptorIndex := 20, attributes := #[] }, { accessFlags := 0, nameIndex := 23, descriptorIndex := 20, attributes := #[] }] 48 2 #[] #[{ accessFlags := 18, nameIndex := 11, descriptorIndex := 12, attributes := #[] }, { accessFlags := 2, nameIndex := 15, descriptorIndex := 12, attributes := #[] }])
  fields := #[{ name := "limit", type := .int, accessFlags := 18, slot := 0, constantValue := 0 }, { name := "taken", type := .int, accessFlags := 2, slot := 1, constantValue := 0 }]
  methods := #[k2m0, k2m1]
  instanceTypes := #[.int, .int]
  staticTypes := #[]
  resolved := Array.replicate 27 none
  statics := none }

def pool3 : Array CpInfo := pool [(1, u "java/lang/Cloneable"), (0, .class_ 1), (0, u "java/lang/Object"), (0, .class_ 3)] 3

/-- java/lang/Cloneable -/
def k3 : Class := { plain "java/lang/Cloneable" (some 0) with
  accessFlags := 1537
  interfaces := #[]
  cf := some (fileOf pool3 2 #[] #[] 1537 4 #[] #[])
  fields := #[]
  methods := #[]
  instanceTypes := #[]
  staticTypes := #[]
  resolved := Array.replicate 8 none
  statics := none }

def pool4 : Array CpInfo := pool [(1, u "java/io/Serializable"), (0, .class_ 1), (0, u "java/lang/Object"), (0, .class_ 3)] 3

/-- java/io/Serializable -/
def k4 : Class := { plain "java/io/Serializable" (some 0) with
  accessFlags := 1537
  interfaces := #[]
  cf := some (fileOf pool4 2 #[] #[] 1537 4 #[] #[])
  fields := #[]
  methods := #[]
  instanceTypes := #[]
  staticTypes := #[]
  resolved := Array.replicate 8 none
  statics := none }

/-- the primitive byte -/
def k5 : Class := { plain "byte" none with kind := .primitive 'B', accessFlags := 0x411 }
/-- [B -/
def k6 : Class := { plain "[B" (some 0) with kind := .array 5 .byte, interfaces := #[3, 4], accessFlags := 1041 }

/-- the primitive int -/
def k7 : Class := { plain "int" none with kind := .primitive 'I', accessFlags := 0x411 }
/-- [I -/
def k8 : Class := { plain "[I" (some 0) with kind := .array 7 .int, interfaces := #[3, 4], accessFlags := 1041 }

def heap : Heap := #[]
def classes : Array Class := #[k0, k1, k2, k3, k4, k5, k6, k7, k8]
def interned : List (Array UInt16 × Addr) := []
def slotsUsed : Nat := 0
def theMethod : MethodId := ⟨1, 1⟩
def args0 : Array Value := #[.int 5, .int 3, .int 1]
def aboutOver (below : List Frame) : State where
  vm := { classes := classes, interned := interned.toArray }
  heap := heap
  slotsUsed := slotsUsed
  threads := #[{ frames := .invoking theMethod args0 :: below }]
def below0 : List Frame := [.native { method := ⟨0, 0⟩, args := #[] }]
def about1 : State := aboutOver below0
def p0 : Program := .bare "" "" ""
def e0 : Env := launch0.env 0 0 0
theorem w_frames : about1.frames = Frame.invoking theMethod args0 :: below0 := rfl
set_option maxRecDepth 65536 in
theorem w_args : argsFit about1.vm theMethod args0 = true := by decide +kernel
set_option maxRecDepth 65536 in
theorem w_heap : heapFits about1 = true := by decide +kernel
set_option maxRecDepth 65536 in
theorem w_runnable : about1.curStatus? = some .runnable := by decide +kernel
set_option maxRecDepth 65536 in
theorem w_alone : about1.alone = true := by decide +kernel
set_option maxRecDepth 65536 in
theorem w_named : about1.methodNamed? x = some theMethod := by decide +kernel
set_option maxRecDepth 65536 in
theorem w_hears : about1.hears theMethod below0 = true := by decide +kernel
set_option maxRecDepth 65536 in
theorem w_ripe : about1.ripe theMethod args0 below0 = true := by decide +kernel
theorem w_running : about1.status = .running := rfl
set_option maxRecDepth 65536 in
theorem w_room : about1.hasRoom e0.platform room_1 = true :=
  launch0.hasRoom_least _ room_1 (by decide +kernel) (by decide +kernel) (by decide +kernel) (by decide +kernel) (by decide +kernel) (by decide +kernel)
theorem allAtoms_all (ts : List Jvm.Cond) (a : Array Jvm.Value) (st : Jvm.State) : (allAtoms ts).before a st = ts.all (fun c => c.before a st) := by
  induction ts with
  | nil => rfl
  | cons c t ih =>
    show (Jvm.Cond.and c (allAtoms t)).before a st = _
    rw [Jvm.Cond.before_and, ih, List.all_cons]
def words1 : List Jvm.Cond := Jvm.Cond.code x code maxLocals ret :: tables_1
/-- a 'code' word, met by the world's own term for the bytes: nothing is compared byte by byte -/
theorem code_word {y : MethodName} {bytes : ByteArray} {mx : Nat} {rt : Option FieldType} {a : Array Value} {s : State} {m : MethodId} {meth : Method} {c : Code} (h1 : s.methodNamed? y = some m) (h2 : s.vm.method? m = some meth) (h3 : meth.code = some c) (h4 : c.code = bytes)
    (h5 : (c.maxLocals == mx && c.exceptionTable.isEmpty && decide (c.maxStack ≤ mostOperands) && decide (meth.sig.returnType = rt) && !meth.locks && decide (parseMethodDescriptor y.desc = some meth.sig)) = true) : (Jvm.Cond.code y bytes mx rt).before a s = true := by
  simp only [Bool.and_eq_true, beq_iff_eq, Bool.not_eq_true', decide_eq_true_eq] at h5
  obtain ⟨⟨⟨⟨⟨g1, g2⟩, g3⟩, g4⟩, g5⟩, g6⟩ := h5
  simp [Cond.before, Cond.holds, Cond.value, h1, h2, h3, h4, g1, g2, g3, g4, g5, g6]
def isCode : Jvm.Cond → Bool
  | .code _ _ _ _ => true
  | _ => false
theorem all_split {L : List Jvm.Cond} {P : Jvm.Cond → Bool} (h1 : L.all (fun c => isCode c || P c) = true) (h2 : ∀ c ∈ L.filter isCode, P c = true) : L.all P = true := by
  refine List.all_eq_true.mpr fun c hc => ?_
  have h := List.all_eq_true.mp h1 c hc
  rcases Bool.eq_false_or_eq_true (isCode c) with hi | hi
  · exact h2 c (List.mem_filter.mpr ⟨hc, hi⟩)
  · simpa [hi] using h
set_option maxRecDepth 65536 in
theorem w_c0 : (Jvm.Cond.code x code maxLocals ret).before args0 about1 = true := code_word (m := ⟨1, 1⟩) (meth := k1m1) (c := k1c1) (by decide +kernel) rfl rfl rfl (by decide +kernel)
set_option maxRecDepth 65536 in
theorem w_c1 : (Jvm.Cond.code ({ cls := "com/example/bnodiff/bnodiff/engine/Steps", name := "<init>", desc := "(I)V" } : Jvm.MethodName) prog_36_method_1_code (2 : Nat) (Option.none : Option Jvm.ClassFile.FieldType)).before args0 about1 = true := code_word (m := ⟨2, 0⟩) (meth := k2m0) (c := k2c0) (by decide +kernel) rfl rfl rfl (by decide +kernel)
set_option maxRecDepth 65536 in
theorem w_c2 : (Jvm.Cond.code ({ cls := "java/lang/Object", name := "<init>", desc := "()V" } : Jvm.MethodName) object_method_1_code (1 : Nat) (Option.none : Option Jvm.ClassFile.FieldType)).before args0 about1 = true := code_word (m := ⟨0, 0⟩) (meth := k0m0) (c := k0c0) (by decide +kernel) rfl rfl rfl (by decide +kernel)
set_option maxRecDepth 65536 in
theorem w_c3 : (Jvm.Cond.code ({ cls := "com/example/bnodiff/bnodiff/engine/Steps", name := "take", desc := "(I)V" } : Jvm.MethodName) prog_36_method_2_code (2 : Nat) (Option.none : Option Jvm.ClassFile.FieldType)).before args0 about1 = true := code_word (m := ⟨2, 1⟩) (meth := k2m1) (c := k2c1) (by decide +kernel) rfl rfl rfl (by decide +kernel)
def codes1 : List Jvm.Cond := [Jvm.Cond.code x code maxLocals ret, Jvm.Cond.code ({ cls := "com/example/bnodiff/bnodiff/engine/Steps", name := "<init>", desc := "(I)V" } : Jvm.MethodName) prog_36_method_1_code (2 : Nat) (Option.none : Option Jvm.ClassFile.FieldType), Jvm.Cond.code ({ cls := "java/lang/Object", name := "<init>", desc := "()V" } : Jvm.MethodName) object_method_1_code (1 : Nat) (Option.none : Option Jvm.ClassFile.FieldType), Jvm.Cond.code ({ cls := "com/example/bnodiff/bnodiff/engine/Steps", name := "take", desc := "(I)V" } : Jvm.MethodName) prog_36_method_2_code (2 : Nat) (Option.none : Option Jvm.ClassFile.FieldType)]
set_option maxRecDepth 65536 in
theorem codes_eq : words1.filter isCode = codes1 := rfl
theorem w_codes : ∀ c ∈ words1.filter isCode, c.before args0 about1 = true := by
  rw [codes_eq]
  intro c hc
  simp only [codes1, List.mem_cons, List.not_mem_nil, or_false] at hc
  rcases hc with rfl | rfl | rfl | rfl
  · exact w_c0
  · exact w_c1
  · exact w_c2
  · exact w_c3
set_option maxRecDepth 65536 in
theorem w_t1 : words1.all (fun c => isCode c || c.before args0 about1) = true := by decide +kernel
theorem w_tables : (allAtoms (Jvm.Cond.code x code maxLocals ret :: tables_1)).before args0 about1 = true := by
  rw [allAtoms_all]
  show words1.all (fun c => c.before args0 about1) = true
  refine all_split ?_ w_codes
  rw [w_t1]
set_option maxRecDepth 65536 in
theorem w_case : (Jvm.Cond.and given_1 narrow_1).before args0 about1 = true := by decide +kernel
theorem w_applies : (headSpec (Jvm.Cond.code x code maxLocals ret :: tables_1) room_1).applies x e0.platform about1 = true :=
  (Spec.applies_iff w_frames).mpr ⟨w_running, w_runnable, w_alone, w_named, w_hears, w_ripe, w_room, w_tables⟩
theorem atStart : AtStart classFile x code maxLocals ret World_1 tables_1 room_1 Calls_1 rest_1 Pre_1 launch0 p0 e0 about1 theMethod args0 below0 :=
  ⟨lists_1, trivial, launch0.admits_env _ _ _, launch0.least_env, fairChoices_fair.cas, fairChoices_fair.clock, w_frames, w_args, w_heap, w_applies, trivial, trivial, w_case⟩
end start1
theorem witness_1 : WitnessClaimed_1 := ⟨start1.p0, start1.e0, start1.about1, start1.theMethod, start1.args0, start1.below0, start1.atStart⟩
end Jvm.Pilot.@@N@@
