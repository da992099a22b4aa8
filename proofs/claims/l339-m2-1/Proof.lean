import JvmDerived
import JvmDerived.Pilot.@@N@@Statement
import JvmDerived.Pilot.@@N@@Code
set_option linter.unusedVariables false
set_option linter.unusedSimpArgs false
namespace Jvm.RoadKit
open Sem ClassFile Op Lib Jvm.Stand Jvm.Free Jvm.LawKit
section New
variable {p : Program} {l : Launch} {e : Env} {R : Room} {s : State} {m : MethodId} {args : Array Value} {below : List Frame} {meth : Method} {c : Code} {T : State} {locs : List Loc} {cells slots : Nat}
theorem retI (X : Stand p l e R s m args below meth c T locs cells slots) (hx : p.tables.exec = Jvm.exec) {pc : Nat} {Ls : Array Slot} {z : Int32} {rest : List Value} (hret : meth.sig.returnType = some .int) (hd : decode c.code pc = .ok (.ireturn, 1)) {fs : List Frame}
    (hl : ∀ (f : JFrame) (acts : List Action), f.method = m → f.locked = none → f.entered = [] → (doReturn e (T.setTop f) acts (some (.int z))).1 = T.setFrames fs) : Steps p.tables e below (T.setTop (mkF m pc Ls (.int z :: rest))) (T.setFrames fs) := by
  have hm' : T.vm.method? m = some meth := X.method'
  have hn : narrow .int (.int z) = .int z := rfl
  show Steps p.tables e below (T.setTop { method := m, pc := pc, locals := Ls, stack := _ :: rest, locked := none }) _
  jvm_step X.here [X.here.top, hx, hd, hm', hret, hn]
  first | (intro acts; rw [hl _ acts rfl rfl rfl]) | rw [hl _ _ rfl rfl rfl]
  exact Steps.refl _
end New
end Jvm.RoadKit
namespace Jvm.Pilot.@@N@@
open Jvm Jvm.ClassFile Sem Op Lib Jvm.Free Jvm.Stand Jvm.LawKit Jvm.RoadKit Bundle Jvm.Pilot.@@N@@.Jvm.D
/-- from U the run comes back to its caller; what it returns, the heap and the places written meet Q -/
def Goes (p : Program) (e : Env) (below : List Frame) (s : State) (Q : Option Value → Heap → List Loc → Prop) (C S : Nat) (U : State) : Prop :=
  ∃ s₂ o, Steps p.tables e below U s₂ ∧ s₂.status = .running ∧ Ended s₂ below o ∧ ∃ v L, o = .returned v ∧ Q v s₂.heap L ∧ FrameEnd s o s₂ L C S
section Own
variable {p : Program} {l : Launch} {e : Env} {R : Room} {s : State} {m : MethodId} {args : Array Value} {below : List Frame} {meth : Method} {c : Code} {T : State} {locs : List Loc} {cells slots : Nat} {Q : Option Value → Heap → List Loc → Prop} {C S : Nat} {U U' : State}
theorem Goes.pre (f : ∀ t, Steps p.tables e below U' t → Steps p.tables e below U t) (g : Goes p e below s Q C S U') : Goes p e below s Q C S U := by
  obtain ⟨s₂, o, h1, r⟩ := g
  exact ⟨s₂, o, f _ h1, r⟩
theorem Goes.enter {g g' : JFrame} (q : g = g') (h : Goes p e below s Q C S (U.setTop g')) : Goes p e below s Q C S (U.setTop g) := q ▸ h
theorem Goes.ret (X : Stand p l e R s m args below meth c T locs cells slots) {v : Option Value} (hv : meth.sig.returnType = none → v = none) (hlocks : meth.locks = false) (hc : cells ≤ C) (hs : slots ≤ S) {h : Heap} (eT : T.heap = h)
    (step : ∀ fs, (∀ (f : JFrame) (acts : List Action), f.method = m → f.locked = none → f.entered = [] → (doReturn e (T.setTop f) acts v).1 = T.setFrames fs) → Steps p.tables e below U (T.setFrames fs)) (q : Q v h locs) : Goes p e below s Q C S U := by
  obtain ⟨fs, hr, hrun, hended, hW, hsame⟩ := X.leave hv hlocks
  refine ⟨_, _, step fs hr, hrun, hended, _, _, rfl, ?_, ⟨_, rfl⟩, hW, hsame.mono hc hs⟩
  show Q v T.heap locs
  rw [eT]
  exact q
end Own
theorem own_lsw {tb : Tables} [Ours tb] {e : Env} {below : List Frame} {T target : State} {m : MethodId} {c : Code} {g : JFrame} (h : At T m c below) (hx : tb.exec = Jvm.exec) (hg : g.method = m) {dflt : Int} {prs : Array (Int × Int)} {len : Nat} {o : Int} {pc0 pc' : Nat} (hpc : g.pc = pc0) (hd : decode c.code g.pc = .ok (.lookupswitch dflt prs, len)) {i : Int32} {rest : List Value} (hs : g.stack = .int i :: rest)
    (hso : ∀ (a b a_1 b_1 : Int), ((a, b), a_1, b_1) ∈ prs.toList.zip prs.toList.tail → a < a_1) (hoff : lookupswitch.offset prs.toList dflt i.toInt = o) (ho : 0 ≤ (pc0 : Int) + o) (hp : ((pc0 : Int) + o).toNat = pc')
    (hr : Steps tb e below (T.setTop { g with pc := pc', stack := rest }) target) : Steps tb e below (T.setTop g) target := by
  subst hg hpc hp
  jvm_step h [h.top, hx, hd, hs, lookupswitch.wp_chain, hoff, ho]
  exact ⟨hso, hr⟩
theorem ef_rm_record (m : MethodId) (x0 : Addr) : entryFrame m #[(.ref x0)] 1 = mkF m 0 #[.val (.ref x0)] [] := by first | (simp [entryFrame, mkF, argsToLocals, Value.category]; done) | rfl
theorem pn_java_lang_Record : plainName "java/lang/Record" = true := by first | (simp [plainName, overriddenIn]; done) | decide +kernel
theorem d2_0 : decode jdk_30_method_1_code 0 = .ok (.aload_n 0, 1) := by decide +kernel
theorem d2_1 : decode jdk_30_method_1_code 1 = .ok (.invokespecial 1, 3) := by decide +kernel
theorem d2_4 : decode jdk_30_method_1_code 4 = .ok (.return_, 1) := by decide +kernel
def Q_rm_record (Z : State) (a : Addr) (h0 : Heap) (n0 : Nat) (v : Option Value) (h : Heap) (L : List Loc) : Prop := v = none ∧ Fr n0 L ∧ h = h0
set_option maxRecDepth 65536 in
set_option maxHeartbeats 40000000 in
theorem rm_record (l : Launch) (Z : State) (a0 : Array Value) (hw : ∀ d ∈ tables_1, d.before a0 Z = true) (ws : List Jvm.Cond) (a : Addr) (h0 : Heap) (n0 : Nat) (Z0 : n0 ≤ h0.size)  :
    MetFree l (⟨"java/lang/Record", "<init>", "()V"⟩ : MethodName) (head1 (Jvm.Cond.code (⟨"java/lang/Record", "<init>", "()V"⟩ : MethodName) jdk_30_method_1_code 1 none :: ws) ({ frames := 1, cells := 0, slots := 0, locals := 12 } : Room)) (fun argv U => argv = #[(.ref a)] ∧ Z.Warmed39 U.vm ∧ U.heap = h0) (fun _ _ _ _ _ => True) (fun _ U o U' => ∃ v L, o = .returned v ∧ Q_rm_record Z a h0 n0 v U'.heap L ∧ FrameEnd U o U' L ({ frames := 1, cells := 0, slots := 0, locals := 12 } : Room).cells ({ frames := 1, cells := 0, slots := 0, locals := 12 } : Room).slots) := by
  refine MetFree.of_bodySF (plainFor_of_name pn_java_lang_Record) hisR ?_
  intro p e s m args below meth c s₁ Bd hml0 hP hK
  obtain ⟨rfl, hZ, hh⟩ := hP
  have hx := Bd.exec
  have hby := Bd.bytes
  have hml : c.maxLocals = 1 := hml0
  have hown : s.vm.findClass "java/lang/Record" = some m.cls := findClass_of_methodNamed Bd.named
  have hnm := (name_of_methodNamed Bd.named Bd.method).1
  have X0 : Stand p l e ({ frames := 1, cells := 0, slots := 0, locals := 12 } : Room) s m #[(.ref a)] below meth c s₁ [] 0 0 := Stand.of_body Bd
  have e0 : s₁.heap = h0 := by rw [← hh, Bd.state]; rfl
  have N0 := Fr.nil n0
  refine Goes.enter (Q := fun v h L => Q_rm_record Z a h0 n0 v h L) (C := ({ frames := 1, cells := 0, slots := 0, locals := 12 } : Room).cells) (S := ({ frames := 1, cells := 0, slots := 0, locals := 12 } : Room).slots) (ef_rm_record m a) ?_
  show Goes p e below s _ _ _ (s₁.setTop (mkF m 0 #[.val (.ref a)] []))
  refine Goes.pre (U' := s₁.setTop (mkF m 1 #[.val (.ref a)] [(.ref a)])) (fun t k => XS.aloadN X0.here hx rfl (hb hby d2_0) rfl rfl k) ?_
  obtain ⟨T1, X1, e1, st1⟩ := initO X0 hx hZ hown (hw _ (List.mem_of_getElem? (i := 11) rfl)) (hw _ (List.mem_of_getElem? (i := 12) rfl)) (hw _ (List.mem_of_getElem? (i := 13) rfl)) e0 (g := (mkF m 1 #[.val (.ref a)] [(.ref a)])) rfl (by rw [hml]; rfl) rfl (hb hby d2_1) (by decide) (W := 0) (by show 2 * 0 + _ ≤ _; exact Nat.le_of_eq rfl) (by decide)
  refine Goes.pre (U' := T1.setTop (mkF m 4 #[.val (.ref a)] [])) (fun t k => st1 t k) ?_
  refine Goes.ret X1 (v := none) (fun _ => rfl) Bd.notSynchronized (by decide) (by decide) e1 (fun fs hr => X1.returnOut hx Bd.returns (hb hby d2_4) hr) ?_
  exact ⟨rfl, N0, rfl⟩
theorem ef_rm_init (m : MethodId) (x0 : Addr) (x1 : Int64) (x2 : Int64) : entryFrame m #[(.ref x0), (.long x1), (.long x2)] 5 = mkF m 0 #[.val (.ref x0), .val (.long x1), .second, .val (.long x2), .second] [] := by first | (simp [entryFrame, mkF, argsToLocals, Value.category]; done) | rfl
theorem pn_com_example_corpo_corpo_samples_SampleWindow : plainName "com/example/corpo/corpo/samples/SampleWindow" = true := by first | (simp [plainName, overriddenIn]; done) | decide +kernel
theorem d1_0 : decode prog_35_method_1_code 0 = .ok (.aload_n 0, 1) := by decide +kernel
theorem d1_1 : decode prog_35_method_1_code 1 = .ok (.invokespecial 1, 3) := by decide +kernel
theorem pd__28_29V : parseMethodDescriptor "()V" = some ⟨[], none⟩ := by decide +kernel
theorem d1_4 : decode prog_35_method_1_code 4 = .ok (.aload_n 0, 1) := by decide +kernel
theorem d1_5 : decode prog_35_method_1_code 5 = .ok (.lload_n 1, 1) := by decide +kernel
theorem d1_6 : decode prog_35_method_1_code 6 = .ok (.putfield 7, 3) := by decide +kernel
theorem d1_9 : decode prog_35_method_1_code 9 = .ok (.aload_n 0, 1) := by decide +kernel
theorem d1_10 : decode prog_35_method_1_code 10 = .ok (.lload_n 3, 1) := by decide +kernel
theorem d1_11 : decode prog_35_method_1_code 11 = .ok (.putfield 13, 3) := by decide +kernel
theorem d1_14 : decode prog_35_method_1_code 14 = .ok (.return_, 1) := by decide +kernel
def Q_rm_init (Z : State) (a : Addr) (qf : Int64) (qe : Int64) (h0 : Heap) (n0 : Nat) (v : Option Value) (h : Heap) (L : List Loc) : Prop := v = none ∧ Fr n0 L ∧ Keep h0 h [a] ∧ Fld Z h a "com/example/corpo/corpo/samples/SampleWindow" "first" "J" (.long qf) ∧ Fld Z h a "com/example/corpo/corpo/samples/SampleWindow" "end" "J" (.long qe)
set_option maxRecDepth 65536 in
set_option maxHeartbeats 40000000 in
theorem rm_init (l : Launch) (Z : State) (a0 : Array Value) (hw : ∀ d ∈ tables_1, d.before a0 Z = true) (ws : List Jvm.Cond) (a : Addr) (qf : Int64) (qe : Int64) (h0 : Heap) (n0 : Nat) (Z0 : n0 ≤ h0.size) (E_a : Exa Z h0 a "com/example/corpo/corpo/samples/SampleWindow") (F_first_a : Fld Z h0 a "com/example/corpo/corpo/samples/SampleWindow" "first" "J" (.long (0 : Int64))) (F_end_a : Fld Z h0 a "com/example/corpo/corpo/samples/SampleWindow" "end" "J" (.long (0 : Int64))) (g_a : n0 ≤ a) :
    MetFree l (⟨"com/example/corpo/corpo/samples/SampleWindow", "<init>", "(JJ)V"⟩ : MethodName) (head1 (Jvm.Cond.code (⟨"com/example/corpo/corpo/samples/SampleWindow", "<init>", "(JJ)V"⟩ : MethodName) prog_35_method_1_code 5 none :: ws) ({ frames := 2, cells := 0, slots := 0, locals := 24 } : Room)) (fun argv U => argv = #[(.ref a), (.long qf), (.long qe)] ∧ Z.Warmed39 U.vm ∧ U.heap = h0) (fun _ _ _ _ _ => True) (fun _ U o U' => ∃ v L, o = .returned v ∧ Q_rm_init Z a qf qe h0 n0 v U'.heap L ∧ FrameEnd U o U' L ({ frames := 2, cells := 0, slots := 0, locals := 24 } : Room).cells ({ frames := 2, cells := 0, slots := 0, locals := 24 } : Room).slots) := by
  refine MetFree.of_bodySF (plainFor_of_name pn_com_example_corpo_corpo_samples_SampleWindow) hisR ?_
  intro p e s m args below meth c s₁ Bd hml0 hP hK
  obtain ⟨rfl, hZ, hh⟩ := hP
  have hx := Bd.exec
  have hby := Bd.bytes
  have hml : c.maxLocals = 5 := hml0
  have hown : s.vm.findClass "com/example/corpo/corpo/samples/SampleWindow" = some m.cls := findClass_of_methodNamed Bd.named
  have hnm := (name_of_methodNamed Bd.named Bd.method).1
  have X0 : Stand p l e ({ frames := 2, cells := 0, slots := 0, locals := 24 } : Room) s m #[(.ref a), (.long qf), (.long qe)] below meth c s₁ [] 0 0 := Stand.of_body Bd
  have e0 : s₁.heap = h0 := by rw [← hh, Bd.state]; rfl
  have N0 := Fr.nil n0
  have K0 := Keep.refl h0 [a]
  refine Goes.enter (Q := fun v h L => Q_rm_init Z a qf qe h0 n0 v h L) (C := ({ frames := 2, cells := 0, slots := 0, locals := 24 } : Room).cells) (S := ({ frames := 2, cells := 0, slots := 0, locals := 24 } : Room).slots) (ef_rm_init m a qf qe) ?_
  show Goes p e below s _ _ _ (s₁.setTop (mkF m 0 #[.val (.ref a), .val (.long qf), .second, .val (.long qe), .second] []))
  refine Goes.pre (U' := s₁.setTop (mkF m 1 #[.val (.ref a), .val (.long qf), .second, .val (.long qe), .second] [(.ref a)])) (fun t k => XS.aloadN X0.here hx rfl (hb hby d1_0) rfl rfl k) ?_
  obtain ⟨_, _, ⟨T1, L1, k1, n1⟩, -, X1, ⟨Lc1, hQ1, l1, y1, z1⟩, st1⟩ := X0.specialBack hx (y := (⟨"java/lang/Record", "<init>", "()V"⟩ : MethodName)) rfl hown (mvT hZ (hw _ (List.mem_of_getElem? (i := 6) rfl))) (mvT hZ (hw _ (List.mem_of_getElem? (i := 7) rfl))) (mvT hZ (hw _ (List.mem_of_getElem? (i := 10) rfl))) (by decide) (backOf (W := 0) (rm_record l Z a0 hw [] a h0 n0 Z0) hZ (hw _ (List.mem_of_getElem? (i := 10) rfl)) (hw _ (List.mem_of_getElem? (i := 9) rfl)) (by decide) (by decide)) (g := (mkF m 1 #[.val (.ref a), .val (.long qf), .second, .val (.long qe), .second] [(.ref a)])) rfl (by rw [hml]; rfl) (Steps.refl _) (a := a) (argsL := []) (rest := []) (lenOf pd__28_29V rfl) rfl (by show 2 * 0 + _ ≤ _; exact Nat.le_of_eq rfl) (hb hby d1_1) (fun _ _ => ⟨rfl, e0, (by decide : 0 + 0 ≤ _), (by decide : 0 + 0 ≤ _)⟩)
  dsimp only [Pt.U, Pt.locs, Pt.cells, Pt.slots] at X1 l1 y1 z1 st1 hQ1
  subst l1 y1 z1
  obtain ⟨rfl, N1q, HQ1⟩ := hQ1
  have N1 := Fr.app N0 N1q
  refine Goes.pre (U' := T1.setTop (mkF m 4 #[.val (.ref a), .val (.long qf), .second, .val (.long qe), .second] [])) (fun t k => st1.trans k) ?_
  refine Goes.pre (U' := T1.setTop (mkF m 5 #[.val (.ref a), .val (.long qf), .second, .val (.long qe), .second] [(.ref a)])) (fun t k => XS.aloadN X1.here hx rfl (hb hby d1_4) rfl rfl k) ?_
  refine Goes.pre (U' := T1.setTop (mkF m 6 #[.val (.ref a), .val (.long qf), .second, .val (.long qe), .second] [(.long qf), (.ref a)])) (fun t k => XS.lloadN X1.here hx rfl (hb hby d1_5) rfl k) ?_
  obtain ⟨T2, h2, X2, e2, W2, st2⟩ := putF X1 hx hZ hown (host := "") (Or.inl (hw _ (List.mem_of_getElem? (i := 14) rfl))) Via.refl HQ1 F_first_a E_a (Or.inr ⟨(hw _ (List.mem_of_getElem? (i := 15) rfl)), rfl, hnm⟩) (hw _ (List.mem_of_getElem? (i := 1) rfl)) (ty := .long) (by decide) rfl rfl (g := (mkF m 6 #[.val (.ref a), .val (.long qf), .second, .val (.long qe), .second] [(.long qf), (.ref a)])) rfl rfl (hb hby d1_6)
  have E_a := E_a.wr W2
  have F_end_a := F_end_a.other W2 (Or.inr (slot_ne (Or.inr (hw _ (List.mem_of_getElem? (i := 17) rfl))) (Or.inr (hw _ (List.mem_of_getElem? (i := 15) rfl))) (by decide) (t := .long) (t' := .long) (by decide) (by decide)))
  have Z2 : n0 ≤ h2.size := Nat.le_trans Z0 (Keep.of_wr W2).1
  have F_first_a := F_first_a.same W2
  have K2 := K0.wr W2 (Or.inl (List.mem_of_getElem? (i := 0) rfl))
  have N2 := Fr.snoc X2 N1 g_a
  refine Goes.pre (U' := T2.setTop (mkF m 9 #[.val (.ref a), .val (.long qf), .second, .val (.long qe), .second] [])) (fun t k => st2 t k) ?_
  refine Goes.pre (U' := T2.setTop (mkF m 10 #[.val (.ref a), .val (.long qf), .second, .val (.long qe), .second] [(.ref a)])) (fun t k => XS.aloadN X2.here hx rfl (hb hby d1_9) rfl rfl k) ?_
  refine Goes.pre (U' := T2.setTop (mkF m 11 #[.val (.ref a), .val (.long qf), .second, .val (.long qe), .second] [(.long qe), (.ref a)])) (fun t k => XS.lloadN X2.here hx rfl (hb hby d1_10) rfl k) ?_
  obtain ⟨T3, h3, X3, e3, W3, st3⟩ := putF X2 hx hZ hown (host := "") (Or.inl (hw _ (List.mem_of_getElem? (i := 16) rfl))) Via.refl e2 F_end_a E_a (Or.inr ⟨(hw _ (List.mem_of_getElem? (i := 17) rfl)), rfl, hnm⟩) (hw _ (List.mem_of_getElem? (i := 1) rfl)) (ty := .long) (by decide) rfl rfl (g := (mkF m 11 #[.val (.ref a), .val (.long qf), .second, .val (.long qe), .second] [(.long qe), (.ref a)])) rfl rfl (hb hby d1_11)
  have E_a := E_a.wr W3
  have F_first_a := F_first_a.other W3 (Or.inr (slot_ne (Or.inr (hw _ (List.mem_of_getElem? (i := 15) rfl))) (Or.inr (hw _ (List.mem_of_getElem? (i := 17) rfl))) (by decide) (t := .long) (t' := .long) (by decide) (by decide)))
  have Z3 : n0 ≤ h3.size := Nat.le_trans Z2 (Keep.of_wr W3).1
  have F_end_a := F_end_a.same W3
  have K3 := K2.wr W3 (Or.inl (List.mem_of_getElem? (i := 0) rfl))
  have N3 := Fr.snoc X3 N2 g_a
  refine Goes.pre (U' := T3.setTop (mkF m 14 #[.val (.ref a), .val (.long qf), .second, .val (.long qe), .second] [])) (fun t k => st3 t k) ?_
  refine Goes.ret X3 (v := none) (fun _ => rfl) Bd.notSynchronized (by decide) (by decide) e3 (fun fs hr => X3.returnOut hx Bd.returns (hb hby d1_14) hr) ?_
  exact ⟨rfl, N3, K3, F_first_a, F_end_a⟩
theorem ef_rm_contains (m : MethodId) (x0 : Addr) (x1 : Int64) : entryFrame m #[(.ref x0), (.long x1)] 3 = mkF m 0 #[.val (.ref x0), .val (.long x1), .second] [] := by first | (simp [entryFrame, mkF, argsToLocals, Value.category]; done) | rfl
theorem d4_0 : decode prog_35_method_4_code 0 = .ok (.lload_n 1, 1) := by decide +kernel
theorem d4_1 : decode prog_35_method_4_code 1 = .ok (.aload_n 0, 1) := by decide +kernel
theorem d4_2 : decode prog_35_method_4_code 2 = .ok (.getfield 7, 3) := by decide +kernel
theorem d4_5 : decode prog_35_method_4_code 5 = .ok (.lcmp, 1) := by decide +kernel
theorem d4_6 : decode prog_35_method_4_code 6 = .ok (.ifCond .lt 16, 3) := by decide +kernel
theorem d4_22 : decode prog_35_method_4_code 22 = .ok (.iconst 0, 1) := by decide +kernel
theorem d4_23 : decode prog_35_method_4_code 23 = .ok (.ireturn, 1) := by decide +kernel
theorem d4_9 : decode prog_35_method_4_code 9 = .ok (.lload_n 1, 1) := by decide +kernel
theorem d4_10 : decode prog_35_method_4_code 10 = .ok (.aload_n 0, 1) := by decide +kernel
theorem d4_11 : decode prog_35_method_4_code 11 = .ok (.getfield 13, 3) := by decide +kernel
theorem d4_14 : decode prog_35_method_4_code 14 = .ok (.lcmp, 1) := by decide +kernel
theorem d4_15 : decode prog_35_method_4_code 15 = .ok (.ifCond .ge 7, 3) := by decide +kernel
theorem d4_18 : decode prog_35_method_4_code 18 = .ok (.iconst 1, 1) := by decide +kernel
theorem d4_19 : decode prog_35_method_4_code 19 = .ok (.goto 4, 3) := by decide +kernel
def own_contains (qi qf qe : Int64) : Int32 := (if (lcmpW qi qf) < (0 : Int32) then (0 : Int32) else (if (lcmpW qi qe) < (0 : Int32) then (1 : Int32) else (0 : Int32)))
def Q_rm_contains (Z : State) (a : Addr) (qi qf qe : Int64) (h0 : Heap) (n0 : Nat) (v : Option Value) (h : Heap) (L : List Loc) : Prop := v = some (.int (own_contains qi qf qe)) ∧ Fr n0 L ∧ h = h0
set_option maxRecDepth 65536 in
set_option maxHeartbeats 40000000 in
theorem rm_contains (l : Launch) (Z : State) (a0 : Array Value) (hw : ∀ d ∈ tables_1, d.before a0 Z = true) (ws : List Jvm.Cond) (a : Addr) (qi qf qe : Int64) (h0 : Heap) (n0 : Nat) (Z0 : n0 ≤ h0.size) (F_first_a : Fld Z h0 a "com/example/corpo/corpo/samples/SampleWindow" "first" "J" (.long qf)) (F_end_a : Fld Z h0 a "com/example/corpo/corpo/samples/SampleWindow" "end" "J" (.long qe)) :
    MetFree l (⟨"com/example/corpo/corpo/samples/SampleWindow", "contains", "(J)Z"⟩ : MethodName) (head1 (Jvm.Cond.code (⟨"com/example/corpo/corpo/samples/SampleWindow", "contains", "(J)Z"⟩ : MethodName) prog_35_method_4_code 3 (some .boolean) :: ws) ({ frames := 0, cells := 0, slots := 0, locals := 0 } : Room)) (fun argv U => argv = #[(.ref a), (.long qi)] ∧ Z.Warmed39 U.vm ∧ U.heap = h0) (fun _ _ _ _ _ => True) (fun _ U o U' => ∃ v L, o = .returned v ∧ Q_rm_contains Z a qi qf qe h0 n0 v U'.heap L ∧ FrameEnd U o U' L ({ frames := 0, cells := 0, slots := 0, locals := 0 } : Room).cells ({ frames := 0, cells := 0, slots := 0, locals := 0 } : Room).slots) := by
  refine MetFree.of_bodySF (plainFor_of_name pn_com_example_corpo_corpo_samples_SampleWindow) hisR ?_
  intro p e s m args below meth c s₁ Bd hml0 hP hK
  obtain ⟨rfl, hZ, hh⟩ := hP
  have hx := Bd.exec
  have hby := Bd.bytes
  have hml : c.maxLocals = 3 := hml0
  have hown : s.vm.findClass "com/example/corpo/corpo/samples/SampleWindow" = some m.cls := findClass_of_methodNamed Bd.named
  have hnm := (name_of_methodNamed Bd.named Bd.method).1
  have X0 : Stand p l e ({ frames := 0, cells := 0, slots := 0, locals := 0 } : Room) s m #[(.ref a), (.long qi)] below meth c s₁ [] 0 0 := Stand.of_body Bd
  have e0 : s₁.heap = h0 := by rw [← hh, Bd.state]; rfl
  have N0 := Fr.nil n0
  refine Goes.enter (Q := fun v h L => Q_rm_contains Z a qi qf qe h0 n0 v h L) (C := ({ frames := 0, cells := 0, slots := 0, locals := 0 } : Room).cells) (S := ({ frames := 0, cells := 0, slots := 0, locals := 0 } : Room).slots) (ef_rm_contains m a qi) ?_
  show Goes p e below s _ _ _ (s₁.setTop (mkF m 0 #[.val (.ref a), .val (.long qi), .second] []))
  refine Goes.pre (U' := s₁.setTop (mkF m 1 #[.val (.ref a), .val (.long qi), .second] [(.long qi)])) (fun t k => XS.lloadN X0.here hx rfl (hb hby d4_0) rfl k) ?_
  refine Goes.pre (U' := s₁.setTop (mkF m 2 #[.val (.ref a), .val (.long qi), .second] [(.ref a), (.long qi)])) (fun t k => XS.aloadN X0.here hx rfl (hb hby d4_1) rfl rfl k) ?_
  obtain ⟨T1, X1, e1, st1⟩ := getF X0 hx hZ hown (host := "") (Or.inl (hw _ (List.mem_of_getElem? (i := 14) rfl))) Via.refl e0 F_first_a (g := (mkF m 2 #[.val (.ref a), .val (.long qi), .second] [(.ref a), (.long qi)])) rfl rfl (hb hby d4_2)
  refine Goes.pre (U' := T1.setTop (mkF m 5 #[.val (.ref a), .val (.long qi), .second] [(.long qf), (.long qi)])) (fun t k => st1 t k) ?_
  refine Goes.pre (U' := T1.setTop (mkF m 6 #[.val (.ref a), .val (.long qi), .second] [(.int (lcmpW qi qf))])) (fun t k => XS.lcmp X1.here hx rfl (hb hby d4_5) rfl k) ?_
  by_cases hc6 : (lcmpW qi qf) < (0 : Int32)
  ·
    refine Goes.pre (U' := T1.setTop (mkF m 22 #[.val (.ref a), .val (.long qi), .second] [])) (fun t k => XS.ifYes X1.here hx rfl (pc0 := 6) (pc' := 22) rfl (hb hby d4_6) rfl ((if0 _ _).trans (tlt hc6).1) (by decide) (by decide) k) ?_
    refine Goes.pre (U' := T1.setTop (mkF m 23 #[.val (.ref a), .val (.long qi), .second] [(.int (0 : Int32))])) (fun t k => XS.iconst X1.here hx rfl (hb hby d4_22) k) ?_
    refine Goes.ret X1 (v := (some (.int (0 : Int32)))) (fun h => by rw [Bd.returns] at h; cases h) Bd.notSynchronized (by decide) (by decide) e1 (fun fs hr => retN X1 hx (t := .boolean) Bd.returns (by simp) (hb hby d4_23) hr) ?_
    exact ⟨congrArg (fun z => some (Value.int z)) (show (0 : Int32) = own_contains qi qf qe from (show own_contains qi qf qe = (0 : Int32) from by unfold own_contains; rw [if_pos hc6]).symm), N0, rfl⟩
  ·
    refine Goes.pre (U' := T1.setTop (mkF m 9 #[.val (.ref a), .val (.long qi), .second] [])) (fun t k => XS.ifNo X1.here hx rfl (hb hby d4_6) rfl ((if0 _ _).trans (flt hc6).1) k) ?_
    refine Goes.pre (U' := T1.setTop (mkF m 10 #[.val (.ref a), .val (.long qi), .second] [(.long qi)])) (fun t k => XS.lloadN X1.here hx rfl (hb hby d4_9) rfl k) ?_
    refine Goes.pre (U' := T1.setTop (mkF m 11 #[.val (.ref a), .val (.long qi), .second] [(.ref a), (.long qi)])) (fun t k => XS.aloadN X1.here hx rfl (hb hby d4_10) rfl rfl k) ?_
    obtain ⟨T2, X2, e2, st2⟩ := getF X1 hx hZ hown (host := "") (Or.inl (hw _ (List.mem_of_getElem? (i := 16) rfl))) Via.refl e1 F_end_a (g := (mkF m 11 #[.val (.ref a), .val (.long qi), .second] [(.ref a), (.long qi)])) rfl rfl (hb hby d4_11)
    refine Goes.pre (U' := T2.setTop (mkF m 14 #[.val (.ref a), .val (.long qi), .second] [(.long qe), (.long qi)])) (fun t k => st2 t k) ?_
    refine Goes.pre (U' := T2.setTop (mkF m 15 #[.val (.ref a), .val (.long qi), .second] [(.int (lcmpW qi qe))])) (fun t k => XS.lcmp X2.here hx rfl (hb hby d4_14) rfl k) ?_
    by_cases hc15 : (lcmpW qi qe) < (0 : Int32)
    ·
      refine Goes.pre (U' := T2.setTop (mkF m 18 #[.val (.ref a), .val (.long qi), .second] [])) (fun t k => XS.ifNo X2.here hx rfl (hb hby d4_15) rfl ((if0 _ _).trans (tlt hc15).2.1) k) ?_
      refine Goes.pre (U' := T2.setTop (mkF m 19 #[.val (.ref a), .val (.long qi), .second] [(.int (1 : Int32))])) (fun t k => XS.iconst X2.here hx rfl (hb hby d4_18) k) ?_
      refine Goes.pre (U' := T2.setTop (mkF m 23 #[.val (.ref a), .val (.long qi), .second] [(.int (1 : Int32))])) (fun t k => XS.goto X2.here hx rfl (pc0 := 19) (pc' := 23) rfl (hb hby d4_19) (by decide) (by decide) k) ?_
      refine Goes.ret X2 (v := (some (.int (1 : Int32)))) (fun h => by rw [Bd.returns] at h; cases h) Bd.notSynchronized (by decide) (by decide) e2 (fun fs hr => retN X2 hx (t := .boolean) Bd.returns (by simp) (hb hby d4_23) hr) ?_
      exact ⟨congrArg (fun z => some (Value.int z)) (show (1 : Int32) = own_contains qi qf qe from (show own_contains qi qf qe = (1 : Int32) from by unfold own_contains; rw [if_neg hc6, if_pos hc15]).symm), N0, rfl⟩
    ·
      refine Goes.pre (U' := T2.setTop (mkF m 22 #[.val (.ref a), .val (.long qi), .second] [])) (fun t k => XS.ifYes X2.here hx rfl (pc0 := 15) (pc' := 22) rfl (hb hby d4_15) rfl ((if0 _ _).trans (flt hc15).2.1) (by decide) (by decide) k) ?_
      refine Goes.pre (U' := T2.setTop (mkF m 23 #[.val (.ref a), .val (.long qi), .second] [(.int (0 : Int32))])) (fun t k => XS.iconst X2.here hx rfl (hb hby d4_22) k) ?_
      refine Goes.ret X2 (v := (some (.int (0 : Int32)))) (fun h => by rw [Bd.returns] at h; cases h) Bd.notSynchronized (by decide) (by decide) e2 (fun fs hr => retN X2 hx (t := .boolean) Bd.returns (by simp) (hb hby d4_23) hr) ?_
      exact ⟨congrArg (fun z => some (Value.int z)) (show (0 : Int32) = own_contains qi qf qe from (show own_contains qi qf qe = (0 : Int32) from by unfold own_contains; rw [if_neg hc6, if_neg hc15]).symm), N0, rfl⟩
theorem ef_rm_uless (m : MethodId) (x0 : Int64) (x1 : Int64) : entryFrame m #[(.long x0), (.long x1)] 4 = mkF m 0 #[.val (.long x0), .second, .val (.long x1), .second] [] := by first | (simp [entryFrame, mkF, argsToLocals, Value.category]; done) | rfl
theorem pn_com_example_corpo_corpo_samples_SampleWindowContainsPinLaw : plainName "com/example/corpo/corpo/samples/SampleWindowContainsPinLaw" = true := by first | (simp [plainName, overriddenIn]; done) | decide +kernel
theorem d5_0 : decode method_2_code 0 = .ok (.lload_n 0, 1) := by decide +kernel
theorem d5_1 : decode method_2_code 1 = .ok (.ldc2_w 9, 3) := by decide +kernel
theorem d5_4 : decode method_2_code 4 = .ok (.lxor, 1) := by decide +kernel
theorem d5_5 : decode method_2_code 5 = .ok (.lload_n 2, 1) := by decide +kernel
theorem d5_6 : decode method_2_code 6 = .ok (.ldc2_w 9, 3) := by decide +kernel
theorem d5_9 : decode method_2_code 9 = .ok (.lxor, 1) := by decide +kernel
theorem d5_10 : decode method_2_code 10 = .ok (.lcmp, 1) := by decide +kernel
theorem d5_11 : decode method_2_code 11 = .ok (.ifCond .ge 7, 3) := by decide +kernel
theorem d5_14 : decode method_2_code 14 = .ok (.iconst 1, 1) := by decide +kernel
theorem d5_15 : decode method_2_code 15 = .ok (.goto 4, 3) := by decide +kernel
theorem d5_19 : decode method_2_code 19 = .ok (.ireturn, 1) := by decide +kernel
theorem d5_18 : decode method_2_code 18 = .ok (.iconst 0, 1) := by decide +kernel
def own_uless (qa qb : Int64) : Int32 := (if (lcmpW (qa ^^^ (-9223372036854775808 : Int64)) (qb ^^^ (-9223372036854775808 : Int64))) < (0 : Int32) then (1 : Int32) else (0 : Int32))
def Q_rm_uless (Z : State) (qa qb : Int64) (h0 : Heap) (n0 : Nat) (v : Option Value) (h : Heap) (L : List Loc) : Prop := v = some (.int (own_uless qa qb)) ∧ Fr n0 L ∧ h = h0
set_option maxRecDepth 65536 in
set_option maxHeartbeats 40000000 in
theorem rm_uless (l : Launch) (Z : State) (a0 : Array Value) (hw : ∀ d ∈ tables_1, d.before a0 Z = true) (ws : List Jvm.Cond) (qa qb : Int64) (h0 : Heap) (n0 : Nat) (Z0 : n0 ≤ h0.size)  :
    MetFree l (⟨"com/example/corpo/corpo/samples/SampleWindowContainsPinLaw", "unsignedLess", "(JJ)Z"⟩ : MethodName) (head1 (Jvm.Cond.code (⟨"com/example/corpo/corpo/samples/SampleWindowContainsPinLaw", "unsignedLess", "(JJ)Z"⟩ : MethodName) method_2_code 4 (some .boolean) :: ws) ({ frames := 0, cells := 0, slots := 0, locals := 0 } : Room)) (fun argv U => argv = #[(.long qa), (.long qb)] ∧ Z.Warmed39 U.vm ∧ U.heap = h0) (fun _ _ _ _ _ => True) (fun _ U o U' => ∃ v L, o = .returned v ∧ Q_rm_uless Z qa qb h0 n0 v U'.heap L ∧ FrameEnd U o U' L ({ frames := 0, cells := 0, slots := 0, locals := 0 } : Room).cells ({ frames := 0, cells := 0, slots := 0, locals := 0 } : Room).slots) := by
  refine MetFree.of_bodySF (plainFor_of_name pn_com_example_corpo_corpo_samples_SampleWindowContainsPinLaw) hisR ?_
  intro p e s m args below meth c s₁ Bd hml0 hP hK
  obtain ⟨rfl, hZ, hh⟩ := hP
  have hx := Bd.exec
  have hby := Bd.bytes
  have hml : c.maxLocals = 4 := hml0
  have hown : s.vm.findClass "com/example/corpo/corpo/samples/SampleWindowContainsPinLaw" = some m.cls := findClass_of_methodNamed Bd.named
  have hnm := (name_of_methodNamed Bd.named Bd.method).1
  have X0 : Stand p l e ({ frames := 0, cells := 0, slots := 0, locals := 0 } : Room) s m #[(.long qa), (.long qb)] below meth c s₁ [] 0 0 := Stand.of_body Bd
  have e0 : s₁.heap = h0 := by rw [← hh, Bd.state]; rfl
  have N0 := Fr.nil n0
  refine Goes.enter (Q := fun v h L => Q_rm_uless Z qa qb h0 n0 v h L) (C := ({ frames := 0, cells := 0, slots := 0, locals := 0 } : Room).cells) (S := ({ frames := 0, cells := 0, slots := 0, locals := 0 } : Room).slots) (ef_rm_uless m qa qb) ?_
  show Goes p e below s _ _ _ (s₁.setTop (mkF m 0 #[.val (.long qa), .second, .val (.long qb), .second] []))
  refine Goes.pre (U' := s₁.setTop (mkF m 1 #[.val (.long qa), .second, .val (.long qb), .second] [(.long qa)])) (fun t k => XS.lloadN X0.here hx rfl (hb hby d5_0) rfl k) ?_
  refine Goes.pre (U' := s₁.setTop (mkF m 4 #[.val (.long qa), .second, .val (.long qb), .second] [(.long (-9223372036854775808 : Int64)), (.long qa)])) (fun t k => X0.ldc2Long hx hown (mvT hZ (hw _ (List.mem_of_getElem? (i := 27) rfl))) (g := (mkF m 1 #[.val (.long qa), .second, .val (.long qb), .second] [(.long qa)])) rfl (hb hby d5_1) _ k) ?_
  refine Goes.pre (U' := s₁.setTop (mkF m 5 #[.val (.long qa), .second, .val (.long qb), .second] [(.long (qa ^^^ (-9223372036854775808 : Int64)))])) (fun t k => XS.lxor X0.here hx rfl (hb hby d5_4) rfl k) ?_
  refine Goes.pre (U' := s₁.setTop (mkF m 6 #[.val (.long qa), .second, .val (.long qb), .second] [(.long qb), (.long (qa ^^^ (-9223372036854775808 : Int64)))])) (fun t k => XS.lloadN X0.here hx rfl (hb hby d5_5) rfl k) ?_
  refine Goes.pre (U' := s₁.setTop (mkF m 9 #[.val (.long qa), .second, .val (.long qb), .second] [(.long (-9223372036854775808 : Int64)), (.long qb), (.long (qa ^^^ (-9223372036854775808 : Int64)))])) (fun t k => X0.ldc2Long hx hown (mvT hZ (hw _ (List.mem_of_getElem? (i := 27) rfl))) (g := (mkF m 6 #[.val (.long qa), .second, .val (.long qb), .second] [(.long qb), (.long (qa ^^^ (-9223372036854775808 : Int64)))])) rfl (hb hby d5_6) _ k) ?_
  refine Goes.pre (U' := s₁.setTop (mkF m 10 #[.val (.long qa), .second, .val (.long qb), .second] [(.long (qb ^^^ (-9223372036854775808 : Int64))), (.long (qa ^^^ (-9223372036854775808 : Int64)))])) (fun t k => XS.lxor X0.here hx rfl (hb hby d5_9) rfl k) ?_
  refine Goes.pre (U' := s₁.setTop (mkF m 11 #[.val (.long qa), .second, .val (.long qb), .second] [(.int (lcmpW (qa ^^^ (-9223372036854775808 : Int64)) (qb ^^^ (-9223372036854775808 : Int64))))])) (fun t k => XS.lcmp X0.here hx rfl (hb hby d5_10) rfl k) ?_
  by_cases hc11 : (lcmpW (qa ^^^ (-9223372036854775808 : Int64)) (qb ^^^ (-9223372036854775808 : Int64))) < (0 : Int32)
  ·
    refine Goes.pre (U' := s₁.setTop (mkF m 14 #[.val (.long qa), .second, .val (.long qb), .second] [])) (fun t k => XS.ifNo X0.here hx rfl (hb hby d5_11) rfl ((if0 _ _).trans (tlt hc11).2.1) k) ?_
    refine Goes.pre (U' := s₁.setTop (mkF m 15 #[.val (.long qa), .second, .val (.long qb), .second] [(.int (1 : Int32))])) (fun t k => XS.iconst X0.here hx rfl (hb hby d5_14) k) ?_
    refine Goes.pre (U' := s₁.setTop (mkF m 19 #[.val (.long qa), .second, .val (.long qb), .second] [(.int (1 : Int32))])) (fun t k => XS.goto X0.here hx rfl (pc0 := 15) (pc' := 19) rfl (hb hby d5_15) (by decide) (by decide) k) ?_
    refine Goes.ret X0 (v := (some (.int (1 : Int32)))) (fun h => by rw [Bd.returns] at h; cases h) Bd.notSynchronized (by decide) (by decide) e0 (fun fs hr => retN X0 hx (t := .boolean) Bd.returns (by simp) (hb hby d5_19) hr) ?_
    exact ⟨congrArg (fun z => some (Value.int z)) (show (1 : Int32) = own_uless qa qb from (show own_uless qa qb = (1 : Int32) from by unfold own_uless; rw [if_pos hc11]).symm), N0, rfl⟩
  ·
    refine Goes.pre (U' := s₁.setTop (mkF m 18 #[.val (.long qa), .second, .val (.long qb), .second] [])) (fun t k => XS.ifYes X0.here hx rfl (pc0 := 11) (pc' := 18) rfl (hb hby d5_11) rfl ((if0 _ _).trans (flt hc11).2.1) (by decide) (by decide) k) ?_
    refine Goes.pre (U' := s₁.setTop (mkF m 19 #[.val (.long qa), .second, .val (.long qb), .second] [(.int (0 : Int32))])) (fun t k => XS.iconst X0.here hx rfl (hb hby d5_18) k) ?_
    refine Goes.ret X0 (v := (some (.int (0 : Int32)))) (fun h => by rw [Bd.returns] at h; cases h) Bd.notSynchronized (by decide) (by decide) e0 (fun fs hr => retN X0 hx (t := .boolean) Bd.returns (by simp) (hb hby d5_19) hr) ?_
    exact ⟨congrArg (fun z => some (Value.int z)) (show (0 : Int32) = own_uless qa qb from (show own_uless qa qb = (0 : Int32) from by unfold own_uless; rw [if_neg hc11]).symm), N0, rfl⟩
theorem own_xmin (x : Int64) : (x.toInt < 0 → (x ^^^ (-9223372036854775808 : Int64)).toInt = x.toInt + 9223372036854775808) ∧ (0 ≤ x.toInt → (x ^^^ (-9223372036854775808 : Int64)).toInt = x.toInt - 9223372036854775808) := by
  have hn : (x ^^^ (-9223372036854775808 : Int64)).toBitVec.toNat = x.toBitVec.toNat ^^^ 2 ^ 63 := by
    rw [Int64.toBitVec_xor, BitVec.toNat_xor]
    rfl
  have hx : x.toInt = x.toBitVec.toInt := rfl
  have hy : (x ^^^ (-9223372036854775808 : Int64)).toInt = (x ^^^ (-9223372036854775808 : Int64)).toBitVec.toInt := rfl
  rw [hx, hy]
  generalize (x ^^^ (-9223372036854775808 : Int64)).toBitVec = B at hn ⊢
  generalize x.toBitVec = A at hn ⊢
  have ha := A.isLt
  have hb := B.isLt
  have d1 : B.toNat / 2 ^ 63 = (A.toNat / 2 ^ 63) ^^^ 1 := by rw [hn, Nat.xor_div_two_pow]
  have d2 : B.toNat % 2 ^ 63 = A.toNat % 2 ^ 63 := by
    rw [hn, Nat.xor_mod_two_pow]
    show A.toNat % 2 ^ 63 ^^^ 0 = _
    rw [Nat.xor_zero]
  rw [BitVec.toInt_eq_toNat_cond, BitVec.toInt_eq_toNat_cond]
  have q : A.toNat / 2 ^ 63 = 0 ∨ A.toNat / 2 ^ 63 = 1 := by omega
  rcases q with q | q
  · rw [q] at d1
    have d1' : B.toNat / 2 ^ 63 = 1 := d1
    constructor <;> intro h <;> split <;> split at h <;> omega
  · rw [q] at d1
    have d1' : B.toNat / 2 ^ 63 = 0 := d1
    constructor <;> intro h <;> split <;> split at h <;> omega
theorem own_lc (x y : Int64) : (lcmpW x y < 0 ↔ x.toInt < y.toInt) ∧ (0 < lcmpW x y ↔ y.toInt < x.toInt) := ⟨(lw_lt x y).trans Int64.lt_iff_toInt_lt, (lw_gt x y).trans Int64.lt_iff_toInt_lt⟩
theorem own_c1 (i f n : Int64) (h : ¬ (0 < lcmpW n f)) : own_contains i f n = 0 := by
  unfold own_contains
  simp only [(own_lc _ _).1]
  rw [(own_lc _ _).2] at h
  repeat' split
  all_goals first | rfl | (exfalso; omega)
theorem own_c2 (i f n : Int64) (h : 0 < lcmpW n f) : own_contains i f n = own_uless (i - f) (n - f) := by
  unfold own_contains own_uless
  simp only [(own_lc _ _).1]
  rw [(own_lc _ _).2] at h
  have e1 := c_lsub i f
  have e2 := c_lsub n f
  have r1 := rng64 i
  have r2 := rng64 f
  have r3 := rng64 n
  have r4 := rng64 (i - f)
  have r5 := rng64 (n - f)
  have x1 := own_xmin (i - f)
  have x2 := own_xmin (n - f)
  repeat' split
  all_goals first | rfl | (exfalso; omega)
theorem own_c3 (f n : Int64) : own_contains n f n = 0 := by
  unfold own_contains
  simp only [(own_lc _ _).1]
  repeat' split
  all_goals first | rfl | (exfalso; omega)
theorem own_c4 (f n : Int64) (h : 0 < lcmpW n f) : own_contains f f n = 1 := by
  unfold own_contains
  simp only [(own_lc _ _).1]
  rw [(own_lc _ _).2] at h
  repeat' split
  all_goals first | rfl | (exfalso; omega)
theorem own_c5 (f n : Int64) (h : 0 < lcmpW n f) : lcmpW f n < 0 := by rw [(own_lc _ _).1]; rwa [(own_lc _ _).2] at h
theorem own_c6 (f n : Int64) (h : ¬ 0 < lcmpW n f) : ¬ lcmpW f n < 0 := by rw [(own_lc _ _).1]; rwa [(own_lc _ _).2] at h
theorem ef_rm0 (m : MethodId) (x0 : Int64) (x1 : Int64) (x2 : Int64) (x3 : Int32) : entryFrame m #[(.long x0), (.long x1), (.long x2), (.int x3)] maxLocals = mkF m 0 #[.val (.long x0), .second, .val (.long x1), .second, .val (.long x2), .second, .val (.int x3), .unset, .unset, .unset, .unset, .unset, .unset, .unset, .unset, .unset, .unset] [] := by first | (simp [entryFrame, mkF, argsToLocals, Value.category, maxLocals]; done) | rfl
theorem pd__28JJ_29V : parseMethodDescriptor "(JJ)V" = some ⟨[.long, .long], none⟩ := by decide +kernel
theorem pd__28JJ_29Z : parseMethodDescriptor "(JJ)Z" = some ⟨[.long, .long], some .boolean⟩ := by decide +kernel
theorem pd__28J_29Z : parseMethodDescriptor "(J)Z" = some ⟨[.long], some .boolean⟩ := by decide +kernel
def Q_rm0 (Z : State) (p1 p2 p3 : Int64) (p4 : Int32) (h0 : Heap) (n0 : Nat) (v : Option Value) (h : Heap) (L : List Loc) : Prop := v = some (.int 1) ∧ Fr n0 L
set_option maxRecDepth 65536 in
set_option maxHeartbeats 40000000 in
theorem rm0 (l : Launch) (Z : State) (a0 : Array Value) (hw : ∀ d ∈ tables_1, d.before a0 Z = true) (ws : List Jvm.Cond) (p1 p2 p3 : Int64) (p4 : Int32) (h0 : Heap) (n0 : Nat) (Z0 : n0 ≤ h0.size)  :
    MetFree l x (head1 (Jvm.Cond.code x code maxLocals ret :: ws) room_1) (fun argv U => argv = #[(.long p1), (.long p2), (.long p3), (.int p4)] ∧ Z.Warmed39 U.vm ∧ U.heap = h0) (fun _ _ _ _ _ => True) (fun _ U o U' => ∃ v L, o = .returned v ∧ Q_rm0 Z p1 p2 p3 p4 h0 n0 v U'.heap L ∧ FrameEnd U o U' L room_1.cells room_1.slots) := by
  refine MetFree.of_bodySF (plainFor_of_name pn_com_example_corpo_corpo_samples_SampleWindowContainsPinLaw) hisR ?_
  intro p e s m args below meth c s₁ Bd hml0 hP hK
  obtain ⟨rfl, hZ, hh⟩ := hP
  have hx := Bd.exec
  have hby := Bd.bytes
  have hml : c.maxLocals = 17 := hml0
  have hown : s.vm.findClass "com/example/corpo/corpo/samples/SampleWindowContainsPinLaw" = some m.cls := findClass_of_methodNamed Bd.named
  have hnm := (name_of_methodNamed Bd.named Bd.method).1
  have X0 : Stand p l e room_1 s m #[(.long p1), (.long p2), (.long p3), (.int p4)] below meth c s₁ [] 0 0 := Stand.of_body Bd
  have e0 : s₁.heap = h0 := by rw [← hh, Bd.state]; rfl
  have N0 := Fr.nil n0
  refine Goes.enter (Q := fun v h L => Q_rm0 Z p1 p2 p3 p4 h0 n0 v h L) (C := room_1.cells) (S := room_1.slots) (ef_rm0 m p1 p2 p3 p4) ?_
  show Goes p e below s _ _ _ (s₁.setTop (mkF m 0 #[.val (.long p1), .second, .val (.long p2), .second, .val (.long p3), .second, .val (.int p4), .unset, .unset, .unset, .unset, .unset, .unset, .unset, .unset, .unset, .unset] []))
  refine Goes.pre (U' := s₁.setTop (mkF m 2 #[.val (.long p1), .second, .val (.long p2), .second, .val (.long p3), .second, .val (.int p4), .unset, .unset, .unset, .unset, .unset, .unset, .unset, .unset, .unset, .unset] [(.int p4)])) (fun t k => XS.iload X0.here hx rfl (hb hby at_0) rfl k) ?_
  refine Goes.pre (U' := s₁.setTop (mkF m 3 #[.val (.long p1), .second, .val (.long p2), .second, .val (.long p3), .second, .val (.int p4), .unset, .unset, .unset, .unset, .unset, .unset, .unset, .unset, .unset, .unset] [(.int (3 : Int32)), (.int p4)])) (fun t k => XS.iconst X0.here hx rfl (hb hby at_2) k) ?_
  refine Goes.pre (U' := s₁.setTop (mkF m 4 #[.val (.long p1), .second, .val (.long p2), .second, .val (.long p3), .second, .val (.int p4), .unset, .unset, .unset, .unset, .unset, .unset, .unset, .unset, .unset, .unset] [(.int (p4 &&& (3 : Int32)))])) (fun t k => XS.iand X0.here hx rfl (hb hby at_3) rfl k) ?_
  refine Goes.pre (U' := s₁.setTop (mkF m 6 #[.val (.long p1), .second, .val (.long p2), .second, .val (.long p3), .second, .val (.int p4), .val (.int (p4 &&& (3 : Int32))), .unset, .unset, .unset, .unset, .unset, .unset, .unset, .unset, .unset] [])) (fun t k => XS.istore X0.here hx rfl (hb hby at_4) rfl (l' := #[.val (.long p1), .second, .val (.long p2), .second, .val (.long p3), .second, .val (.int p4), .val (.int (p4 &&& (3 : Int32))), .unset, .unset, .unset, .unset, .unset, .unset, .unset, .unset, .unset]) rfl k) ?_
  obtain ⟨md, hmd⟩ : ∃ z : Int32, z = (p4 &&& (3 : Int32)) := ⟨_, rfl⟩
  rw [← hmd]
  refine Goes.pre (U' := s₁.setTop (mkF m 8 #[.val (.long p1), .second, .val (.long p2), .second, .val (.long p3), .second, .val (.int p4), .val (.int md), .unset, .unset, .unset, .unset, .unset, .unset, .unset, .unset, .unset] [(.int p4)])) (fun t k => XS.iload X0.here hx rfl (hb hby at_6) rfl k) ?_
  refine Goes.pre (U' := s₁.setTop (mkF m 9 #[.val (.long p1), .second, .val (.long p2), .second, .val (.long p3), .second, .val (.int p4), .val (.int md), .unset, .unset, .unset, .unset, .unset, .unset, .unset, .unset, .unset] [(.int (2 : Int32)), (.int p4)])) (fun t k => XS.iconst X0.here hx rfl (hb hby at_8) k) ?_
  refine Goes.pre (U' := s₁.setTop (mkF m 10 #[.val (.long p1), .second, .val (.long p2), .second, .val (.long p3), .second, .val (.int p4), .val (.int md), .unset, .unset, .unset, .unset, .unset, .unset, .unset, .unset, .unset] [(.int ((p4.toUInt32 >>> ((2 : Int32) &&& 31).toUInt32).toInt32))])) (fun t k => XS.iushr X0.here hx rfl (hb hby at_9) rfl k) ?_
  refine Goes.pre (U' := s₁.setTop (mkF m 11 #[.val (.long p1), .second, .val (.long p2), .second, .val (.long p3), .second, .val (.int p4), .val (.int md), .unset, .unset, .unset, .unset, .unset, .unset, .unset, .unset, .unset] [(.int (5 : Int32)), (.int ((p4.toUInt32 >>> ((2 : Int32) &&& 31).toUInt32).toInt32))])) (fun t k => XS.iconst X0.here hx rfl (hb hby at_10) k) ?_
  refine Goes.pre (U' := s₁.setTop (mkF m 12 #[.val (.long p1), .second, .val (.long p2), .second, .val (.long p3), .second, .val (.int p4), .val (.int md), .unset, .unset, .unset, .unset, .unset, .unset, .unset, .unset, .unset] [(.int (((p4.toUInt32 >>> ((2 : Int32) &&& 31).toUInt32).toInt32) % (5 : Int32)))])) (fun t k => Jvm.RoadKit.iremM X0 hx rfl (hb hby at_11) rfl (by decide) k) ?_
  refine Goes.pre (U' := s₁.setTop (mkF m 13 #[.val (.long p1), .second, .val (.long p2), .second, .val (.long p3), .second, .val (.int p4), .val (.int md), .unset, .unset, .unset, .unset, .unset, .unset, .unset, .unset, .unset] [(.int (2 : Int32)), (.int (((p4.toUInt32 >>> ((2 : Int32) &&& 31).toUInt32).toInt32) % (5 : Int32)))])) (fun t k => XS.iconst X0.here hx rfl (hb hby at_12) k) ?_
  refine Goes.pre (U' := s₁.setTop (mkF m 14 #[.val (.long p1), .second, .val (.long p2), .second, .val (.long p3), .second, .val (.int p4), .val (.int md), .unset, .unset, .unset, .unset, .unset, .unset, .unset, .unset, .unset] [(.int ((((p4.toUInt32 >>> ((2 : Int32) &&& 31).toUInt32).toInt32) % (5 : Int32)) - (2 : Int32)))])) (fun t k => XS.isub X0.here hx rfl (hb hby at_13) rfl k) ?_
  refine Goes.pre (U' := s₁.setTop (mkF m 15 #[.val (.long p1), .second, .val (.long p2), .second, .val (.long p3), .second, .val (.int p4), .val (.int md), .unset, .unset, .unset, .unset, .unset, .unset, .unset, .unset, .unset] [(.long (((((p4.toUInt32 >>> ((2 : Int32) &&& 31).toUInt32).toInt32) % (5 : Int32)) - (2 : Int32)).toInt64))])) (fun t k => XS.i2l X0.here hx rfl (hb hby at_14) rfl k) ?_
  refine Goes.pre (U' := s₁.setTop (mkF m 17 #[.val (.long p1), .second, .val (.long p2), .second, .val (.long p3), .second, .val (.int p4), .val (.int md), .val (.long (((((p4.toUInt32 >>> ((2 : Int32) &&& 31).toUInt32).toInt32) % (5 : Int32)) - (2 : Int32)).toInt64)), .second, .unset, .unset, .unset, .unset, .unset, .unset, .unset] [])) (fun t k => XS.lstore X0.here hx rfl (hb hby at_15) rfl (l' := #[.val (.long p1), .second, .val (.long p2), .second, .val (.long p3), .second, .val (.int p4), .val (.int md), .val (.long (((((p4.toUInt32 >>> ((2 : Int32) &&& 31).toUInt32).toInt32) % (5 : Int32)) - (2 : Int32)).toInt64)), .second, .unset, .unset, .unset, .unset, .unset, .unset, .unset]) rfl k) ?_
  obtain ⟨dl, hdl⟩ : ∃ z : Int64, z = (((((p4.toUInt32 >>> ((2 : Int32) &&& 31).toUInt32).toInt32) % (5 : Int32)) - (2 : Int32)).toInt64) := ⟨_, rfl⟩
  rw [← hdl]
  suffices J51_1 : ∀ (ix : Int64), Goes p e below s (fun v h L => Q_rm0 Z p1 p2 p3 p4 h0 n0 v h L) room_1.cells room_1.slots (s₁.setTop (mkF m 51 #[.val (.long p1), .second, .val (.long p2), .second, .val (.long p3), .second, .val (.int p4), .val (.int md), .val (.long dl), .second, .val (.long ix), .second, .unset, .unset, .unset, .unset, .unset] [])) by
    refine Goes.pre (U' := s₁.setTop (mkF m 19 #[.val (.long p1), .second, .val (.long p2), .second, .val (.long p3), .second, .val (.int p4), .val (.int md), .val (.long dl), .second, .unset, .unset, .unset, .unset, .unset, .unset, .unset] [(.int md)])) (fun t k => XS.iload X0.here hx rfl (hb hby at_17) rfl k) ?_
    refine Goes.pre (U' := s₁.setTop (mkF m 20 #[.val (.long p1), .second, .val (.long p2), .second, .val (.long p3), .second, .val (.int p4), .val (.int md), .val (.long dl), .second, .unset, .unset, .unset, .unset, .unset, .unset, .unset] [(.int (1 : Int32)), (.int md)])) (fun t k => XS.iconst X0.here hx rfl (hb hby at_19) k) ?_
    by_cases hc20 : md = (1 : Int32)
    ·
      refine Goes.pre (U' := s₁.setTop (mkF m 23 #[.val (.long p1), .second, .val (.long p2), .second, .val (.long p3), .second, .val (.int p4), .val (.int md), .val (.long dl), .second, .unset, .unset, .unset, .unset, .unset, .unset, .unset] [])) (fun t k => XS.icmpNo X0.here hx rfl (hb hby at_20) rfl (teq hc20).2 k) ?_
      refine Goes.pre (U' := s₁.setTop (mkF m 24 #[.val (.long p1), .second, .val (.long p2), .second, .val (.long p3), .second, .val (.int p4), .val (.int md), .val (.long dl), .second, .unset, .unset, .unset, .unset, .unset, .unset, .unset] [(.long p1)])) (fun t k => XS.lloadN X0.here hx rfl (hb hby at_23) rfl k) ?_
      refine Goes.pre (U' := s₁.setTop (mkF m 26 #[.val (.long p1), .second, .val (.long p2), .second, .val (.long p3), .second, .val (.int p4), .val (.int md), .val (.long dl), .second, .unset, .unset, .unset, .unset, .unset, .unset, .unset] [(.long dl), (.long p1)])) (fun t k => XS.lload X0.here hx rfl (hb hby at_24) rfl k) ?_
      refine Goes.pre (U' := s₁.setTop (mkF m 27 #[.val (.long p1), .second, .val (.long p2), .second, .val (.long p3), .second, .val (.int p4), .val (.int md), .val (.long dl), .second, .unset, .unset, .unset, .unset, .unset, .unset, .unset] [(.long (p1 + dl))])) (fun t k => XS.ladd X0.here hx rfl (hb hby at_26) rfl k) ?_
      refine Goes.pre (U' := s₁.setTop (mkF m 29 #[.val (.long p1), .second, .val (.long p2), .second, .val (.long p3), .second, .val (.int p4), .val (.int md), .val (.long dl), .second, .val (.long (p1 + dl)), .second, .unset, .unset, .unset, .unset, .unset] [])) (fun t k => XS.lstore X0.here hx rfl (hb hby at_27) rfl (l' := #[.val (.long p1), .second, .val (.long p2), .second, .val (.long p3), .second, .val (.int p4), .val (.int md), .val (.long dl), .second, .val (.long (p1 + dl)), .second, .unset, .unset, .unset, .unset, .unset]) rfl k) ?_
      refine Goes.pre (U' := s₁.setTop (mkF m 51 #[.val (.long p1), .second, .val (.long p2), .second, .val (.long p3), .second, .val (.int p4), .val (.int md), .val (.long dl), .second, .val (.long (p1 + dl)), .second, .unset, .unset, .unset, .unset, .unset] [])) (fun t k => XS.goto X0.here hx rfl (pc0 := 29) (pc' := 51) rfl (hb hby at_29) (by decide) (by decide) k) ?_
      exact J51_1 (p1 + dl)
    ·
      refine Goes.pre (U' := s₁.setTop (mkF m 32 #[.val (.long p1), .second, .val (.long p2), .second, .val (.long p3), .second, .val (.int p4), .val (.int md), .val (.long dl), .second, .unset, .unset, .unset, .unset, .unset, .unset, .unset] [])) (fun t k => XS.icmpYes X0.here hx rfl (pc0 := 20) (pc' := 32) rfl (hb hby at_20) rfl (feq hc20).2 (by decide) (by decide) k) ?_
      refine Goes.pre (U' := s₁.setTop (mkF m 34 #[.val (.long p1), .second, .val (.long p2), .second, .val (.long p3), .second, .val (.int p4), .val (.int md), .val (.long dl), .second, .unset, .unset, .unset, .unset, .unset, .unset, .unset] [(.int md)])) (fun t k => XS.iload X0.here hx rfl (hb hby at_32) rfl k) ?_
      refine Goes.pre (U' := s₁.setTop (mkF m 35 #[.val (.long p1), .second, .val (.long p2), .second, .val (.long p3), .second, .val (.int p4), .val (.int md), .val (.long dl), .second, .unset, .unset, .unset, .unset, .unset, .unset, .unset] [(.int (2 : Int32)), (.int md)])) (fun t k => XS.iconst X0.here hx rfl (hb hby at_34) k) ?_
      by_cases hc35 : md = (2 : Int32)
      ·
        refine Goes.pre (U' := s₁.setTop (mkF m 38 #[.val (.long p1), .second, .val (.long p2), .second, .val (.long p3), .second, .val (.int p4), .val (.int md), .val (.long dl), .second, .unset, .unset, .unset, .unset, .unset, .unset, .unset] [])) (fun t k => XS.icmpNo X0.here hx rfl (hb hby at_35) rfl (teq hc35).2 k) ?_
        refine Goes.pre (U' := s₁.setTop (mkF m 39 #[.val (.long p1), .second, .val (.long p2), .second, .val (.long p3), .second, .val (.int p4), .val (.int md), .val (.long dl), .second, .unset, .unset, .unset, .unset, .unset, .unset, .unset] [(.long p2)])) (fun t k => XS.lloadN X0.here hx rfl (hb hby at_38) rfl k) ?_
        refine Goes.pre (U' := s₁.setTop (mkF m 41 #[.val (.long p1), .second, .val (.long p2), .second, .val (.long p3), .second, .val (.int p4), .val (.int md), .val (.long dl), .second, .unset, .unset, .unset, .unset, .unset, .unset, .unset] [(.long dl), (.long p2)])) (fun t k => XS.lload X0.here hx rfl (hb hby at_39) rfl k) ?_
        refine Goes.pre (U' := s₁.setTop (mkF m 42 #[.val (.long p1), .second, .val (.long p2), .second, .val (.long p3), .second, .val (.int p4), .val (.int md), .val (.long dl), .second, .unset, .unset, .unset, .unset, .unset, .unset, .unset] [(.long (p2 + dl))])) (fun t k => XS.ladd X0.here hx rfl (hb hby at_41) rfl k) ?_
        refine Goes.pre (U' := s₁.setTop (mkF m 44 #[.val (.long p1), .second, .val (.long p2), .second, .val (.long p3), .second, .val (.int p4), .val (.int md), .val (.long dl), .second, .val (.long (p2 + dl)), .second, .unset, .unset, .unset, .unset, .unset] [])) (fun t k => XS.lstore X0.here hx rfl (hb hby at_42) rfl (l' := #[.val (.long p1), .second, .val (.long p2), .second, .val (.long p3), .second, .val (.int p4), .val (.int md), .val (.long dl), .second, .val (.long (p2 + dl)), .second, .unset, .unset, .unset, .unset, .unset]) rfl k) ?_
        refine Goes.pre (U' := s₁.setTop (mkF m 51 #[.val (.long p1), .second, .val (.long p2), .second, .val (.long p3), .second, .val (.int p4), .val (.int md), .val (.long dl), .second, .val (.long (p2 + dl)), .second, .unset, .unset, .unset, .unset, .unset] [])) (fun t k => XS.goto X0.here hx rfl (pc0 := 44) (pc' := 51) rfl (hb hby at_44) (by decide) (by decide) k) ?_
        exact J51_1 (p2 + dl)
      ·
        refine Goes.pre (U' := s₁.setTop (mkF m 47 #[.val (.long p1), .second, .val (.long p2), .second, .val (.long p3), .second, .val (.int p4), .val (.int md), .val (.long dl), .second, .unset, .unset, .unset, .unset, .unset, .unset, .unset] [])) (fun t k => XS.icmpYes X0.here hx rfl (pc0 := 35) (pc' := 47) rfl (hb hby at_35) rfl (feq hc35).2 (by decide) (by decide) k) ?_
        refine Goes.pre (U' := s₁.setTop (mkF m 49 #[.val (.long p1), .second, .val (.long p2), .second, .val (.long p3), .second, .val (.int p4), .val (.int md), .val (.long dl), .second, .unset, .unset, .unset, .unset, .unset, .unset, .unset] [(.long p3)])) (fun t k => XS.lload X0.here hx rfl (hb hby at_47) rfl k) ?_
        refine Goes.pre (U' := s₁.setTop (mkF m 51 #[.val (.long p1), .second, .val (.long p2), .second, .val (.long p3), .second, .val (.int p4), .val (.int md), .val (.long dl), .second, .val (.long p3), .second, .unset, .unset, .unset, .unset, .unset] [])) (fun t k => XS.lstore X0.here hx rfl (hb hby at_49) rfl (l' := #[.val (.long p1), .second, .val (.long p2), .second, .val (.long p3), .second, .val (.int p4), .val (.int md), .val (.long dl), .second, .val (.long p3), .second, .unset, .unset, .unset, .unset, .unset]) rfl k) ?_
        exact J51_1 p3
  intro ix
  obtain ⟨T3, h3, X3, e3, E3, A3, D3, -, st3⟩ := newO X0 hx hZ hown (hw _ (List.mem_of_getElem? (i := 0) rfl)) (hw _ (List.mem_of_getElem? (i := 1) rfl)) (hw _ (List.mem_of_getElem? (i := 2) rfl)) e0 (g := (mkF m 51 #[.val (.long p1), .second, .val (.long p2), .second, .val (.long p3), .second, .val (.int p4), .val (.int md), .val (.long dl), .second, .val (.long ix), .second, .unset, .unset, .unset, .unset, .unset] [])) rfl (hb hby at_51) (by decide) (by decide)
  obtain ⟨a, g3⟩ : ∃ z, z = h0.size := ⟨_, rfl⟩
  rw [← g3] at A3 D3 st3
  have g_a : n0 ≤ a := Nat.le_trans Z0 (Nat.le_of_eq g3.symm)
  have Z3 : n0 ≤ h3.size := Nat.le_trans Z0 E3.1
  have E_a := A3
  have F_first_a : Fld Z h3 a "com/example/corpo/corpo/samples/SampleWindow" "first" "J" (.long (0 : Int64)) := D3 (Or.inr (hw _ (List.mem_of_getElem? (i := 15) rfl))) (ty := .long) (by decide)
  have F_end_a : Fld Z h3 a "com/example/corpo/corpo/samples/SampleWindow" "end" "J" (.long (0 : Int64)) := D3 (Or.inr (hw _ (List.mem_of_getElem? (i := 17) rfl))) (ty := .long) (by decide)
  refine Goes.pre (U' := T3.setTop (mkF m 54 #[.val (.long p1), .second, .val (.long p2), .second, .val (.long p3), .second, .val (.int p4), .val (.int md), .val (.long dl), .second, .val (.long ix), .second, .unset, .unset, .unset, .unset, .unset] [(.ref a)])) (fun t k => st3 t k) ?_
  refine Goes.pre (U' := T3.setTop (mkF m 55 #[.val (.long p1), .second, .val (.long p2), .second, .val (.long p3), .second, .val (.int p4), .val (.int md), .val (.long dl), .second, .val (.long ix), .second, .unset, .unset, .unset, .unset, .unset] [(.ref a), (.ref a)])) (fun t k => XS.dup X3.here hx rfl (hb hby at_54) rfl rfl k) ?_
  refine Goes.pre (U' := T3.setTop (mkF m 56 #[.val (.long p1), .second, .val (.long p2), .second, .val (.long p3), .second, .val (.int p4), .val (.int md), .val (.long dl), .second, .val (.long ix), .second, .unset, .unset, .unset, .unset, .unset] [(.long p1), (.ref a), (.ref a)])) (fun t k => XS.lloadN X3.here hx rfl (hb hby at_55) rfl k) ?_
  refine Goes.pre (U' := T3.setTop (mkF m 57 #[.val (.long p1), .second, .val (.long p2), .second, .val (.long p3), .second, .val (.int p4), .val (.int md), .val (.long dl), .second, .val (.long ix), .second, .unset, .unset, .unset, .unset, .unset] [(.long p2), (.long p1), (.ref a), (.ref a)])) (fun t k => XS.lloadN X3.here hx rfl (hb hby at_56) rfl k) ?_
  obtain ⟨_, _, ⟨T4, L4, k4, n4⟩, -, X4, ⟨Lc4, hQ4, l4, y4, z4⟩, st4⟩ := X3.specialBack hx (y := (⟨"com/example/corpo/corpo/samples/SampleWindow", "<init>", "(JJ)V"⟩ : MethodName)) rfl hown (mvT hZ (hw _ (List.mem_of_getElem? (i := 3) rfl))) (mvT hZ (hw _ (List.mem_of_getElem? (i := 4) rfl))) (mvT hZ (hw _ (List.mem_of_getElem? (i := 5) rfl))) (by decide) (backOf (W := 1) (rm_init l Z a0 hw [] a p1 p2 h3 n0 Z3 E_a F_first_a F_end_a g_a) hZ (hw _ (List.mem_of_getElem? (i := 5) rfl)) (hw _ (List.mem_of_getElem? (i := 2) rfl)) (by decide) (by decide)) (g := (mkF m 57 #[.val (.long p1), .second, .val (.long p2), .second, .val (.long p3), .second, .val (.int p4), .val (.int md), .val (.long dl), .second, .val (.long ix), .second, .unset, .unset, .unset, .unset, .unset] [(.long p2), (.long p1), (.ref a), (.ref a)])) rfl (by rw [hml]; rfl) (Steps.refl _) (a := a) (argsL := [(.long p1), (.long p2)]) (rest := [(.ref a)]) (lenOf pd__28JJ_29V rfl) rfl (by show 2 * 0 + _ ≤ _; exact Nat.le_of_eq rfl) (hb hby at_57) (fun _ _ => ⟨rfl, e3, (by decide : 1 + 0 ≤ _), (by decide : 2 + 0 ≤ _)⟩)
  dsimp only [Pt.U, Pt.locs, Pt.cells, Pt.slots] at X4 l4 y4 z4 st4 hQ4
  subst l4 y4 z4
  obtain ⟨rfl, N4q, KQ4, fqfirst_4, fqend_4⟩ := hQ4
  have N4 := Fr.app N0 N4q
  have E_a := E_a.keep KQ4
  have Z5 : n0 ≤ T4.heap.size := Nat.le_trans Z3 KQ4.1
  have F_first_a := fqfirst_4
  have F_end_a := fqend_4
  refine Goes.pre (U' := T4.setTop (mkF m 60 #[.val (.long p1), .second, .val (.long p2), .second, .val (.long p3), .second, .val (.int p4), .val (.int md), .val (.long dl), .second, .val (.long ix), .second, .unset, .unset, .unset, .unset, .unset] [(.ref a)])) (fun t k => st4.trans k) ?_
  refine Goes.pre (U' := T4.setTop (mkF m 62 #[.val (.long p1), .second, .val (.long p2), .second, .val (.long p3), .second, .val (.int p4), .val (.int md), .val (.long dl), .second, .val (.long ix), .second, .val (.ref a), .unset, .unset, .unset, .unset] [])) (fun t k => XS.astore X4.here hx rfl (hb hby at_60) rfl rfl (l' := #[.val (.long p1), .second, .val (.long p2), .second, .val (.long p3), .second, .val (.int p4), .val (.int md), .val (.long dl), .second, .val (.long ix), .second, .val (.ref a), .unset, .unset, .unset, .unset]) rfl k) ?_
  refine Goes.pre (U' := T4.setTop (mkF m 63 #[.val (.long p1), .second, .val (.long p2), .second, .val (.long p3), .second, .val (.int p4), .val (.int md), .val (.long dl), .second, .val (.long ix), .second, .val (.ref a), .unset, .unset, .unset, .unset] [(.long p2)])) (fun t k => XS.lloadN X4.here hx rfl (hb hby at_62) rfl k) ?_
  refine Goes.pre (U' := T4.setTop (mkF m 64 #[.val (.long p1), .second, .val (.long p2), .second, .val (.long p3), .second, .val (.int p4), .val (.int md), .val (.long dl), .second, .val (.long ix), .second, .val (.ref a), .unset, .unset, .unset, .unset] [(.long p1), (.long p2)])) (fun t k => XS.lloadN X4.here hx rfl (hb hby at_63) rfl k) ?_
  refine Goes.pre (U' := T4.setTop (mkF m 65 #[.val (.long p1), .second, .val (.long p2), .second, .val (.long p3), .second, .val (.int p4), .val (.int md), .val (.long dl), .second, .val (.long ix), .second, .val (.ref a), .unset, .unset, .unset, .unset] [(.int (lcmpW p2 p1))])) (fun t k => XS.lcmp X4.here hx rfl (hb hby at_64) rfl k) ?_
  by_cases hc65 : (0 : Int32) < (lcmpW p2 p1)
  ·
    refine Goes.pre (U' := T4.setTop (mkF m 74 #[.val (.long p1), .second, .val (.long p2), .second, .val (.long p3), .second, .val (.int p4), .val (.int md), .val (.long dl), .second, .val (.long ix), .second, .val (.ref a), .unset, .unset, .unset, .unset] [])) (fun t k => XS.ifYes X4.here hx rfl (pc0 := 65) (pc' := 74) rfl (hb hby at_65) rfl ((if0 _ _).trans (tlt hc65).2.2.1) (by decide) (by decide) k) ?_
    refine Goes.pre (U' := T4.setTop (mkF m 76 #[.val (.long p1), .second, .val (.long p2), .second, .val (.long p3), .second, .val (.int p4), .val (.int md), .val (.long dl), .second, .val (.long ix), .second, .val (.ref a), .unset, .unset, .unset, .unset] [(.long ix)])) (fun t k => XS.lload X4.here hx rfl (hb hby at_74) rfl k) ?_
    refine Goes.pre (U' := T4.setTop (mkF m 77 #[.val (.long p1), .second, .val (.long p2), .second, .val (.long p3), .second, .val (.int p4), .val (.int md), .val (.long dl), .second, .val (.long ix), .second, .val (.ref a), .unset, .unset, .unset, .unset] [(.long p1), (.long ix)])) (fun t k => XS.lloadN X4.here hx rfl (hb hby at_76) rfl k) ?_
    refine Goes.pre (U' := T4.setTop (mkF m 78 #[.val (.long p1), .second, .val (.long p2), .second, .val (.long p3), .second, .val (.int p4), .val (.int md), .val (.long dl), .second, .val (.long ix), .second, .val (.ref a), .unset, .unset, .unset, .unset] [(.long (ix - p1))])) (fun t k => XS.lsub X4.here hx rfl (hb hby at_77) rfl k) ?_
    refine Goes.pre (U' := T4.setTop (mkF m 79 #[.val (.long p1), .second, .val (.long p2), .second, .val (.long p3), .second, .val (.int p4), .val (.int md), .val (.long dl), .second, .val (.long ix), .second, .val (.ref a), .unset, .unset, .unset, .unset] [(.long p2), (.long (ix - p1))])) (fun t k => XS.lloadN X4.here hx rfl (hb hby at_78) rfl k) ?_
    refine Goes.pre (U' := T4.setTop (mkF m 80 #[.val (.long p1), .second, .val (.long p2), .second, .val (.long p3), .second, .val (.int p4), .val (.int md), .val (.long dl), .second, .val (.long ix), .second, .val (.ref a), .unset, .unset, .unset, .unset] [(.long p1), (.long p2), (.long (ix - p1))])) (fun t k => XS.lloadN X4.here hx rfl (hb hby at_79) rfl k) ?_
    refine Goes.pre (U' := T4.setTop (mkF m 81 #[.val (.long p1), .second, .val (.long p2), .second, .val (.long p3), .second, .val (.int p4), .val (.int md), .val (.long dl), .second, .val (.long ix), .second, .val (.ref a), .unset, .unset, .unset, .unset] [(.long (p2 - p1)), (.long (ix - p1))])) (fun t k => XS.lsub X4.here hx rfl (hb hby at_80) rfl k) ?_
    obtain ⟨_, _, ⟨T6, L6, k6, n6⟩, -, X6, ⟨Lc6, hQ6, l6, y6, z6⟩, st6⟩ := Jvm.LawKit.callS X4 hx (y := (⟨"com/example/corpo/corpo/samples/SampleWindowContainsPinLaw", "unsignedLess", "(JJ)Z"⟩ : MethodName)) hown (mvT hZ (hw _ (List.mem_of_getElem? (i := 23) rfl))) (mvT hZ (hw _ (List.mem_of_getElem? (i := 24) rfl))) (mvT hZ (hw _ (List.mem_of_getElem? (i := 25) rfl))) (mvT hZ (hw _ (List.mem_of_getElem? (i := 26) rfl))) (by decide) (backOf (W := 0) (rm_uless l Z a0 hw [] (ix - p1) (p2 - p1) T4.heap n0 Z5) hZ (hw _ (List.mem_of_getElem? (i := 26) rfl)) (hw _ (List.mem_of_getElem? (i := 25) rfl)) (by decide) (by decide)) (g := (mkF m 81 #[.val (.long p1), .second, .val (.long p2), .second, .val (.long p3), .second, .val (.int p4), .val (.int md), .val (.long dl), .second, .val (.long ix), .second, .val (.ref a), .unset, .unset, .unset, .unset] [(.long (p2 - p1)), (.long (ix - p1))])) rfl (by rw [hml]; rfl) (argsL := [(.long (ix - p1)), (.long (p2 - p1))]) (rest := []) (lenOf pd__28JJ_29Z rfl) rfl (by show 2 * 0 + _ ≤ _; exact Nat.le_of_eq rfl) (hb hby at_81) (fun _ _ => ⟨rfl, rfl, (by decide : 1 + 0 ≤ _), (by decide : 2 + 0 ≤ _)⟩)
    dsimp only [Pt.U, Pt.locs, Pt.cells, Pt.slots] at X6 l6 y6 z6 st6 hQ6
    subst l6 y6 z6
    obtain ⟨rfl, N6q, HQ6⟩ := hQ6
    have N6 := Fr.app N4 N6q
    refine Goes.pre (U' := T6.setTop (mkF m 84 #[.val (.long p1), .second, .val (.long p2), .second, .val (.long p3), .second, .val (.int p4), .val (.int md), .val (.long dl), .second, .val (.long ix), .second, .val (.ref a), .unset, .unset, .unset, .unset] [(.int (own_uless (ix - p1) (p2 - p1)))])) (fun t k => st6 t k) ?_
    refine Goes.pre (U' := T6.setTop (mkF m 86 #[.val (.long p1), .second, .val (.long p2), .second, .val (.long p3), .second, .val (.int p4), .val (.int md), .val (.long dl), .second, .val (.long ix), .second, .val (.ref a), .val (.int (own_uless (ix - p1) (p2 - p1))), .unset, .unset, .unset] [])) (fun t k => XS.istore X6.here hx rfl (hb hby at_84) rfl (l' := #[.val (.long p1), .second, .val (.long p2), .second, .val (.long p3), .second, .val (.int p4), .val (.int md), .val (.long dl), .second, .val (.long ix), .second, .val (.ref a), .val (.int (own_uless (ix - p1) (p2 - p1))), .unset, .unset, .unset]) rfl k) ?_
    refine Goes.pre (U' := T6.setTop (mkF m 88 #[.val (.long p1), .second, .val (.long p2), .second, .val (.long p3), .second, .val (.int p4), .val (.int md), .val (.long dl), .second, .val (.long ix), .second, .val (.ref a), .val (.int (own_uless (ix - p1) (p2 - p1))), .unset, .unset, .unset] [(.ref a)])) (fun t k => XS.aload X6.here hx rfl (hb hby at_86) rfl rfl k) ?_
    refine Goes.pre (U' := T6.setTop (mkF m 90 #[.val (.long p1), .second, .val (.long p2), .second, .val (.long p3), .second, .val (.int p4), .val (.int md), .val (.long dl), .second, .val (.long ix), .second, .val (.ref a), .val (.int (own_uless (ix - p1) (p2 - p1))), .unset, .unset, .unset] [(.long ix), (.ref a)])) (fun t k => XS.lload X6.here hx rfl (hb hby at_88) rfl k) ?_
    obtain ⟨cq7, kq7, q7a, q7b, q7c⟩ := isOf hZ HQ6 E_a
    obtain ⟨_, _, ⟨T7, L7, k7, n7⟩, -, X7, ⟨Lc7, hQ7, l7, y7, z7⟩, st7⟩ := X6.virtualBack hx (y := (⟨"com/example/corpo/corpo/samples/SampleWindow", "contains", "(J)Z"⟩ : MethodName)) (z := (⟨"com/example/corpo/corpo/samples/SampleWindow", "contains", "(J)Z"⟩ : MethodName)) hown (mvT hZ (hw _ (List.mem_of_getElem? (i := 18) rfl))) (mvT hZ (hw _ (List.mem_of_getElem? (i := 19) rfl))) (notFace_of_selects (args := #[]) (mvT hZ (hw _ (List.mem_of_getElem? (i := 21) rfl)))) (mvT hZ (hw _ (List.mem_of_getElem? (i := 21) rfl))) (mvT hZ (hw _ (List.mem_of_getElem? (i := 20) rfl))) (by decide) (backOf (W := 0) (rm_contains l Z a0 hw [] a ix p1 p2 T4.heap n0 Z5 F_first_a F_end_a) hZ (hw _ (List.mem_of_getElem? (i := 22) rfl)) (hw _ (List.mem_of_getElem? (i := 2) rfl)) (by decide) (by decide)) q7a q7c (g := (mkF m 90 #[.val (.long p1), .second, .val (.long p2), .second, .val (.long p3), .second, .val (.int p4), .val (.int md), .val (.long dl), .second, .val (.long ix), .second, .val (.ref a), .val (.int (own_uless (ix - p1) (p2 - p1))), .unset, .unset, .unset] [(.long ix), (.ref a)])) rfl (by rw [hml]; rfl) (Steps.refl _) (argsL := [(.long ix)]) (rest := []) (lenOf pd__28J_29Z rfl) rfl (by show 2 * 0 + _ ≤ _; exact Nat.le_of_eq rfl) (hb hby at_90) (fun _ _ => ⟨rfl, HQ6, (by decide : 1 + 0 ≤ _), (by decide : 2 + 0 ≤ _)⟩)
    dsimp only [Pt.U, Pt.locs, Pt.cells, Pt.slots] at X7 l7 y7 z7 st7 hQ7
    subst l7 y7 z7
    obtain ⟨rfl, N7q, HQ7⟩ := hQ7
    have N7 := Fr.app N6 N7q
    refine Goes.pre (U' := T7.setTop (mkF m 93 #[.val (.long p1), .second, .val (.long p2), .second, .val (.long p3), .second, .val (.int p4), .val (.int md), .val (.long dl), .second, .val (.long ix), .second, .val (.ref a), .val (.int (own_uless (ix - p1) (p2 - p1))), .unset, .unset, .unset] [(.int (own_contains ix p1 p2))])) (fun t k => st7.trans k) ?_
    refine Goes.pre (U' := T7.setTop (mkF m 95 #[.val (.long p1), .second, .val (.long p2), .second, .val (.long p3), .second, .val (.int p4), .val (.int md), .val (.long dl), .second, .val (.long ix), .second, .val (.ref a), .val (.int (own_uless (ix - p1) (p2 - p1))), .val (.int (own_contains ix p1 p2)), .unset, .unset] [])) (fun t k => XS.istore X7.here hx rfl (hb hby at_93) rfl (l' := #[.val (.long p1), .second, .val (.long p2), .second, .val (.long p3), .second, .val (.int p4), .val (.int md), .val (.long dl), .second, .val (.long ix), .second, .val (.ref a), .val (.int (own_uless (ix - p1) (p2 - p1))), .val (.int (own_contains ix p1 p2)), .unset, .unset]) rfl k) ?_
    refine Goes.pre (U' := T7.setTop (mkF m 97 #[.val (.long p1), .second, .val (.long p2), .second, .val (.long p3), .second, .val (.int p4), .val (.int md), .val (.long dl), .second, .val (.long ix), .second, .val (.ref a), .val (.int (own_uless (ix - p1) (p2 - p1))), .val (.int (own_contains ix p1 p2)), .unset, .unset] [(.ref a)])) (fun t k => XS.aload X7.here hx rfl (hb hby at_95) rfl rfl k) ?_
    refine Goes.pre (U' := T7.setTop (mkF m 98 #[.val (.long p1), .second, .val (.long p2), .second, .val (.long p3), .second, .val (.int p4), .val (.int md), .val (.long dl), .second, .val (.long ix), .second, .val (.ref a), .val (.int (own_uless (ix - p1) (p2 - p1))), .val (.int (own_contains ix p1 p2)), .unset, .unset] [(.long p2), (.ref a)])) (fun t k => XS.lloadN X7.here hx rfl (hb hby at_97) rfl k) ?_
    obtain ⟨cq8, kq8, q8a, q8b, q8c⟩ := isOf hZ HQ7 E_a
    obtain ⟨_, _, ⟨T8, L8, k8, n8⟩, -, X8, ⟨Lc8, hQ8, l8, y8, z8⟩, st8⟩ := X7.virtualBack hx (y := (⟨"com/example/corpo/corpo/samples/SampleWindow", "contains", "(J)Z"⟩ : MethodName)) (z := (⟨"com/example/corpo/corpo/samples/SampleWindow", "contains", "(J)Z"⟩ : MethodName)) hown (mvT hZ (hw _ (List.mem_of_getElem? (i := 18) rfl))) (mvT hZ (hw _ (List.mem_of_getElem? (i := 19) rfl))) (notFace_of_selects (args := #[]) (mvT hZ (hw _ (List.mem_of_getElem? (i := 21) rfl)))) (mvT hZ (hw _ (List.mem_of_getElem? (i := 21) rfl))) (mvT hZ (hw _ (List.mem_of_getElem? (i := 20) rfl))) (by decide) (backOf (W := 0) (rm_contains l Z a0 hw [] a p2 p1 p2 T4.heap n0 Z5 F_first_a F_end_a) hZ (hw _ (List.mem_of_getElem? (i := 22) rfl)) (hw _ (List.mem_of_getElem? (i := 2) rfl)) (by decide) (by decide)) q8a q8c (g := (mkF m 98 #[.val (.long p1), .second, .val (.long p2), .second, .val (.long p3), .second, .val (.int p4), .val (.int md), .val (.long dl), .second, .val (.long ix), .second, .val (.ref a), .val (.int (own_uless (ix - p1) (p2 - p1))), .val (.int (own_contains ix p1 p2)), .unset, .unset] [(.long p2), (.ref a)])) rfl (by rw [hml]; rfl) (Steps.refl _) (argsL := [(.long p2)]) (rest := []) (lenOf pd__28J_29Z rfl) rfl (by show 2 * 0 + _ ≤ _; exact Nat.le_of_eq rfl) (hb hby at_98) (fun _ _ => ⟨rfl, HQ7, (by decide : 1 + 0 ≤ _), (by decide : 2 + 0 ≤ _)⟩)
    dsimp only [Pt.U, Pt.locs, Pt.cells, Pt.slots] at X8 l8 y8 z8 st8 hQ8
    subst l8 y8 z8
    obtain ⟨rfl, N8q, HQ8⟩ := hQ8
    have N8 := Fr.app N7 N8q
    refine Goes.pre (U' := T8.setTop (mkF m 101 #[.val (.long p1), .second, .val (.long p2), .second, .val (.long p3), .second, .val (.int p4), .val (.int md), .val (.long dl), .second, .val (.long ix), .second, .val (.ref a), .val (.int (own_uless (ix - p1) (p2 - p1))), .val (.int (own_contains ix p1 p2)), .unset, .unset] [(.int (own_contains p2 p1 p2))])) (fun t k => st8.trans k) ?_
    refine Goes.pre (U' := T8.setTop (mkF m 103 #[.val (.long p1), .second, .val (.long p2), .second, .val (.long p3), .second, .val (.int p4), .val (.int md), .val (.long dl), .second, .val (.long ix), .second, .val (.ref a), .val (.int (own_uless (ix - p1) (p2 - p1))), .val (.int (own_contains ix p1 p2)), .val (.int (own_contains p2 p1 p2)), .unset] [])) (fun t k => XS.istore X8.here hx rfl (hb hby at_101) rfl (l' := #[.val (.long p1), .second, .val (.long p2), .second, .val (.long p3), .second, .val (.int p4), .val (.int md), .val (.long dl), .second, .val (.long ix), .second, .val (.ref a), .val (.int (own_uless (ix - p1) (p2 - p1))), .val (.int (own_contains ix p1 p2)), .val (.int (own_contains p2 p1 p2)), .unset]) rfl k) ?_
    refine Goes.pre (U' := T8.setTop (mkF m 105 #[.val (.long p1), .second, .val (.long p2), .second, .val (.long p3), .second, .val (.int p4), .val (.int md), .val (.long dl), .second, .val (.long ix), .second, .val (.ref a), .val (.int (own_uless (ix - p1) (p2 - p1))), .val (.int (own_contains ix p1 p2)), .val (.int (own_contains p2 p1 p2)), .unset] [(.ref a)])) (fun t k => XS.aload X8.here hx rfl (hb hby at_103) rfl rfl k) ?_
    refine Goes.pre (U' := T8.setTop (mkF m 106 #[.val (.long p1), .second, .val (.long p2), .second, .val (.long p3), .second, .val (.int p4), .val (.int md), .val (.long dl), .second, .val (.long ix), .second, .val (.ref a), .val (.int (own_uless (ix - p1) (p2 - p1))), .val (.int (own_contains ix p1 p2)), .val (.int (own_contains p2 p1 p2)), .unset] [(.long p1), (.ref a)])) (fun t k => XS.lloadN X8.here hx rfl (hb hby at_105) rfl k) ?_
    obtain ⟨cq9, kq9, q9a, q9b, q9c⟩ := isOf hZ HQ8 E_a
    obtain ⟨_, _, ⟨T9, L9, k9, n9⟩, -, X9, ⟨Lc9, hQ9, l9, y9, z9⟩, st9⟩ := X8.virtualBack hx (y := (⟨"com/example/corpo/corpo/samples/SampleWindow", "contains", "(J)Z"⟩ : MethodName)) (z := (⟨"com/example/corpo/corpo/samples/SampleWindow", "contains", "(J)Z"⟩ : MethodName)) hown (mvT hZ (hw _ (List.mem_of_getElem? (i := 18) rfl))) (mvT hZ (hw _ (List.mem_of_getElem? (i := 19) rfl))) (notFace_of_selects (args := #[]) (mvT hZ (hw _ (List.mem_of_getElem? (i := 21) rfl)))) (mvT hZ (hw _ (List.mem_of_getElem? (i := 21) rfl))) (mvT hZ (hw _ (List.mem_of_getElem? (i := 20) rfl))) (by decide) (backOf (W := 0) (rm_contains l Z a0 hw [] a p1 p1 p2 T4.heap n0 Z5 F_first_a F_end_a) hZ (hw _ (List.mem_of_getElem? (i := 22) rfl)) (hw _ (List.mem_of_getElem? (i := 2) rfl)) (by decide) (by decide)) q9a q9c (g := (mkF m 106 #[.val (.long p1), .second, .val (.long p2), .second, .val (.long p3), .second, .val (.int p4), .val (.int md), .val (.long dl), .second, .val (.long ix), .second, .val (.ref a), .val (.int (own_uless (ix - p1) (p2 - p1))), .val (.int (own_contains ix p1 p2)), .val (.int (own_contains p2 p1 p2)), .unset] [(.long p1), (.ref a)])) rfl (by rw [hml]; rfl) (Steps.refl _) (argsL := [(.long p1)]) (rest := []) (lenOf pd__28J_29Z rfl) rfl (by show 2 * 0 + _ ≤ _; exact Nat.le_of_eq rfl) (hb hby at_106) (fun _ _ => ⟨rfl, HQ8, (by decide : 1 + 0 ≤ _), (by decide : 2 + 0 ≤ _)⟩)
    dsimp only [Pt.U, Pt.locs, Pt.cells, Pt.slots] at X9 l9 y9 z9 st9 hQ9
    subst l9 y9 z9
    obtain ⟨rfl, N9q, HQ9⟩ := hQ9
    have N9 := Fr.app N8 N9q
    refine Goes.pre (U' := T9.setTop (mkF m 109 #[.val (.long p1), .second, .val (.long p2), .second, .val (.long p3), .second, .val (.int p4), .val (.int md), .val (.long dl), .second, .val (.long ix), .second, .val (.ref a), .val (.int (own_uless (ix - p1) (p2 - p1))), .val (.int (own_contains ix p1 p2)), .val (.int (own_contains p2 p1 p2)), .unset] [(.int (own_contains p1 p1 p2))])) (fun t k => st9.trans k) ?_
    refine Goes.pre (U' := T9.setTop (mkF m 111 #[.val (.long p1), .second, .val (.long p2), .second, .val (.long p3), .second, .val (.int p4), .val (.int md), .val (.long dl), .second, .val (.long ix), .second, .val (.ref a), .val (.int (own_uless (ix - p1) (p2 - p1))), .val (.int (own_contains ix p1 p2)), .val (.int (own_contains p2 p1 p2)), .val (.int (own_contains p1 p1 p2))] [])) (fun t k => XS.istore X9.here hx rfl (hb hby at_109) rfl (l' := #[.val (.long p1), .second, .val (.long p2), .second, .val (.long p3), .second, .val (.int p4), .val (.int md), .val (.long dl), .second, .val (.long ix), .second, .val (.ref a), .val (.int (own_uless (ix - p1) (p2 - p1))), .val (.int (own_contains ix p1 p2)), .val (.int (own_contains p2 p1 p2)), .val (.int (own_contains p1 p1 p2))]) rfl k) ?_
    refine Goes.pre (U' := T9.setTop (mkF m 113 #[.val (.long p1), .second, .val (.long p2), .second, .val (.long p3), .second, .val (.int p4), .val (.int md), .val (.long dl), .second, .val (.long ix), .second, .val (.ref a), .val (.int (own_uless (ix - p1) (p2 - p1))), .val (.int (own_contains ix p1 p2)), .val (.int (own_contains p2 p1 p2)), .val (.int (own_contains p1 p1 p2))] [(.int (own_contains ix p1 p2))])) (fun t k => XS.iload X9.here hx rfl (hb hby at_111) rfl k) ?_
    refine Goes.pre (U' := T9.setTop (mkF m 115 #[.val (.long p1), .second, .val (.long p2), .second, .val (.long p3), .second, .val (.int p4), .val (.int md), .val (.long dl), .second, .val (.long ix), .second, .val (.ref a), .val (.int (own_uless (ix - p1) (p2 - p1))), .val (.int (own_contains ix p1 p2)), .val (.int (own_contains p2 p1 p2)), .val (.int (own_contains p1 p1 p2))] [(.int (own_uless (ix - p1) (p2 - p1))), (.int (own_contains ix p1 p2))])) (fun t k => XS.iload X9.here hx rfl (hb hby at_113) rfl k) ?_
    have hc115 : (own_contains ix p1 p2) = (own_uless (ix - p1) (p2 - p1)) := own_c2 _ _ _ hc65
    refine Goes.pre (U' := T9.setTop (mkF m 118 #[.val (.long p1), .second, .val (.long p2), .second, .val (.long p3), .second, .val (.int p4), .val (.int md), .val (.long dl), .second, .val (.long ix), .second, .val (.ref a), .val (.int (own_uless (ix - p1) (p2 - p1))), .val (.int (own_contains ix p1 p2)), .val (.int (own_contains p2 p1 p2)), .val (.int (own_contains p1 p1 p2))] [])) (fun t k => XS.icmpNo X9.here hx rfl (hb hby at_115) rfl (teq hc115).2 k) ?_
    refine Goes.pre (U' := T9.setTop (mkF m 120 #[.val (.long p1), .second, .val (.long p2), .second, .val (.long p3), .second, .val (.int p4), .val (.int md), .val (.long dl), .second, .val (.long ix), .second, .val (.ref a), .val (.int (own_uless (ix - p1) (p2 - p1))), .val (.int (own_contains ix p1 p2)), .val (.int (own_contains p2 p1 p2)), .val (.int (own_contains p1 p1 p2))] [(.int (own_contains p2 p1 p2))])) (fun t k => XS.iload X9.here hx rfl (hb hby at_118) rfl k) ?_
    have hc120 : (own_contains p2 p1 p2) = (0 : Int32) := own_c3 _ _
    refine Goes.pre (U' := T9.setTop (mkF m 123 #[.val (.long p1), .second, .val (.long p2), .second, .val (.long p3), .second, .val (.int p4), .val (.int md), .val (.long dl), .second, .val (.long ix), .second, .val (.ref a), .val (.int (own_uless (ix - p1) (p2 - p1))), .val (.int (own_contains ix p1 p2)), .val (.int (own_contains p2 p1 p2)), .val (.int (own_contains p1 p1 p2))] [])) (fun t k => XS.ifNo X9.here hx rfl (hb hby at_120) rfl ((if0 _ _).trans (teq hc120).2) k) ?_
    refine Goes.pre (U' := T9.setTop (mkF m 125 #[.val (.long p1), .second, .val (.long p2), .second, .val (.long p3), .second, .val (.int p4), .val (.int md), .val (.long dl), .second, .val (.long ix), .second, .val (.ref a), .val (.int (own_uless (ix - p1) (p2 - p1))), .val (.int (own_contains ix p1 p2)), .val (.int (own_contains p2 p1 p2)), .val (.int (own_contains p1 p1 p2))] [(.int (own_contains p1 p1 p2))])) (fun t k => XS.iload X9.here hx rfl (hb hby at_123) rfl k) ?_
    refine Goes.pre (U' := T9.setTop (mkF m 126 #[.val (.long p1), .second, .val (.long p2), .second, .val (.long p3), .second, .val (.int p4), .val (.int md), .val (.long dl), .second, .val (.long ix), .second, .val (.ref a), .val (.int (own_uless (ix - p1) (p2 - p1))), .val (.int (own_contains ix p1 p2)), .val (.int (own_contains p2 p1 p2)), .val (.int (own_contains p1 p1 p2))] [(.long p1), (.int (own_contains p1 p1 p2))])) (fun t k => XS.lloadN X9.here hx rfl (hb hby at_125) rfl k) ?_
    refine Goes.pre (U' := T9.setTop (mkF m 127 #[.val (.long p1), .second, .val (.long p2), .second, .val (.long p3), .second, .val (.int p4), .val (.int md), .val (.long dl), .second, .val (.long ix), .second, .val (.ref a), .val (.int (own_uless (ix - p1) (p2 - p1))), .val (.int (own_contains ix p1 p2)), .val (.int (own_contains p2 p1 p2)), .val (.int (own_contains p1 p1 p2))] [(.long p2), (.long p1), (.int (own_contains p1 p1 p2))])) (fun t k => XS.lloadN X9.here hx rfl (hb hby at_126) rfl k) ?_
    refine Goes.pre (U' := T9.setTop (mkF m 128 #[.val (.long p1), .second, .val (.long p2), .second, .val (.long p3), .second, .val (.int p4), .val (.int md), .val (.long dl), .second, .val (.long ix), .second, .val (.ref a), .val (.int (own_uless (ix - p1) (p2 - p1))), .val (.int (own_contains ix p1 p2)), .val (.int (own_contains p2 p1 p2)), .val (.int (own_contains p1 p1 p2))] [(.int (lcmpW p1 p2)), (.int (own_contains p1 p1 p2))])) (fun t k => XS.lcmp X9.here hx rfl (hb hby at_127) rfl k) ?_
    have hc128 : (lcmpW p1 p2) < (0 : Int32) := own_c5 _ _ hc65
    refine Goes.pre (U' := T9.setTop (mkF m 131 #[.val (.long p1), .second, .val (.long p2), .second, .val (.long p3), .second, .val (.int p4), .val (.int md), .val (.long dl), .second, .val (.long ix), .second, .val (.ref a), .val (.int (own_uless (ix - p1) (p2 - p1))), .val (.int (own_contains ix p1 p2)), .val (.int (own_contains p2 p1 p2)), .val (.int (own_contains p1 p1 p2))] [(.int (own_contains p1 p1 p2))])) (fun t k => XS.ifNo X9.here hx rfl (hb hby at_128) rfl ((if0 _ _).trans (tlt hc128).2.1) k) ?_
    refine Goes.pre (U' := T9.setTop (mkF m 132 #[.val (.long p1), .second, .val (.long p2), .second, .val (.long p3), .second, .val (.int p4), .val (.int md), .val (.long dl), .second, .val (.long ix), .second, .val (.ref a), .val (.int (own_uless (ix - p1) (p2 - p1))), .val (.int (own_contains ix p1 p2)), .val (.int (own_contains p2 p1 p2)), .val (.int (own_contains p1 p1 p2))] [(.int (1 : Int32)), (.int (own_contains p1 p1 p2))])) (fun t k => XS.iconst X9.here hx rfl (hb hby at_131) k) ?_
    refine Goes.pre (U' := T9.setTop (mkF m 136 #[.val (.long p1), .second, .val (.long p2), .second, .val (.long p3), .second, .val (.int p4), .val (.int md), .val (.long dl), .second, .val (.long ix), .second, .val (.ref a), .val (.int (own_uless (ix - p1) (p2 - p1))), .val (.int (own_contains ix p1 p2)), .val (.int (own_contains p2 p1 p2)), .val (.int (own_contains p1 p1 p2))] [(.int (1 : Int32)), (.int (own_contains p1 p1 p2))])) (fun t k => XS.goto X9.here hx rfl (pc0 := 132) (pc' := 136) rfl (hb hby at_132) (by decide) (by decide) k) ?_
    have hc136 : (own_contains p1 p1 p2) = (1 : Int32) := own_c4 _ _ hc65
    refine Goes.pre (U' := T9.setTop (mkF m 139 #[.val (.long p1), .second, .val (.long p2), .second, .val (.long p3), .second, .val (.int p4), .val (.int md), .val (.long dl), .second, .val (.long ix), .second, .val (.ref a), .val (.int (own_uless (ix - p1) (p2 - p1))), .val (.int (own_contains ix p1 p2)), .val (.int (own_contains p2 p1 p2)), .val (.int (own_contains p1 p1 p2))] [])) (fun t k => XS.icmpNo X9.here hx rfl (hb hby at_136) rfl (teq hc136).2 k) ?_
    refine Goes.pre (U' := T9.setTop (mkF m 140 #[.val (.long p1), .second, .val (.long p2), .second, .val (.long p3), .second, .val (.int p4), .val (.int md), .val (.long dl), .second, .val (.long ix), .second, .val (.ref a), .val (.int (own_uless (ix - p1) (p2 - p1))), .val (.int (own_contains ix p1 p2)), .val (.int (own_contains p2 p1 p2)), .val (.int (own_contains p1 p1 p2))] [(.int (1 : Int32))])) (fun t k => XS.iconst X9.here hx rfl (hb hby at_139) k) ?_
    refine Goes.pre (U' := T9.setTop (mkF m 144 #[.val (.long p1), .second, .val (.long p2), .second, .val (.long p3), .second, .val (.int p4), .val (.int md), .val (.long dl), .second, .val (.long ix), .second, .val (.ref a), .val (.int (own_uless (ix - p1) (p2 - p1))), .val (.int (own_contains ix p1 p2)), .val (.int (own_contains p2 p1 p2)), .val (.int (own_contains p1 p1 p2))] [(.int (1 : Int32))])) (fun t k => XS.goto X9.here hx rfl (pc0 := 140) (pc' := 144) rfl (hb hby at_140) (by decide) (by decide) k) ?_
    refine Goes.ret X9 (v := (some (.int (1 : Int32)))) (fun h => by rw [Bd.returns] at h; cases h) Bd.notSynchronized (by decide) (by decide) HQ9 (fun fs hr => retN X9 hx (t := .boolean) Bd.returns (by simp) (hb hby at_144) hr) ?_
    exact ⟨rfl, N9⟩
  ·
    refine Goes.pre (U' := T4.setTop (mkF m 68 #[.val (.long p1), .second, .val (.long p2), .second, .val (.long p3), .second, .val (.int p4), .val (.int md), .val (.long dl), .second, .val (.long ix), .second, .val (.ref a), .unset, .unset, .unset, .unset] [])) (fun t k => XS.ifNo X4.here hx rfl (hb hby at_65) rfl ((if0 _ _).trans (flt hc65).2.2.1) k) ?_
    refine Goes.pre (U' := T4.setTop (mkF m 69 #[.val (.long p1), .second, .val (.long p2), .second, .val (.long p3), .second, .val (.int p4), .val (.int md), .val (.long dl), .second, .val (.long ix), .second, .val (.ref a), .unset, .unset, .unset, .unset] [(.int (0 : Int32))])) (fun t k => XS.iconst X4.here hx rfl (hb hby at_68) k) ?_
    refine Goes.pre (U' := T4.setTop (mkF m 71 #[.val (.long p1), .second, .val (.long p2), .second, .val (.long p3), .second, .val (.int p4), .val (.int md), .val (.long dl), .second, .val (.long ix), .second, .val (.ref a), .val (.int (0 : Int32)), .unset, .unset, .unset] [])) (fun t k => XS.istore X4.here hx rfl (hb hby at_69) rfl (l' := #[.val (.long p1), .second, .val (.long p2), .second, .val (.long p3), .second, .val (.int p4), .val (.int md), .val (.long dl), .second, .val (.long ix), .second, .val (.ref a), .val (.int (0 : Int32)), .unset, .unset, .unset]) rfl k) ?_
    refine Goes.pre (U' := T4.setTop (mkF m 86 #[.val (.long p1), .second, .val (.long p2), .second, .val (.long p3), .second, .val (.int p4), .val (.int md), .val (.long dl), .second, .val (.long ix), .second, .val (.ref a), .val (.int (0 : Int32)), .unset, .unset, .unset] [])) (fun t k => XS.goto X4.here hx rfl (pc0 := 71) (pc' := 86) rfl (hb hby at_71) (by decide) (by decide) k) ?_
    refine Goes.pre (U' := T4.setTop (mkF m 88 #[.val (.long p1), .second, .val (.long p2), .second, .val (.long p3), .second, .val (.int p4), .val (.int md), .val (.long dl), .second, .val (.long ix), .second, .val (.ref a), .val (.int (0 : Int32)), .unset, .unset, .unset] [(.ref a)])) (fun t k => XS.aload X4.here hx rfl (hb hby at_86) rfl rfl k) ?_
    refine Goes.pre (U' := T4.setTop (mkF m 90 #[.val (.long p1), .second, .val (.long p2), .second, .val (.long p3), .second, .val (.int p4), .val (.int md), .val (.long dl), .second, .val (.long ix), .second, .val (.ref a), .val (.int (0 : Int32)), .unset, .unset, .unset] [(.long ix), (.ref a)])) (fun t k => XS.lload X4.here hx rfl (hb hby at_88) rfl k) ?_
    obtain ⟨cq10, kq10, q10a, q10b, q10c⟩ := isOf hZ rfl E_a
    obtain ⟨_, _, ⟨T10, L10, k10, n10⟩, -, X10, ⟨Lc10, hQ10, l10, y10, z10⟩, st10⟩ := X4.virtualBack hx (y := (⟨"com/example/corpo/corpo/samples/SampleWindow", "contains", "(J)Z"⟩ : MethodName)) (z := (⟨"com/example/corpo/corpo/samples/SampleWindow", "contains", "(J)Z"⟩ : MethodName)) hown (mvT hZ (hw _ (List.mem_of_getElem? (i := 18) rfl))) (mvT hZ (hw _ (List.mem_of_getElem? (i := 19) rfl))) (notFace_of_selects (args := #[]) (mvT hZ (hw _ (List.mem_of_getElem? (i := 21) rfl)))) (mvT hZ (hw _ (List.mem_of_getElem? (i := 21) rfl))) (mvT hZ (hw _ (List.mem_of_getElem? (i := 20) rfl))) (by decide) (backOf (W := 0) (rm_contains l Z a0 hw [] a ix p1 p2 T4.heap n0 Z5 F_first_a F_end_a) hZ (hw _ (List.mem_of_getElem? (i := 22) rfl)) (hw _ (List.mem_of_getElem? (i := 2) rfl)) (by decide) (by decide)) q10a q10c (g := (mkF m 90 #[.val (.long p1), .second, .val (.long p2), .second, .val (.long p3), .second, .val (.int p4), .val (.int md), .val (.long dl), .second, .val (.long ix), .second, .val (.ref a), .val (.int (0 : Int32)), .unset, .unset, .unset] [(.long ix), (.ref a)])) rfl (by rw [hml]; rfl) (Steps.refl _) (argsL := [(.long ix)]) (rest := []) (lenOf pd__28J_29Z rfl) rfl (by show 2 * 0 + _ ≤ _; exact Nat.le_of_eq rfl) (hb hby at_90) (fun _ _ => ⟨rfl, rfl, (by decide : 1 + 0 ≤ _), (by decide : 2 + 0 ≤ _)⟩)
    dsimp only [Pt.U, Pt.locs, Pt.cells, Pt.slots] at X10 l10 y10 z10 st10 hQ10
    subst l10 y10 z10
    obtain ⟨rfl, N10q, HQ10⟩ := hQ10
    have N10 := Fr.app N4 N10q
    refine Goes.pre (U' := T10.setTop (mkF m 93 #[.val (.long p1), .second, .val (.long p2), .second, .val (.long p3), .second, .val (.int p4), .val (.int md), .val (.long dl), .second, .val (.long ix), .second, .val (.ref a), .val (.int (0 : Int32)), .unset, .unset, .unset] [(.int (own_contains ix p1 p2))])) (fun t k => st10.trans k) ?_
    refine Goes.pre (U' := T10.setTop (mkF m 95 #[.val (.long p1), .second, .val (.long p2), .second, .val (.long p3), .second, .val (.int p4), .val (.int md), .val (.long dl), .second, .val (.long ix), .second, .val (.ref a), .val (.int (0 : Int32)), .val (.int (own_contains ix p1 p2)), .unset, .unset] [])) (fun t k => XS.istore X10.here hx rfl (hb hby at_93) rfl (l' := #[.val (.long p1), .second, .val (.long p2), .second, .val (.long p3), .second, .val (.int p4), .val (.int md), .val (.long dl), .second, .val (.long ix), .second, .val (.ref a), .val (.int (0 : Int32)), .val (.int (own_contains ix p1 p2)), .unset, .unset]) rfl k) ?_
    refine Goes.pre (U' := T10.setTop (mkF m 97 #[.val (.long p1), .second, .val (.long p2), .second, .val (.long p3), .second, .val (.int p4), .val (.int md), .val (.long dl), .second, .val (.long ix), .second, .val (.ref a), .val (.int (0 : Int32)), .val (.int (own_contains ix p1 p2)), .unset, .unset] [(.ref a)])) (fun t k => XS.aload X10.here hx rfl (hb hby at_95) rfl rfl k) ?_
    refine Goes.pre (U' := T10.setTop (mkF m 98 #[.val (.long p1), .second, .val (.long p2), .second, .val (.long p3), .second, .val (.int p4), .val (.int md), .val (.long dl), .second, .val (.long ix), .second, .val (.ref a), .val (.int (0 : Int32)), .val (.int (own_contains ix p1 p2)), .unset, .unset] [(.long p2), (.ref a)])) (fun t k => XS.lloadN X10.here hx rfl (hb hby at_97) rfl k) ?_
    obtain ⟨cq11, kq11, q11a, q11b, q11c⟩ := isOf hZ HQ10 E_a
    obtain ⟨_, _, ⟨T11, L11, k11, n11⟩, -, X11, ⟨Lc11, hQ11, l11, y11, z11⟩, st11⟩ := X10.virtualBack hx (y := (⟨"com/example/corpo/corpo/samples/SampleWindow", "contains", "(J)Z"⟩ : MethodName)) (z := (⟨"com/example/corpo/corpo/samples/SampleWindow", "contains", "(J)Z"⟩ : MethodName)) hown (mvT hZ (hw _ (List.mem_of_getElem? (i := 18) rfl))) (mvT hZ (hw _ (List.mem_of_getElem? (i := 19) rfl))) (notFace_of_selects (args := #[]) (mvT hZ (hw _ (List.mem_of_getElem? (i := 21) rfl)))) (mvT hZ (hw _ (List.mem_of_getElem? (i := 21) rfl))) (mvT hZ (hw _ (List.mem_of_getElem? (i := 20) rfl))) (by decide) (backOf (W := 0) (rm_contains l Z a0 hw [] a p2 p1 p2 T4.heap n0 Z5 F_first_a F_end_a) hZ (hw _ (List.mem_of_getElem? (i := 22) rfl)) (hw _ (List.mem_of_getElem? (i := 2) rfl)) (by decide) (by decide)) q11a q11c (g := (mkF m 98 #[.val (.long p1), .second, .val (.long p2), .second, .val (.long p3), .second, .val (.int p4), .val (.int md), .val (.long dl), .second, .val (.long ix), .second, .val (.ref a), .val (.int (0 : Int32)), .val (.int (own_contains ix p1 p2)), .unset, .unset] [(.long p2), (.ref a)])) rfl (by rw [hml]; rfl) (Steps.refl _) (argsL := [(.long p2)]) (rest := []) (lenOf pd__28J_29Z rfl) rfl (by show 2 * 0 + _ ≤ _; exact Nat.le_of_eq rfl) (hb hby at_98) (fun _ _ => ⟨rfl, HQ10, (by decide : 1 + 0 ≤ _), (by decide : 2 + 0 ≤ _)⟩)
    dsimp only [Pt.U, Pt.locs, Pt.cells, Pt.slots] at X11 l11 y11 z11 st11 hQ11
    subst l11 y11 z11
    obtain ⟨rfl, N11q, HQ11⟩ := hQ11
    have N11 := Fr.app N10 N11q
    refine Goes.pre (U' := T11.setTop (mkF m 101 #[.val (.long p1), .second, .val (.long p2), .second, .val (.long p3), .second, .val (.int p4), .val (.int md), .val (.long dl), .second, .val (.long ix), .second, .val (.ref a), .val (.int (0 : Int32)), .val (.int (own_contains ix p1 p2)), .unset, .unset] [(.int (own_contains p2 p1 p2))])) (fun t k => st11.trans k) ?_
    refine Goes.pre (U' := T11.setTop (mkF m 103 #[.val (.long p1), .second, .val (.long p2), .second, .val (.long p3), .second, .val (.int p4), .val (.int md), .val (.long dl), .second, .val (.long ix), .second, .val (.ref a), .val (.int (0 : Int32)), .val (.int (own_contains ix p1 p2)), .val (.int (own_contains p2 p1 p2)), .unset] [])) (fun t k => XS.istore X11.here hx rfl (hb hby at_101) rfl (l' := #[.val (.long p1), .second, .val (.long p2), .second, .val (.long p3), .second, .val (.int p4), .val (.int md), .val (.long dl), .second, .val (.long ix), .second, .val (.ref a), .val (.int (0 : Int32)), .val (.int (own_contains ix p1 p2)), .val (.int (own_contains p2 p1 p2)), .unset]) rfl k) ?_
    refine Goes.pre (U' := T11.setTop (mkF m 105 #[.val (.long p1), .second, .val (.long p2), .second, .val (.long p3), .second, .val (.int p4), .val (.int md), .val (.long dl), .second, .val (.long ix), .second, .val (.ref a), .val (.int (0 : Int32)), .val (.int (own_contains ix p1 p2)), .val (.int (own_contains p2 p1 p2)), .unset] [(.ref a)])) (fun t k => XS.aload X11.here hx rfl (hb hby at_103) rfl rfl k) ?_
    refine Goes.pre (U' := T11.setTop (mkF m 106 #[.val (.long p1), .second, .val (.long p2), .second, .val (.long p3), .second, .val (.int p4), .val (.int md), .val (.long dl), .second, .val (.long ix), .second, .val (.ref a), .val (.int (0 : Int32)), .val (.int (own_contains ix p1 p2)), .val (.int (own_contains p2 p1 p2)), .unset] [(.long p1), (.ref a)])) (fun t k => XS.lloadN X11.here hx rfl (hb hby at_105) rfl k) ?_
    obtain ⟨cq12, kq12, q12a, q12b, q12c⟩ := isOf hZ HQ11 E_a
    obtain ⟨_, _, ⟨T12, L12, k12, n12⟩, -, X12, ⟨Lc12, hQ12, l12, y12, z12⟩, st12⟩ := X11.virtualBack hx (y := (⟨"com/example/corpo/corpo/samples/SampleWindow", "contains", "(J)Z"⟩ : MethodName)) (z := (⟨"com/example/corpo/corpo/samples/SampleWindow", "contains", "(J)Z"⟩ : MethodName)) hown (mvT hZ (hw _ (List.mem_of_getElem? (i := 18) rfl))) (mvT hZ (hw _ (List.mem_of_getElem? (i := 19) rfl))) (notFace_of_selects (args := #[]) (mvT hZ (hw _ (List.mem_of_getElem? (i := 21) rfl)))) (mvT hZ (hw _ (List.mem_of_getElem? (i := 21) rfl))) (mvT hZ (hw _ (List.mem_of_getElem? (i := 20) rfl))) (by decide) (backOf (W := 0) (rm_contains l Z a0 hw [] a p1 p1 p2 T4.heap n0 Z5 F_first_a F_end_a) hZ (hw _ (List.mem_of_getElem? (i := 22) rfl)) (hw _ (List.mem_of_getElem? (i := 2) rfl)) (by decide) (by decide)) q12a q12c (g := (mkF m 106 #[.val (.long p1), .second, .val (.long p2), .second, .val (.long p3), .second, .val (.int p4), .val (.int md), .val (.long dl), .second, .val (.long ix), .second, .val (.ref a), .val (.int (0 : Int32)), .val (.int (own_contains ix p1 p2)), .val (.int (own_contains p2 p1 p2)), .unset] [(.long p1), (.ref a)])) rfl (by rw [hml]; rfl) (Steps.refl _) (argsL := [(.long p1)]) (rest := []) (lenOf pd__28J_29Z rfl) rfl (by show 2 * 0 + _ ≤ _; exact Nat.le_of_eq rfl) (hb hby at_106) (fun _ _ => ⟨rfl, HQ11, (by decide : 1 + 0 ≤ _), (by decide : 2 + 0 ≤ _)⟩)
    dsimp only [Pt.U, Pt.locs, Pt.cells, Pt.slots] at X12 l12 y12 z12 st12 hQ12
    subst l12 y12 z12
    obtain ⟨rfl, N12q, HQ12⟩ := hQ12
    have N12 := Fr.app N11 N12q
    refine Goes.pre (U' := T12.setTop (mkF m 109 #[.val (.long p1), .second, .val (.long p2), .second, .val (.long p3), .second, .val (.int p4), .val (.int md), .val (.long dl), .second, .val (.long ix), .second, .val (.ref a), .val (.int (0 : Int32)), .val (.int (own_contains ix p1 p2)), .val (.int (own_contains p2 p1 p2)), .unset] [(.int (own_contains p1 p1 p2))])) (fun t k => st12.trans k) ?_
    refine Goes.pre (U' := T12.setTop (mkF m 111 #[.val (.long p1), .second, .val (.long p2), .second, .val (.long p3), .second, .val (.int p4), .val (.int md), .val (.long dl), .second, .val (.long ix), .second, .val (.ref a), .val (.int (0 : Int32)), .val (.int (own_contains ix p1 p2)), .val (.int (own_contains p2 p1 p2)), .val (.int (own_contains p1 p1 p2))] [])) (fun t k => XS.istore X12.here hx rfl (hb hby at_109) rfl (l' := #[.val (.long p1), .second, .val (.long p2), .second, .val (.long p3), .second, .val (.int p4), .val (.int md), .val (.long dl), .second, .val (.long ix), .second, .val (.ref a), .val (.int (0 : Int32)), .val (.int (own_contains ix p1 p2)), .val (.int (own_contains p2 p1 p2)), .val (.int (own_contains p1 p1 p2))]) rfl k) ?_
    refine Goes.pre (U' := T12.setTop (mkF m 113 #[.val (.long p1), .second, .val (.long p2), .second, .val (.long p3), .second, .val (.int p4), .val (.int md), .val (.long dl), .second, .val (.long ix), .second, .val (.ref a), .val (.int (0 : Int32)), .val (.int (own_contains ix p1 p2)), .val (.int (own_contains p2 p1 p2)), .val (.int (own_contains p1 p1 p2))] [(.int (own_contains ix p1 p2))])) (fun t k => XS.iload X12.here hx rfl (hb hby at_111) rfl k) ?_
    refine Goes.pre (U' := T12.setTop (mkF m 115 #[.val (.long p1), .second, .val (.long p2), .second, .val (.long p3), .second, .val (.int p4), .val (.int md), .val (.long dl), .second, .val (.long ix), .second, .val (.ref a), .val (.int (0 : Int32)), .val (.int (own_contains ix p1 p2)), .val (.int (own_contains p2 p1 p2)), .val (.int (own_contains p1 p1 p2))] [(.int (0 : Int32)), (.int (own_contains ix p1 p2))])) (fun t k => XS.iload X12.here hx rfl (hb hby at_113) rfl k) ?_
    have hc115 : (own_contains ix p1 p2) = (0 : Int32) := own_c1 _ _ _ hc65
    refine Goes.pre (U' := T12.setTop (mkF m 118 #[.val (.long p1), .second, .val (.long p2), .second, .val (.long p3), .second, .val (.int p4), .val (.int md), .val (.long dl), .second, .val (.long ix), .second, .val (.ref a), .val (.int (0 : Int32)), .val (.int (own_contains ix p1 p2)), .val (.int (own_contains p2 p1 p2)), .val (.int (own_contains p1 p1 p2))] [])) (fun t k => XS.icmpNo X12.here hx rfl (hb hby at_115) rfl (teq hc115).2 k) ?_
    refine Goes.pre (U' := T12.setTop (mkF m 120 #[.val (.long p1), .second, .val (.long p2), .second, .val (.long p3), .second, .val (.int p4), .val (.int md), .val (.long dl), .second, .val (.long ix), .second, .val (.ref a), .val (.int (0 : Int32)), .val (.int (own_contains ix p1 p2)), .val (.int (own_contains p2 p1 p2)), .val (.int (own_contains p1 p1 p2))] [(.int (own_contains p2 p1 p2))])) (fun t k => XS.iload X12.here hx rfl (hb hby at_118) rfl k) ?_
    have hc120 : (own_contains p2 p1 p2) = (0 : Int32) := own_c3 _ _
    refine Goes.pre (U' := T12.setTop (mkF m 123 #[.val (.long p1), .second, .val (.long p2), .second, .val (.long p3), .second, .val (.int p4), .val (.int md), .val (.long dl), .second, .val (.long ix), .second, .val (.ref a), .val (.int (0 : Int32)), .val (.int (own_contains ix p1 p2)), .val (.int (own_contains p2 p1 p2)), .val (.int (own_contains p1 p1 p2))] [])) (fun t k => XS.ifNo X12.here hx rfl (hb hby at_120) rfl ((if0 _ _).trans (teq hc120).2) k) ?_
    refine Goes.pre (U' := T12.setTop (mkF m 125 #[.val (.long p1), .second, .val (.long p2), .second, .val (.long p3), .second, .val (.int p4), .val (.int md), .val (.long dl), .second, .val (.long ix), .second, .val (.ref a), .val (.int (0 : Int32)), .val (.int (own_contains ix p1 p2)), .val (.int (own_contains p2 p1 p2)), .val (.int (own_contains p1 p1 p2))] [(.int (own_contains p1 p1 p2))])) (fun t k => XS.iload X12.here hx rfl (hb hby at_123) rfl k) ?_
    refine Goes.pre (U' := T12.setTop (mkF m 126 #[.val (.long p1), .second, .val (.long p2), .second, .val (.long p3), .second, .val (.int p4), .val (.int md), .val (.long dl), .second, .val (.long ix), .second, .val (.ref a), .val (.int (0 : Int32)), .val (.int (own_contains ix p1 p2)), .val (.int (own_contains p2 p1 p2)), .val (.int (own_contains p1 p1 p2))] [(.long p1), (.int (own_contains p1 p1 p2))])) (fun t k => XS.lloadN X12.here hx rfl (hb hby at_125) rfl k) ?_
    refine Goes.pre (U' := T12.setTop (mkF m 127 #[.val (.long p1), .second, .val (.long p2), .second, .val (.long p3), .second, .val (.int p4), .val (.int md), .val (.long dl), .second, .val (.long ix), .second, .val (.ref a), .val (.int (0 : Int32)), .val (.int (own_contains ix p1 p2)), .val (.int (own_contains p2 p1 p2)), .val (.int (own_contains p1 p1 p2))] [(.long p2), (.long p1), (.int (own_contains p1 p1 p2))])) (fun t k => XS.lloadN X12.here hx rfl (hb hby at_126) rfl k) ?_
    refine Goes.pre (U' := T12.setTop (mkF m 128 #[.val (.long p1), .second, .val (.long p2), .second, .val (.long p3), .second, .val (.int p4), .val (.int md), .val (.long dl), .second, .val (.long ix), .second, .val (.ref a), .val (.int (0 : Int32)), .val (.int (own_contains ix p1 p2)), .val (.int (own_contains p2 p1 p2)), .val (.int (own_contains p1 p1 p2))] [(.int (lcmpW p1 p2)), (.int (own_contains p1 p1 p2))])) (fun t k => XS.lcmp X12.here hx rfl (hb hby at_127) rfl k) ?_
    have hc128 : ¬ ((lcmpW p1 p2) < (0 : Int32)) := own_c6 _ _ hc65
    refine Goes.pre (U' := T12.setTop (mkF m 135 #[.val (.long p1), .second, .val (.long p2), .second, .val (.long p3), .second, .val (.int p4), .val (.int md), .val (.long dl), .second, .val (.long ix), .second, .val (.ref a), .val (.int (0 : Int32)), .val (.int (own_contains ix p1 p2)), .val (.int (own_contains p2 p1 p2)), .val (.int (own_contains p1 p1 p2))] [(.int (own_contains p1 p1 p2))])) (fun t k => XS.ifYes X12.here hx rfl (pc0 := 128) (pc' := 135) rfl (hb hby at_128) rfl ((if0 _ _).trans (flt hc128).2.1) (by decide) (by decide) k) ?_
    refine Goes.pre (U' := T12.setTop (mkF m 136 #[.val (.long p1), .second, .val (.long p2), .second, .val (.long p3), .second, .val (.int p4), .val (.int md), .val (.long dl), .second, .val (.long ix), .second, .val (.ref a), .val (.int (0 : Int32)), .val (.int (own_contains ix p1 p2)), .val (.int (own_contains p2 p1 p2)), .val (.int (own_contains p1 p1 p2))] [(.int (0 : Int32)), (.int (own_contains p1 p1 p2))])) (fun t k => XS.iconst X12.here hx rfl (hb hby at_135) k) ?_
    have hc136 : (own_contains p1 p1 p2) = (0 : Int32) := own_c1 _ _ _ hc65
    refine Goes.pre (U' := T12.setTop (mkF m 139 #[.val (.long p1), .second, .val (.long p2), .second, .val (.long p3), .second, .val (.int p4), .val (.int md), .val (.long dl), .second, .val (.long ix), .second, .val (.ref a), .val (.int (0 : Int32)), .val (.int (own_contains ix p1 p2)), .val (.int (own_contains p2 p1 p2)), .val (.int (own_contains p1 p1 p2))] [])) (fun t k => XS.icmpNo X12.here hx rfl (hb hby at_136) rfl (teq hc136).2 k) ?_
    refine Goes.pre (U' := T12.setTop (mkF m 140 #[.val (.long p1), .second, .val (.long p2), .second, .val (.long p3), .second, .val (.int p4), .val (.int md), .val (.long dl), .second, .val (.long ix), .second, .val (.ref a), .val (.int (0 : Int32)), .val (.int (own_contains ix p1 p2)), .val (.int (own_contains p2 p1 p2)), .val (.int (own_contains p1 p1 p2))] [(.int (1 : Int32))])) (fun t k => XS.iconst X12.here hx rfl (hb hby at_139) k) ?_
    refine Goes.pre (U' := T12.setTop (mkF m 144 #[.val (.long p1), .second, .val (.long p2), .second, .val (.long p3), .second, .val (.int p4), .val (.int md), .val (.long dl), .second, .val (.long ix), .second, .val (.ref a), .val (.int (0 : Int32)), .val (.int (own_contains ix p1 p2)), .val (.int (own_contains p2 p1 p2)), .val (.int (own_contains p1 p1 p2))] [(.int (1 : Int32))])) (fun t k => XS.goto X12.here hx rfl (pc0 := 140) (pc' := 144) rfl (hb hby at_140) (by decide) (by decide) k) ?_
    refine Goes.ret X12 (v := (some (.int (1 : Int32)))) (fun h => by rw [Bd.returns] at h; cases h) Bd.notSynchronized (by decide) (by decide) HQ12 (fun fs hr => retN X12 hx (t := .boolean) Bd.returns (by simp) (hb hby at_144) hr) ?_
    exact ⟨rfl, N12⟩
set_option maxRecDepth 65536 in
set_option maxHeartbeats 40000000 in
theorem comes_1 {Post : Tables → Env → Array Value → State → Outcome → State → Prop} (hpost : ∀ tb e args s v u, (limb_1_1.after args s (.returned v) u = true ∧ limb_1_2.after args s (.returned v) u = true ∧ True) → FrameEnd s (.returned v) u (Jvm.fieldLocs frame_1_writes args s ++ Jvm.arrayLocs frame_1_arrays args s ++ Jvm.staticLocs frame_1_statics s) 16 128 → Post tb e args s (.returned v) u) :
    ArmFor flags0 classFile x code maxLocals ret World_1 tables_1 room_1 Calls_1 rest_1 Pre_1 Post := by
  intro l hfl _ _ p e ha hc hk s m args below hf hA hF happ hP
  obtain ⟨hcalls, hrest, hpre⟩ := hP
  obtain ⟨-, -, -, hnamed, -, -, -, hat⟩ := (Spec.applies_iff hf).mp happ
  obtain ⟨hg, hn⟩ := and_e (Cond.before_iff.mp (show (Jvm.Cond.and given_1 narrow_1).before args s = true from hpre))
  obtain ⟨g1, g2⟩ := and_e hg
  obtain ⟨g3, g4⟩ := and_e g2
  obtain ⟨g5, g6⟩ := and_e g4
  obtain ⟨g7, g8⟩ := and_e g6
  obtain ⟨w0, w1, w2, w3, rfl⟩ : ∃ w0 w1 w2 w3 : Value, args = #[w0, w1, w2, w3] := by
    have hs : args.size = 4 := by simpa [Cond.value, given_1] using g1
    obtain ⟨L⟩ := args
    match L, hs with
    | [w0, w1, w2, w3], _ => exact ⟨w0, w1, w2, w3, rfl⟩
  have hw := fun d (hd : d ∈ tables_1) => atoms_spec (ws := Jvm.Cond.code x code maxLocals ret :: tables_1) hat d (List.mem_cons_of_mem _ hd)
  have hfit : Fit s := fun {y c} hc i hi => by
    obtain ⟨ha, rfl⟩ := Array.getElem?_eq_some_iff.mp hc
    have q := List.all_eq_true.mp ((Array.all_eq_true_iff_forall_mem.mp hF) _ (Array.getElem_mem ha)) i (List.mem_range.mpr hi)
    simpa [Array.getElem?_eq_getElem hi] using q
  obtain ⟨i0, ei0⟩ := isL_v g3
  obtain rfl : w0 = (.long i0) := Option.some.inj ei0
  obtain ⟨i1, ei1⟩ := isL_v g5
  obtain rfl : w1 = (.long i1) := Option.some.inj ei1
  obtain ⟨i2, ei2⟩ := isL_v g7
  obtain rfl : w2 = (.long i2) := Option.some.inj ei2
  obtain ⟨i3, ei3⟩ := is_v g8
  obtain rfl : w3 = (.int i3) := Option.some.inj ei3
  obtain ⟨n, o, h1, h2, h3, _, L, rfl, ⟨rfl, N⟩, hq⟩ := rm0 l s _ hw tables_1 i0 i1 i2 i3 s.heap s.heap.size (Nat.le_refl _) p e ha hc hk s m _ below hf ((Spec.applies_iff_loose hf).mp happ).1 ⟨rfl, State.Warmed39.refl s, rfl⟩ trivial
  refine ⟨n, _, h1, h2, h3, hpost _ _ _ _ _ _ ⟨Cond.after_iff.mpr rfl, Cond.after_iff.mpr (eq_i res_at (Term.int_eval (1)) rfl), trivial⟩ ⟨hq.1, hq.2.1, (hq.2.2.sift fun y hy => Or.inr (N y hy)).mono (by decide) (by decide)⟩⟩
theorem main_1_1 : Claimed_1_1 := comes_1 fun _ _ _ _ _ _ h hF => ⟨h.1, hF⟩
theorem main_1_2 : Claimed_1_2 := comes_1 fun _ _ _ _ _ _ h hF => ⟨h.2.1, hF⟩
end Jvm.Pilot.@@N@@
namespace Jvm.Pilot.@@N@@
open Jvm Jvm.ClassFile Sem Op Lib Jvm.Free Jvm.Stand Jvm.Pilot.@@N@@.Jvm.D
/-! MADE BY PROGRAM (witnessworld.py) out of the Statement's table words and the real class files: 10 classes; the members and pool entries that the words name. The judged class is class 1, her method 2. -/
namespace start1
open Jvm.ClassFile
def u (s : String) : CpInfo := .utf8 (stringToUtf16 s)
/-- a pool by its gaps: so many unusable entries, then the entry; so many at the end -/
def gap : Nat → List CpInfo → List CpInfo
  | 0, r => r
  | n + 1, r => .unusable :: gap n r
def poolList (es : List (Nat × CpInfo)) (last : Nat) : List CpInfo := es.foldr (fun e r => gap e.1 (e.2 :: r)) (gap last [])
def pool (es : List (Nat × CpInfo)) (last : Nat) : Array CpInfo := ⟨poolList es last⟩
def fileOf (pool : Array CpInfo) (this : Nat) (attrs : Array Attribute := #[]) (ms : Array MethodInfo := #[]) (fl : Nat := 33) (sup : Nat := 0) (ifs : Array Nat := #[]) (fds : Array FieldInfo := #[]) : ClassFile where
  minorVersion := 0
  majorVersion := 65
  constantPool := pool
  accessFlags := fl
  thisClass := this
  superClass := sup
  interfaces := ifs
  fields := fds
  methods := ms
  attributes := attrs
def plain (name : String) (sup : Option ClassId) : Class where
  name := name
  kind := .ordinary
  loader := none
  accessFlags := 33
  super := sup
  interfaces := #[]
  cf := none
  fields := #[]
  methods := #[]
  instanceTypes := #[]
  staticTypes := #[]
  resolved := #[]
  callSites := []
  init := .initialized
  statics := none
  mirror := none

def pool0 : Array CpInfo := pool [(5, u "<init>"), (0, u "()V"), (1, .class_ 10), (1, u "java/lang/Object")] 113

def k0c0 : Code := { maxStack := 0, maxLocals := 1, code := object_method_1_code, exceptionTable := #[], attributes := #[] }
def k0m0 : Method := { name := "<init>", desc := "()V", sig := { parameters := [], returnType := none }, accessFlags := 1, code := some k0c0 }
/-- java/lang/Object -/
def k0 : Class := { plain "java/lang/Object" none with
  accessFlags := 33
  interfaces := #[]
  cf := some (fileOf pool0 8 #[] #[{ accessFlags := 1, nameIndex := 5, descriptorIndex := 6, attributes := #[] }] 33 0 #[] #[])
  fields := #[]
  methods := #[k0m0]
  instanceTypes := #[]
  staticTypes := #[]
  resolved := Array.replicate 124 none
  statics := none }

def pool1 : Array CpInfo := pool [(2, .class_ 4), (1, u "java/lang/Object"), (0, u "<init>"), (0, u "()V"), (2, .long 9223372036854775808), (1, .class_ 12), (0, u "com/example/corpo/corpo/samples/SampleWindow"), (0, .methodref 11 14), (0, .nameAndType 5 15), (0, u "(JJ)V"), (0, .methodref 17 18), (0, .class_ 19), (0, .nameAndType 20 21), (0, u "com/example/corpo/corpo/samples/SampleWindowContainsPinLaw"), (0, u "unsignedLess"), (0, u "(JJ)Z"), (0, .methodref 11 23), (0, .nameAndType 24 25), (0, u "contains"), (0, u "(J)Z"), (3, u "law"), (0, u "(JJJI)Z")] 2

def k1m0 : Method := { name := "<init>", desc := "()V", sig := { parameters := [], returnType := none }, accessFlags := 1, code := none }
def k1c1 : Code := { maxStack := 6, maxLocals := 4, code := method_2_code, exceptionTable := #[], attributes := #[] }
def k1m1 : Method := { name := "unsignedLess", desc := "(JJ)Z", sig := { parameters := [.long, .long], returnType := some .boolean }, accessFlags := 10, code := some k1c1 }
def k1c2 : Code := { maxStack := 6, maxLocals := 17, code := code, exceptionTable := #[], attributes := #[] }
def k1m2 : Method := { name := "law", desc := "(JJJI)Z", sig := { parameters := [.long, .long, .long, .int], returnType := some .boolean }, accessFlags := 9, code := some k1c2 }
/-- com/example/corpo/corpo/samples/SampleWindowContainsPinLaw -/
def k1 : Class := { plain "com/example/corpo/corpo/samples/SampleWindowContainsPinLaw" (some 0) with
  accessFlags := 49
  interfaces := #[]
  cf := some (fileOf pool1 17 #[] #[{ accessFlags := 1, nameIndex := 5, descriptorIndex := 6, attributes := #[] }, { accessFlags := 10, nameIndex := 20, descriptorIndex := 21, attributes := #[] }, { accessFlags := 9, nameIndex := 29, descriptorIndex := 30, attributes := #[] }] 49 2 #[] #[])
  fields := #[]
  methods := #[k1m0, k1m1, k1m2]
  instanceTypes := #[]
  staticTypes := #[]
  resolved := Array.replicate 33 none
  statics := none }

def pool2 : Array CpInfo := pool [(1, .methodref 2 3), (0, .class_ 4), (0, .nameAndType 5 6), (0, u "java/lang/Object"), (0, u "<init>"), (0, u "()V"), (0, .class_ 8), (0, u "java/lang/Record")] 13

def k2c0 : Code := { maxStack := 1, maxLocals := 1, code := jdk_30_method_1_code, exceptionTable := #[], attributes := #[] }
def k2m0 : Method := { name := "<init>", desc := "()V", sig := { parameters := [], returnType := none }, accessFlags := 4, code := some k2c0 }
/-- java/lang/Record -/
def k2 : Class := { plain "java/lang/Record" (some 0) with
  accessFlags := 1057
  interfaces := #[]
  cf := some (fileOf pool2 7 #[] #[{ accessFlags := 4, nameIndex := 5, descriptorIndex := 6, attributes := #[] }] 1057 2 #[] #[])
  fields := #[]
  methods := #[k2m0]
  instanceTypes := #[]
  staticTypes := #[]
  resolved := Array.replicate 22 none
  statics := none }

def pool3 : Array CpInfo := pool [(1, .methodref 2 3), (0, .class_ 4), (0, .nameAndType 5 6), (0, u "java/lang/Record"), (0, u "<init>"), (0, u "()V"), (0, .fieldref 8 9), (0, .class_ 10), (0, .nameAndType 11 12), (0, u "com/example/corpo/corpo/samples/SampleWindow"), (0, u "first"), (0, u "J"), (0, .fieldref 8 14), (0, .nameAndType 15 12), (0, u "end"), (23, u "(JJ)V"), (12, u "LAST_INDEX"), (0, u "Ljava/math/BigDecimal;"), (31, u "contains"), (0, u "(J)Z")] 26

def k3c0 : Code := { maxStack := 3, maxLocals := 5, code := prog_35_method_1_code, exceptionTable := #[], attributes := #[] }
def k3m0 : Method := { name := "<init>", desc := "(JJ)V", sig := { parameters := [.long, .long], returnType := none }, accessFlags := 1, code := some k3c0 }
def k3c1 : Code := { maxStack := 4, maxLocals := 3, code := prog_35_method_4_code, exceptionTable := #[], attributes := #[] }
def k3m1 : Method := { name := "contains", desc := "(J)Z", sig := { parameters := [.long], returnType := some .boolean }, accessFlags := 1, code := some k3c1 }
/-- com/example/corpo/corpo/samples/SampleWindow -/
def k3 : Class := { plain "com/example/corpo/corpo/samples/SampleWindow" (some 2) with
  accessFlags := 49
  interfaces := #[]
  cf := some (fileOf pool3 8 #[] #[{ accessFlags := 1, nameIndex := 5, descriptorIndex := 39, attributes := #[] }, { accessFlags := 1, nameIndex := 85, descriptorIndex := 86, attributes := #[] }] 49 2 #[] #[{ accessFlags := 18, nameIndex := 11, descriptorIndex := 12, attributes := #[] }, { accessFlags := 18, nameIndex := 15, descriptorIndex := 12, attributes := #[] }, { accessFlags := 26, nameIndex := 52, descriptorIndex := 53, attributes := #[] }])
  fields := #[{ name := "first", type := .long, accessFlags := 18, slot := 0, constantValue := 0 }, { name := "end", type := .long, accessFlags := 18, slot := 1, constantValue := 0 }, { name := "LAST_INDEX", type := (.object "java/math/BigDecimal"), accessFlags := 26, slot := 0, constantValue := 0 }]
  methods := #[k3m0, k3m1]
  instanceTypes := #[.long, .long]
  staticTypes := #[(.object "java/math/BigDecimal")]
  resolved := Array.replicate 113 none
  statics := none }

def pool4 : Array CpInfo := pool [(1, u "java/lang/Cloneable"), (0, .class_ 1), (0, u "java/lang/Object"), (0, .class_ 3)] 3

/-- java/lang/Cloneable -/
def k4 : Class := { plain "java/lang/Cloneable" (some 0) with
  accessFlags := 1537
  interfaces := #[]
  cf := some (fileOf pool4 2 #[] #[] 1537 4 #[] #[])
  fields := #[]
  methods := #[]
  instanceTypes := #[]
  staticTypes := #[]
  resolved := Array.replicate 8 none
  statics := none }

def pool5 : Array CpInfo := pool [(1, u "java/io/Serializable"), (0, .class_ 1), (0, u "java/lang/Object"), (0, .class_ 3)] 3

/-- java/io/Serializable -/
def k5 : Class := { plain "java/io/Serializable" (some 0) with
  accessFlags := 1537
  interfaces := #[]
  cf := some (fileOf pool5 2 #[] #[] 1537 4 #[] #[])
  fields := #[]
  methods := #[]
  instanceTypes := #[]
  staticTypes := #[]
  resolved := Array.replicate 8 none
  statics := none }

/-- the primitive byte -/
def k6 : Class := { plain "byte" none with kind := .primitive 'B', accessFlags := 0x411 }
/-- [B -/
def k7 : Class := { plain "[B" (some 0) with kind := .array 6 .byte, interfaces := #[4, 5], accessFlags := 1041 }

/-- the primitive int -/
def k8 : Class := { plain "int" none with kind := .primitive 'I', accessFlags := 0x411 }
/-- [I -/
def k9 : Class := { plain "[I" (some 0) with kind := .array 8 .int, interfaces := #[4, 5], accessFlags := 1041 }

def heap : Heap := #[]
def classes : Array Class := #[k0, k1, k2, k3, k4, k5, k6, k7, k8, k9]
def interned : List (Array UInt16 × Addr) := []
def slotsUsed : Nat := 0
def theMethod : MethodId := ⟨1, 2⟩
def args0 : Array Value := #[.long 5, .long 9, .long 7, .int 1]
def aboutOver (below : List Frame) : State where
  vm := { classes := classes, interned := interned.toArray }
  heap := heap
  slotsUsed := slotsUsed
  threads := #[{ frames := .invoking theMethod args0 :: below }]
def below0 : List Frame := [.native { method := ⟨0, 0⟩, args := #[] }]
def about1 : State := aboutOver below0
def p0 : Program := .bare "" "" ""
def e0 : Env := launch0.env 0 0 0
theorem w_frames : about1.frames = Frame.invoking theMethod args0 :: below0 := rfl
set_option maxRecDepth 65536 in
theorem w_args : argsFit about1.vm theMethod args0 = true := by decide +kernel
set_option maxRecDepth 65536 in
theorem w_heap : heapFits about1 = true := by decide +kernel
set_option maxRecDepth 65536 in
theorem w_runnable : about1.curStatus? = some .runnable := by decide +kernel
set_option maxRecDepth 65536 in
theorem w_alone : about1.alone = true := by decide +kernel
set_option maxRecDepth 65536 in
theorem w_named : about1.methodNamed? x = some theMethod := by decide +kernel
set_option maxRecDepth 65536 in
theorem w_hears : about1.hears theMethod below0 = true := by decide +kernel
set_option maxRecDepth 65536 in
theorem w_ripe : about1.ripe theMethod args0 below0 = true := by decide +kernel
theorem w_running : about1.status = .running := rfl
set_option maxRecDepth 65536 in
theorem w_room : about1.hasRoom e0.platform room_1 = true :=
  launch0.hasRoom_least _ room_1 (by decide +kernel) (by decide +kernel) (by decide +kernel) (by decide +kernel) (by decide +kernel) (by decide +kernel)
theorem allAtoms_all (ts : List Jvm.Cond) (a : Array Jvm.Value) (st : Jvm.State) : (allAtoms ts).before a st = ts.all (fun c => c.before a st) := by
  induction ts with
  | nil => rfl
  | cons c t ih =>
    show (Jvm.Cond.and c (allAtoms t)).before a st = _
    rw [Jvm.Cond.before_and, ih, List.all_cons]
def words1 : List Jvm.Cond := Jvm.Cond.code x code maxLocals ret :: tables_1
/-- a 'code' word, met by the world's own term for the bytes: nothing is compared byte by byte -/
theorem code_word {y : MethodName} {bytes : ByteArray} {mx : Nat} {rt : Option FieldType} {a : Array Value} {s : State} {m : MethodId} {meth : Method} {c : Code} (h1 : s.methodNamed? y = some m) (h2 : s.vm.method? m = some meth) (h3 : meth.code = some c) (h4 : c.code = bytes)
    (h5 : (c.maxLocals == mx && c.exceptionTable.isEmpty && decide (c.maxStack ≤ mostOperands) && decide (meth.sig.returnType = rt) && !meth.locks && decide (parseMethodDescriptor y.desc = some meth.sig)) = true) : (Jvm.Cond.code y bytes mx rt).before a s = true := by
  simp only [Bool.and_eq_true, beq_iff_eq, Bool.not_eq_true', decide_eq_true_eq] at h5
  obtain ⟨⟨⟨⟨⟨g1, g2⟩, g3⟩, g4⟩, g5⟩, g6⟩ := h5
  simp [Cond.before, Cond.holds, Cond.value, h1, h2, h3, h4, g1, g2, g3, g4, g5, g6]
def isCode : Jvm.Cond → Bool
  | .code _ _ _ _ => true
  | _ => false
theorem all_split {L : List Jvm.Cond} {P : Jvm.Cond → Bool} (h1 : L.all (fun c => isCode c || P c) = true) (h2 : ∀ c ∈ L.filter isCode, P c = true) : L.all P = true := by
  refine List.all_eq_true.mpr fun c hc => ?_
  have h := List.all_eq_true.mp h1 c hc
  rcases Bool.eq_false_or_eq_true (isCode c) with hi | hi
  · exact h2 c (List.mem_filter.mpr ⟨hc, hi⟩)
  · simpa [hi] using h
set_option maxRecDepth 65536 in
theorem w_c0 : (Jvm.Cond.code x code maxLocals ret).before args0 about1 = true := code_word (m := ⟨1, 2⟩) (meth := k1m2) (c := k1c2) (by decide +kernel) rfl rfl rfl (by decide +kernel)
set_option maxRecDepth 65536 in
theorem w_c1 : (Jvm.Cond.code ({ cls := "com/example/corpo/corpo/samples/SampleWindow", name := "<init>", desc := "(JJ)V" } : Jvm.MethodName) prog_35_method_1_code (5 : Nat) (Option.none : Option Jvm.ClassFile.FieldType)).before args0 about1 = true := code_word (m := ⟨3, 0⟩) (meth := k3m0) (c := k3c0) (by decide +kernel) rfl rfl rfl (by decide +kernel)
set_option maxRecDepth 65536 in
theorem w_c2 : (Jvm.Cond.code ({ cls := "java/lang/Record", name := "<init>", desc := "()V" } : Jvm.MethodName) jdk_30_method_1_code (1 : Nat) (Option.none : Option Jvm.ClassFile.FieldType)).before args0 about1 = true := code_word (m := ⟨2, 0⟩) (meth := k2m0) (c := k2c0) (by decide +kernel) rfl rfl rfl (by decide +kernel)
set_option maxRecDepth 65536 in
theorem w_c3 : (Jvm.Cond.code ({ cls := "java/lang/Object", name := "<init>", desc := "()V" } : Jvm.MethodName) object_method_1_code (1 : Nat) (Option.none : Option Jvm.ClassFile.FieldType)).before args0 about1 = true := code_word (m := ⟨0, 0⟩) (meth := k0m0) (c := k0c0) (by decide +kernel) rfl rfl rfl (by decide +kernel)
set_option maxRecDepth 65536 in
theorem w_c4 : (Jvm.Cond.code ({ cls := "com/example/corpo/corpo/samples/SampleWindow", name := "contains", desc := "(J)Z" } : Jvm.MethodName) prog_35_method_4_code (3 : Nat) (Option.some Jvm.ClassFile.FieldType.boolean)).before args0 about1 = true := code_word (m := ⟨3, 1⟩) (meth := k3m1) (c := k3c1) (by decide +kernel) rfl rfl rfl (by decide +kernel)
set_option maxRecDepth 65536 in
theorem w_c5 : (Jvm.Cond.code ({ cls := "com/example/corpo/corpo/samples/SampleWindowContainsPinLaw", name := "unsignedLess", desc := "(JJ)Z" } : Jvm.MethodName) method_2_code (4 : Nat) (Option.some Jvm.ClassFile.FieldType.boolean)).before args0 about1 = true := code_word (m := ⟨1, 1⟩) (meth := k1m1) (c := k1c1) (by decide +kernel) rfl rfl rfl (by decide +kernel)
def codes1 : List Jvm.Cond := [Jvm.Cond.code x code maxLocals ret, Jvm.Cond.code ({ cls := "com/example/corpo/corpo/samples/SampleWindow", name := "<init>", desc := "(JJ)V" } : Jvm.MethodName) prog_35_method_1_code (5 : Nat) (Option.none : Option Jvm.ClassFile.FieldType), Jvm.Cond.code ({ cls := "java/lang/Record", name := "<init>", desc := "()V" } : Jvm.MethodName) jdk_30_method_1_code (1 : Nat) (Option.none : Option Jvm.ClassFile.FieldType), Jvm.Cond.code ({ cls := "java/lang/Object", name := "<init>", desc := "()V" } : Jvm.MethodName) object_method_1_code (1 : Nat) (Option.none : Option Jvm.ClassFile.FieldType), Jvm.Cond.code ({ cls := "com/example/corpo/corpo/samples/SampleWindow", name := "contains", desc := "(J)Z" } : Jvm.MethodName) prog_35_method_4_code (3 : Nat) (Option.some Jvm.ClassFile.FieldType.boolean), Jvm.Cond.code ({ cls := "com/example/corpo/corpo/samples/SampleWindowContainsPinLaw", name := "unsignedLess", desc := "(JJ)Z" } : Jvm.MethodName) method_2_code (4 : Nat) (Option.some Jvm.ClassFile.FieldType.boolean)]
set_option maxRecDepth 65536 in
theorem codes_eq : words1.filter isCode = codes1 := rfl
theorem w_codes : ∀ c ∈ words1.filter isCode, c.before args0 about1 = true := by
  rw [codes_eq]
  intro c hc
  simp only [codes1, List.mem_cons, List.not_mem_nil, or_false] at hc
  rcases hc with rfl | rfl | rfl | rfl | rfl | rfl
  · exact w_c0
  · exact w_c1
  · exact w_c2
  · exact w_c3
  · exact w_c4
  · exact w_c5
set_option maxRecDepth 65536 in
theorem w_t1 : (words1.take 24).all (fun c => isCode c || c.before args0 about1) = true := by decide +kernel
set_option maxRecDepth 65536 in
theorem w_t2 : (words1.drop 24).all (fun c => isCode c || c.before args0 about1) = true := by decide +kernel
theorem w_tables : (allAtoms (Jvm.Cond.code x code maxLocals ret :: tables_1)).before args0 about1 = true := by
  rw [allAtoms_all]
  show words1.all (fun c => c.before args0 about1) = true
  refine all_split ?_ w_codes
  rw [← List.take_append_drop 24 words1, List.all_append, w_t1, w_t2]
  rfl
set_option maxRecDepth 65536 in
theorem w_case : (Jvm.Cond.and given_1 narrow_1).before args0 about1 = true := by decide +kernel
theorem w_applies : (headSpec (Jvm.Cond.code x code maxLocals ret :: tables_1) room_1).applies x e0.platform about1 = true :=
  (Spec.applies_iff w_frames).mpr ⟨w_running, w_runnable, w_alone, w_named, w_hears, w_ripe, w_room, w_tables⟩
theorem atStart : AtStart classFile x code maxLocals ret World_1 tables_1 room_1 Calls_1 rest_1 Pre_1 launch0 p0 e0 about1 theMethod args0 below0 :=
  ⟨lists_1, trivial, launch0.admits_env _ _ _, launch0.least_env, fairChoices_fair.cas, fairChoices_fair.clock, w_frames, w_args, w_heap, w_applies, trivial, trivial, w_case⟩
end start1
theorem witness_1 : WitnessClaimed_1 := ⟨start1.p0, start1.e0, start1.about1, start1.theMethod, start1.args0, start1.below0, start1.atStart⟩
end Jvm.Pilot.@@N@@
