import JvmDerived
import JvmDerived.Pilot.@@N@@Statement
import JvmDerived.Pilot.@@N@@Code
set_option linter.unusedVariables false
set_option linter.unusedSimpArgs false
namespace Jvm.RoadKit
open Sem ClassFile Op Lib Jvm.Stand Jvm.Free Jvm.LawKit
section New
variable {p : Program} {l : Launch} {e : Env} {R : Room} {s : State} {m : MethodId} {args : Array Value} {below : List Frame} {meth : Method} {c : Code} {T : State} {locs : List Loc} {cells slots : Nat}
theorem retI (X : Stand p l e R s m args below meth c T locs cells slots) (hx : p.tables.exec = Jvm.exec) {pc : Nat} {Ls : Array Slot} {z : Int32} {rest : List Value} (hret : meth.sig.returnType = some .int) (hd : decode c.code pc = .ok (.ireturn, 1)) {fs : List Frame}
    (hl : ∀ (f : JFrame) (acts : List Action), f.method = m → f.locked = none → f.entered = [] → (doReturn e (T.setTop f) acts (some (.int z))).1 = T.setFrames fs) : Steps p.tables e below (T.setTop (mkF m pc Ls (.int z :: rest))) (T.setFrames fs) := by
  have hm' : T.vm.method? m = some meth := X.method'
  have hn : narrow .int (.int z) = .int z := rfl
  show Steps p.tables e below (T.setTop { method := m, pc := pc, locals := Ls, stack := _ :: rest, locked := none }) _
  jvm_step X.here [X.here.top, hx, hd, hm', hret, hn]
  first | (intro acts; rw [hl _ acts rfl rfl rfl]) | rw [hl _ _ rfl rfl rfl]
  exact Steps.refl _
end New
end Jvm.RoadKit
namespace Jvm.Pilot.@@N@@
open Jvm Jvm.ClassFile Sem Op Lib Jvm.Free Jvm.Stand Jvm.LawKit Jvm.RoadKit Bundle Jvm.Pilot.@@N@@.Jvm.D
/-- from U the run comes back to its caller; what it returns, the heap and the places written meet Q -/
def Goes (p : Program) (e : Env) (below : List Frame) (s : State) (Q : Option Value → Heap → List Loc → Prop) (C S : Nat) (U : State) : Prop :=
  ∃ s₂ o, Steps p.tables e below U s₂ ∧ s₂.status = .running ∧ Ended s₂ below o ∧ ∃ v L, o = .returned v ∧ Q v s₂.heap L ∧ FrameEnd s o s₂ L C S
section Own
variable {p : Program} {l : Launch} {e : Env} {R : Room} {s : State} {m : MethodId} {args : Array Value} {below : List Frame} {meth : Method} {c : Code} {T : State} {locs : List Loc} {cells slots : Nat} {Q : Option Value → Heap → List Loc → Prop} {C S : Nat} {U U' : State}
theorem Goes.pre (f : ∀ t, Steps p.tables e below U' t → Steps p.tables e below U t) (g : Goes p e below s Q C S U') : Goes p e below s Q C S U := by
  obtain ⟨s₂, o, h1, r⟩ := g
  exact ⟨s₂, o, f _ h1, r⟩
theorem Goes.enter {g g' : JFrame} (q : g = g') (h : Goes p e below s Q C S (U.setTop g')) : Goes p e below s Q C S (U.setTop g) := q ▸ h
theorem Goes.ret (X : Stand p l e R s m args below meth c T locs cells slots) {v : Option Value} (hv : meth.sig.returnType = none → v = none) (hlocks : meth.locks = false) (hc : cells ≤ C) (hs : slots ≤ S) {h : Heap} (eT : T.heap = h)
    (step : ∀ fs, (∀ (f : JFrame) (acts : List Action), f.method = m → f.locked = none → f.entered = [] → (doReturn e (T.setTop f) acts v).1 = T.setFrames fs) → Steps p.tables e below U (T.setFrames fs)) (q : Q v h locs) : Goes p e below s Q C S U := by
  obtain ⟨fs, hr, hrun, hended, hW, hsame⟩ := X.leave hv hlocks
  refine ⟨_, _, step fs hr, hrun, hended, _, _, rfl, ?_, ⟨_, rfl⟩, hW, hsame.mono hc hs⟩
  show Q v T.heap locs
  rw [eT]
  exact q
end Own
theorem own_lsw {tb : Tables} [Ours tb] {e : Env} {below : List Frame} {T target : State} {m : MethodId} {c : Code} {g : JFrame} (h : At T m c below) (hx : tb.exec = Jvm.exec) (hg : g.method = m) {dflt : Int} {prs : Array (Int × Int)} {len : Nat} {o : Int} {pc0 pc' : Nat} (hpc : g.pc = pc0) (hd : decode c.code g.pc = .ok (.lookupswitch dflt prs, len)) {i : Int32} {rest : List Value} (hs : g.stack = .int i :: rest)
    (hso : ∀ (a b a_1 b_1 : Int), ((a, b), a_1, b_1) ∈ prs.toList.zip prs.toList.tail → a < a_1) (hoff : lookupswitch.offset prs.toList dflt i.toInt = o) (ho : 0 ≤ (pc0 : Int) + o) (hp : ((pc0 : Int) + o).toNat = pc')
    (hr : Steps tb e below (T.setTop { g with pc := pc', stack := rest }) target) : Steps tb e below (T.setTop g) target := by
  subst hg hpc hp
  jvm_step h [h.top, hx, hd, hs, lookupswitch.wp_chain, hoff, ho]
  exact ⟨hso, hr⟩
theorem ef_rm_init (m : MethodId) (x0 : Addr) (x1 : Int64) : entryFrame m #[(.ref x0), (.long x1)] 3 = mkF m 0 #[.val (.ref x0), .val (.long x1), .second] [] := by first | (simp [entryFrame, mkF, argsToLocals, Value.category]; done) | rfl
theorem pn_com_example_slotweave_slotweave_synth_SplitMix64 : plainName "com/example/slotweave/slotweave/synth/SplitMix64" = true := by first | (simp [plainName, overriddenIn]; done) | decide +kernel
theorem d1_0 : decode prog_50_method_1_code 0 = .ok (.aload_n 0, 1) := by decide +kernel
theorem d1_1 : decode prog_50_method_1_code 1 = .ok (.invokespecial 1, 3) := by decide +kernel
theorem d1_4 : decode prog_50_method_1_code 4 = .ok (.aload_n 0, 1) := by decide +kernel
theorem d1_5 : decode prog_50_method_1_code 5 = .ok (.lload_n 1, 1) := by decide +kernel
theorem d1_6 : decode prog_50_method_1_code 6 = .ok (.putfield 7, 3) := by decide +kernel
theorem d1_9 : decode prog_50_method_1_code 9 = .ok (.return_, 1) := by decide +kernel
def Q_rm_init (Z : State) (a : Addr) (q : Int64) (h0 : Heap) (n0 : Nat) (v : Option Value) (h : Heap) (L : List Loc) : Prop := v = none ∧ Fr n0 L ∧ Keep h0 h [a] ∧ Fld Z h a "com/example/slotweave/slotweave/synth/SplitMix64" "state" "J" (.long q)
set_option maxRecDepth 65536 in
set_option maxHeartbeats 40000000 in
theorem rm_init (l : Launch) (Z : State) (a0 : Array Value) (hw : ∀ d ∈ tables_1, d.before a0 Z = true) (ws : List Jvm.Cond) (a : Addr) (q : Int64) (h0 : Heap) (n0 : Nat) (Z0 : n0 ≤ h0.size) (E_a : Exa Z h0 a "com/example/slotweave/slotweave/synth/SplitMix64") (F_state_a : Fld Z h0 a "com/example/slotweave/slotweave/synth/SplitMix64" "state" "J" (.long (0 : Int64))) (g_a : n0 ≤ a) :
    MetFree l (⟨"com/example/slotweave/slotweave/synth/SplitMix64", "<init>", "(J)V"⟩ : MethodName) (head1 (Jvm.Cond.code (⟨"com/example/slotweave/slotweave/synth/SplitMix64", "<init>", "(J)V"⟩ : MethodName) prog_50_method_1_code 3 none :: ws) ({ frames := 1, cells := 0, slots := 0, locals := 12 } : Room)) (fun argv U => argv = #[(.ref a), (.long q)] ∧ Z.Warmed39 U.vm ∧ U.heap = h0) (fun _ _ _ _ _ => True) (fun _ U o U' => ∃ v L, o = .returned v ∧ Q_rm_init Z a q h0 n0 v U'.heap L ∧ FrameEnd U o U' L ({ frames := 1, cells := 0, slots := 0, locals := 12 } : Room).cells ({ frames := 1, cells := 0, slots := 0, locals := 12 } : Room).slots) := by
  refine MetFree.of_bodySF (plainFor_of_name pn_com_example_slotweave_slotweave_synth_SplitMix64) hisR ?_
  intro p e s m args below meth c s₁ Bd hml0 hP hK
  obtain ⟨rfl, hZ, hh⟩ := hP
  have hx := Bd.exec
  have hby := Bd.bytes
  have hml : c.maxLocals = 3 := hml0
  have hown : s.vm.findClass "com/example/slotweave/slotweave/synth/SplitMix64" = some m.cls := findClass_of_methodNamed Bd.named
  have hnm := (name_of_methodNamed Bd.named Bd.method).1
  have X0 : Stand p l e ({ frames := 1, cells := 0, slots := 0, locals := 12 } : Room) s m #[(.ref a), (.long q)] below meth c s₁ [] 0 0 := Stand.of_body Bd
  have e0 : s₁.heap = h0 := by rw [← hh, Bd.state]; rfl
  have N0 := Fr.nil n0
  have K0 := Keep.refl h0 [a]
  refine Goes.enter (Q := fun v h L => Q_rm_init Z a q h0 n0 v h L) (C := ({ frames := 1, cells := 0, slots := 0, locals := 12 } : Room).cells) (S := ({ frames := 1, cells := 0, slots := 0, locals := 12 } : Room).slots) (ef_rm_init m a q) ?_
  show Goes p e below s _ _ _ (s₁.setTop (mkF m 0 #[.val (.ref a), .val (.long q), .second] []))
  refine Goes.pre (U' := s₁.setTop (mkF m 1 #[.val (.ref a), .val (.long q), .second] [(.ref a)])) (fun t k => XS.aloadN X0.here hx rfl (hb hby d1_0) rfl rfl k) ?_
  obtain ⟨T1, X1, e1, st1⟩ := initO X0 hx hZ hown (hw _ (List.mem_of_getElem? (i := 6) rfl)) (hw _ (List.mem_of_getElem? (i := 7) rfl)) (hw _ (List.mem_of_getElem? (i := 8) rfl)) e0 (g := (mkF m 1 #[.val (.ref a), .val (.long q), .second] [(.ref a)])) rfl (by rw [hml]; rfl) rfl (hb hby d1_1) (by decide) (W := 0) (by show 2 * 0 + _ ≤ _; exact Nat.le_of_eq rfl) (by decide)
  refine Goes.pre (U' := T1.setTop (mkF m 4 #[.val (.ref a), .val (.long q), .second] [])) (fun t k => st1 t k) ?_
  refine Goes.pre (U' := T1.setTop (mkF m 5 #[.val (.ref a), .val (.long q), .second] [(.ref a)])) (fun t k => XS.aloadN X1.here hx rfl (hb hby d1_4) rfl rfl k) ?_
  refine Goes.pre (U' := T1.setTop (mkF m 6 #[.val (.ref a), .val (.long q), .second] [(.long q), (.ref a)])) (fun t k => XS.lloadN X1.here hx rfl (hb hby d1_5) rfl k) ?_
  obtain ⟨T2, h2, X2, e2, W2, st2⟩ := putF X1 hx hZ hown (host := "") (Or.inl (hw _ (List.mem_of_getElem? (i := 9) rfl))) Via.refl e1 F_state_a E_a (Or.inl (hw _ (List.mem_of_getElem? (i := 10) rfl))) (hw _ (List.mem_of_getElem? (i := 1) rfl)) (ty := .long) (by decide) rfl rfl (g := (mkF m 6 #[.val (.ref a), .val (.long q), .second] [(.long q), (.ref a)])) rfl rfl (hb hby d1_6)
  have E_a := E_a.wr W2
  have Z2 : n0 ≤ h2.size := Nat.le_trans Z0 (Keep.of_wr W2).1
  have F_state_a := F_state_a.same W2
  have K2 := K0.wr W2 (Or.inl (List.mem_of_getElem? (i := 0) rfl))
  have N2 := Fr.snoc X2 N0 g_a
  refine Goes.pre (U' := T2.setTop (mkF m 9 #[.val (.ref a), .val (.long q), .second] [])) (fun t k => st2 t k) ?_
  refine Goes.ret X2 (v := none) (fun _ => rfl) Bd.notSynchronized (by decide) (by decide) e2 (fun fs hr => X2.returnOut hx Bd.returns (hb hby d1_9) hr) ?_
  exact ⟨rfl, N2, K2, F_state_a⟩
def own_sh (x : Int64) (k : Int32) : Int64 := (x.toUInt64 >>> (k &&& 0x3f).toInt64.toUInt64).toInt64
def own_mix (z : Int64) : Int64 :=
  let y1 := (z ^^^ own_sh z 30) * (-4658895280553007687 : Int64)
  let y2 := (y1 ^^^ own_sh y1 27) * (-7723592293110705685 : Int64)
  y2 ^^^ own_sh y2 31
def own_unmix (z : Int64) : Int64 :=
  let y1 := ((z ^^^ own_sh z 31) ^^^ own_sh z 62) * (3573116690164977347 : Int64)
  let y2 := ((y1 ^^^ own_sh y1 27) ^^^ own_sh y1 54) * (-7575587736534282103 : Int64)
  (y2 ^^^ own_sh y2 30) ^^^ own_sh y2 60
theorem ef_rm_next (m : MethodId) (x0 : Addr) : entryFrame m #[(.ref x0)] 3 = mkF m 0 #[.val (.ref x0), .unset, .unset] [] := by first | (simp [entryFrame, mkF, argsToLocals, Value.category]; done) | rfl
theorem d3_0 : decode prog_50_method_2_code 0 = .ok (.aload_n 0, 1) := by decide +kernel
theorem d3_1 : decode prog_50_method_2_code 1 = .ok (.dup, 1) := by decide +kernel
theorem d3_2 : decode prog_50_method_2_code 2 = .ok (.getfield 7, 3) := by decide +kernel
theorem d3_5 : decode prog_50_method_2_code 5 = .ok (.ldc2_w 13, 3) := by decide +kernel
theorem d3_8 : decode prog_50_method_2_code 8 = .ok (.ladd, 1) := by decide +kernel
theorem d3_9 : decode prog_50_method_2_code 9 = .ok (.putfield 7, 3) := by decide +kernel
theorem d3_12 : decode prog_50_method_2_code 12 = .ok (.aload_n 0, 1) := by decide +kernel
theorem d3_13 : decode prog_50_method_2_code 13 = .ok (.getfield 7, 3) := by decide +kernel
theorem d3_16 : decode prog_50_method_2_code 16 = .ok (.lstore_n 1, 1) := by decide +kernel
theorem d3_17 : decode prog_50_method_2_code 17 = .ok (.lload_n 1, 1) := by decide +kernel
theorem d3_18 : decode prog_50_method_2_code 18 = .ok (.lload_n 1, 1) := by decide +kernel
theorem d3_19 : decode prog_50_method_2_code 19 = .ok (.bipush 30, 2) := by decide +kernel
theorem d3_21 : decode prog_50_method_2_code 21 = .ok (.lushr, 1) := by decide +kernel
theorem d3_22 : decode prog_50_method_2_code 22 = .ok (.lxor, 1) := by decide +kernel
theorem d3_23 : decode prog_50_method_2_code 23 = .ok (.ldc2_w 15, 3) := by decide +kernel
theorem d3_26 : decode prog_50_method_2_code 26 = .ok (.lmul, 1) := by decide +kernel
theorem d3_27 : decode prog_50_method_2_code 27 = .ok (.lstore_n 1, 1) := by decide +kernel
theorem d3_28 : decode prog_50_method_2_code 28 = .ok (.lload_n 1, 1) := by decide +kernel
theorem d3_29 : decode prog_50_method_2_code 29 = .ok (.lload_n 1, 1) := by decide +kernel
theorem d3_30 : decode prog_50_method_2_code 30 = .ok (.bipush 27, 2) := by decide +kernel
theorem d3_32 : decode prog_50_method_2_code 32 = .ok (.lushr, 1) := by decide +kernel
theorem d3_33 : decode prog_50_method_2_code 33 = .ok (.lxor, 1) := by decide +kernel
theorem d3_34 : decode prog_50_method_2_code 34 = .ok (.ldc2_w 17, 3) := by decide +kernel
theorem d3_37 : decode prog_50_method_2_code 37 = .ok (.lmul, 1) := by decide +kernel
theorem d3_38 : decode prog_50_method_2_code 38 = .ok (.lstore_n 1, 1) := by decide +kernel
theorem d3_39 : decode prog_50_method_2_code 39 = .ok (.lload_n 1, 1) := by decide +kernel
theorem d3_40 : decode prog_50_method_2_code 40 = .ok (.lload_n 1, 1) := by decide +kernel
theorem d3_41 : decode prog_50_method_2_code 41 = .ok (.bipush 31, 2) := by decide +kernel
theorem d3_43 : decode prog_50_method_2_code 43 = .ok (.lushr, 1) := by decide +kernel
theorem d3_44 : decode prog_50_method_2_code 44 = .ok (.lxor, 1) := by decide +kernel
theorem d3_45 : decode prog_50_method_2_code 45 = .ok (.lreturn, 1) := by decide +kernel
def Q_rm_next (Z : State) (a : Addr) (q : Int64) (h0 : Heap) (n0 : Nat) (v : Option Value) (h : Heap) (L : List Loc) : Prop := v = some (.long (own_mix (q + (-7046029254386353131 : Int64)))) ∧ Fr n0 L ∧ Keep h0 h [a] ∧ Fld Z h a "com/example/slotweave/slotweave/synth/SplitMix64" "state" "J" (.long (q + (-7046029254386353131 : Int64)))
set_option maxRecDepth 65536 in
set_option maxHeartbeats 40000000 in
theorem rm_next (l : Launch) (Z : State) (a0 : Array Value) (hw : ∀ d ∈ tables_1, d.before a0 Z = true) (ws : List Jvm.Cond) (a : Addr) (q : Int64) (h0 : Heap) (n0 : Nat) (Z0 : n0 ≤ h0.size) (E_a : Exa Z h0 a "com/example/slotweave/slotweave/synth/SplitMix64") (F_state_a : Fld Z h0 a "com/example/slotweave/slotweave/synth/SplitMix64" "state" "J" (.long q)) (g_a : n0 ≤ a) :
    MetFree l (⟨"com/example/slotweave/slotweave/synth/SplitMix64", "nextLong", "()J"⟩ : MethodName) (head1 (Jvm.Cond.code (⟨"com/example/slotweave/slotweave/synth/SplitMix64", "nextLong", "()J"⟩ : MethodName) prog_50_method_2_code 3 (some .long) :: ws) ({ frames := 0, cells := 0, slots := 0, locals := 0 } : Room)) (fun argv U => argv = #[(.ref a)] ∧ Z.Warmed39 U.vm ∧ U.heap = h0) (fun _ _ _ _ _ => True) (fun _ U o U' => ∃ v L, o = .returned v ∧ Q_rm_next Z a q h0 n0 v U'.heap L ∧ FrameEnd U o U' L ({ frames := 0, cells := 0, slots := 0, locals := 0 } : Room).cells ({ frames := 0, cells := 0, slots := 0, locals := 0 } : Room).slots) := by
  refine MetFree.of_bodySF (plainFor_of_name pn_com_example_slotweave_slotweave_synth_SplitMix64) hisR ?_
  intro p e s m args below meth c s₁ Bd hml0 hP hK
  obtain ⟨rfl, hZ, hh⟩ := hP
  have hx := Bd.exec
  have hby := Bd.bytes
  have hml : c.maxLocals = 3 := hml0
  have hown : s.vm.findClass "com/example/slotweave/slotweave/synth/SplitMix64" = some m.cls := findClass_of_methodNamed Bd.named
  have hnm := (name_of_methodNamed Bd.named Bd.method).1
  have X0 : Stand p l e ({ frames := 0, cells := 0, slots := 0, locals := 0 } : Room) s m #[(.ref a)] below meth c s₁ [] 0 0 := Stand.of_body Bd
  have e0 : s₁.heap = h0 := by rw [← hh, Bd.state]; rfl
  have N0 := Fr.nil n0
  have K0 := Keep.refl h0 [a]
  refine Goes.enter (Q := fun v h L => Q_rm_next Z a q h0 n0 v h L) (C := ({ frames := 0, cells := 0, slots := 0, locals := 0 } : Room).cells) (S := ({ frames := 0, cells := 0, slots := 0, locals := 0 } : Room).slots) (ef_rm_next m a) ?_
  show Goes p e below s _ _ _ (s₁.setTop (mkF m 0 #[.val (.ref a), .unset, .unset] []))
  refine Goes.pre (U' := s₁.setTop (mkF m 1 #[.val (.ref a), .unset, .unset] [(.ref a)])) (fun t k => XS.aloadN X0.here hx rfl (hb hby d3_0) rfl rfl k) ?_
  refine Goes.pre (U' := s₁.setTop (mkF m 2 #[.val (.ref a), .unset, .unset] [(.ref a), (.ref a)])) (fun t k => XS.dup X0.here hx rfl (hb hby d3_1) rfl rfl k) ?_
  obtain ⟨T1, X1, e1, st1⟩ := getF X0 hx hZ hown (host := "") (Or.inl (hw _ (List.mem_of_getElem? (i := 9) rfl))) Via.refl e0 F_state_a (g := (mkF m 2 #[.val (.ref a), .unset, .unset] [(.ref a), (.ref a)])) rfl rfl (hb hby d3_2)
  refine Goes.pre (U' := T1.setTop (mkF m 5 #[.val (.ref a), .unset, .unset] [(.long q), (.ref a)])) (fun t k => st1 t k) ?_
  refine Goes.pre (U' := T1.setTop (mkF m 8 #[.val (.ref a), .unset, .unset] [(.long (-7046029254386353131 : Int64)), (.long q), (.ref a)])) (fun t k => X1.ldc2Long hx hown (mvT hZ (hw _ (List.mem_of_getElem? (i := 16) rfl))) (g := (mkF m 5 #[.val (.ref a), .unset, .unset] [(.long q), (.ref a)])) rfl (hb hby d3_5) _ k) ?_
  refine Goes.pre (U' := T1.setTop (mkF m 9 #[.val (.ref a), .unset, .unset] [(.long (q + (-7046029254386353131 : Int64))), (.ref a)])) (fun t k => XS.ladd X1.here hx rfl (hb hby d3_8) rfl k) ?_
  obtain ⟨T2, h2, X2, e2, W2, st2⟩ := putF X1 hx hZ hown (host := "") (Or.inl (hw _ (List.mem_of_getElem? (i := 9) rfl))) Via.refl e1 F_state_a E_a (Or.inl (hw _ (List.mem_of_getElem? (i := 10) rfl))) (hw _ (List.mem_of_getElem? (i := 1) rfl)) (ty := .long) (by decide) rfl rfl (g := (mkF m 9 #[.val (.ref a), .unset, .unset] [(.long (q + (-7046029254386353131 : Int64))), (.ref a)])) rfl rfl (hb hby d3_9)
  have E_a := E_a.wr W2
  have Z2 : n0 ≤ h2.size := Nat.le_trans Z0 (Keep.of_wr W2).1
  have F_state_a := F_state_a.same W2
  have K2 := K0.wr W2 (Or.inl (List.mem_of_getElem? (i := 0) rfl))
  have N2 := Fr.snoc X2 N0 g_a
  refine Goes.pre (U' := T2.setTop (mkF m 12 #[.val (.ref a), .unset, .unset] [])) (fun t k => st2 t k) ?_
  refine Goes.pre (U' := T2.setTop (mkF m 13 #[.val (.ref a), .unset, .unset] [(.ref a)])) (fun t k => XS.aloadN X2.here hx rfl (hb hby d3_12) rfl rfl k) ?_
  obtain ⟨T3, X3, e3, st3⟩ := getF X2 hx hZ hown (host := "") (Or.inl (hw _ (List.mem_of_getElem? (i := 9) rfl))) Via.refl e2 F_state_a (g := (mkF m 13 #[.val (.ref a), .unset, .unset] [(.ref a)])) rfl rfl (hb hby d3_13)
  refine Goes.pre (U' := T3.setTop (mkF m 16 #[.val (.ref a), .unset, .unset] [(.long (q + (-7046029254386353131 : Int64)))])) (fun t k => st3 t k) ?_
  refine Goes.pre (U' := T3.setTop (mkF m 17 #[.val (.ref a), .val (.long (q + (-7046029254386353131 : Int64))), .second] [])) (fun t k => XS.lstoreN X3.here hx rfl (hb hby d3_16) rfl (l' := #[.val (.ref a), .val (.long (q + (-7046029254386353131 : Int64))), .second]) rfl k) ?_
  obtain ⟨z1, hz1⟩ : ∃ z : Int64, z = (q + (-7046029254386353131 : Int64)) := ⟨_, rfl⟩
  rw [← hz1]
  refine Goes.pre (U' := T3.setTop (mkF m 18 #[.val (.ref a), .val (.long z1), .second] [(.long z1)])) (fun t k => XS.lloadN X3.here hx rfl (hb hby d3_17) rfl k) ?_
  refine Goes.pre (U' := T3.setTop (mkF m 19 #[.val (.ref a), .val (.long z1), .second] [(.long z1), (.long z1)])) (fun t k => XS.lloadN X3.here hx rfl (hb hby d3_18) rfl k) ?_
  refine Goes.pre (U' := T3.setTop (mkF m 21 #[.val (.ref a), .val (.long z1), .second] [(.int (30 : Int32)), (.long z1), (.long z1)])) (fun t k => XS.bipush X3.here hx rfl (hb hby d3_19) k) ?_
  refine Goes.pre (U' := T3.setTop (mkF m 22 #[.val (.ref a), .val (.long z1), .second] [(.long ((z1.toUInt64 >>> ((30 : Int32) &&& 0x3f).toInt64.toUInt64).toInt64)), (.long z1)])) (fun t k => XS.lushr X3.here hx rfl (hb hby d3_21) rfl k) ?_
  refine Goes.pre (U' := T3.setTop (mkF m 23 #[.val (.ref a), .val (.long z1), .second] [(.long (z1 ^^^ ((z1.toUInt64 >>> ((30 : Int32) &&& 0x3f).toInt64.toUInt64).toInt64)))])) (fun t k => XS.lxor X3.here hx rfl (hb hby d3_22) rfl k) ?_
  refine Goes.pre (U' := T3.setTop (mkF m 26 #[.val (.ref a), .val (.long z1), .second] [(.long (-4658895280553007687 : Int64)), (.long (z1 ^^^ ((z1.toUInt64 >>> ((30 : Int32) &&& 0x3f).toInt64.toUInt64).toInt64)))])) (fun t k => X3.ldc2Long hx hown (mvT hZ (hw _ (List.mem_of_getElem? (i := 17) rfl))) (g := (mkF m 23 #[.val (.ref a), .val (.long z1), .second] [(.long (z1 ^^^ ((z1.toUInt64 >>> ((30 : Int32) &&& 0x3f).toInt64.toUInt64).toInt64)))])) rfl (hb hby d3_23) _ k) ?_
  refine Goes.pre (U' := T3.setTop (mkF m 27 #[.val (.ref a), .val (.long z1), .second] [(.long ((z1 ^^^ ((z1.toUInt64 >>> ((30 : Int32) &&& 0x3f).toInt64.toUInt64).toInt64)) * (-4658895280553007687 : Int64)))])) (fun t k => XS.lmul X3.here hx rfl (hb hby d3_26) rfl k) ?_
  refine Goes.pre (U' := T3.setTop (mkF m 28 #[.val (.ref a), .val (.long ((z1 ^^^ ((z1.toUInt64 >>> ((30 : Int32) &&& 0x3f).toInt64.toUInt64).toInt64)) * (-4658895280553007687 : Int64))), .second] [])) (fun t k => XS.lstoreN X3.here hx rfl (hb hby d3_27) rfl (l' := #[.val (.ref a), .val (.long ((z1 ^^^ ((z1.toUInt64 >>> ((30 : Int32) &&& 0x3f).toInt64.toUInt64).toInt64)) * (-4658895280553007687 : Int64))), .second]) rfl k) ?_
  obtain ⟨z2, hz2⟩ : ∃ z : Int64, z = ((z1 ^^^ ((z1.toUInt64 >>> ((30 : Int32) &&& 0x3f).toInt64.toUInt64).toInt64)) * (-4658895280553007687 : Int64)) := ⟨_, rfl⟩
  rw [← hz2]
  refine Goes.pre (U' := T3.setTop (mkF m 29 #[.val (.ref a), .val (.long z2), .second] [(.long z2)])) (fun t k => XS.lloadN X3.here hx rfl (hb hby d3_28) rfl k) ?_
  refine Goes.pre (U' := T3.setTop (mkF m 30 #[.val (.ref a), .val (.long z2), .second] [(.long z2), (.long z2)])) (fun t k => XS.lloadN X3.here hx rfl (hb hby d3_29) rfl k) ?_
  refine Goes.pre (U' := T3.setTop (mkF m 32 #[.val (.ref a), .val (.long z2), .second] [(.int (27 : Int32)), (.long z2), (.long z2)])) (fun t k => XS.bipush X3.here hx rfl (hb hby d3_30) k) ?_
  refine Goes.pre (U' := T3.setTop (mkF m 33 #[.val (.ref a), .val (.long z2), .second] [(.long ((z2.toUInt64 >>> ((27 : Int32) &&& 0x3f).toInt64.toUInt64).toInt64)), (.long z2)])) (fun t k => XS.lushr X3.here hx rfl (hb hby d3_32) rfl k) ?_
  refine Goes.pre (U' := T3.setTop (mkF m 34 #[.val (.ref a), .val (.long z2), .second] [(.long (z2 ^^^ ((z2.toUInt64 >>> ((27 : Int32) &&& 0x3f).toInt64.toUInt64).toInt64)))])) (fun t k => XS.lxor X3.here hx rfl (hb hby d3_33) rfl k) ?_
  refine Goes.pre (U' := T3.setTop (mkF m 37 #[.val (.ref a), .val (.long z2), .second] [(.long (-7723592293110705685 : Int64)), (.long (z2 ^^^ ((z2.toUInt64 >>> ((27 : Int32) &&& 0x3f).toInt64.toUInt64).toInt64)))])) (fun t k => X3.ldc2Long hx hown (mvT hZ (hw _ (List.mem_of_getElem? (i := 18) rfl))) (g := (mkF m 34 #[.val (.ref a), .val (.long z2), .second] [(.long (z2 ^^^ ((z2.toUInt64 >>> ((27 : Int32) &&& 0x3f).toInt64.toUInt64).toInt64)))])) rfl (hb hby d3_34) _ k) ?_
  refine Goes.pre (U' := T3.setTop (mkF m 38 #[.val (.ref a), .val (.long z2), .second] [(.long ((z2 ^^^ ((z2.toUInt64 >>> ((27 : Int32) &&& 0x3f).toInt64.toUInt64).toInt64)) * (-7723592293110705685 : Int64)))])) (fun t k => XS.lmul X3.here hx rfl (hb hby d3_37) rfl k) ?_
  refine Goes.pre (U' := T3.setTop (mkF m 39 #[.val (.ref a), .val (.long ((z2 ^^^ ((z2.toUInt64 >>> ((27 : Int32) &&& 0x3f).toInt64.toUInt64).toInt64)) * (-7723592293110705685 : Int64))), .second] [])) (fun t k => XS.lstoreN X3.here hx rfl (hb hby d3_38) rfl (l' := #[.val (.ref a), .val (.long ((z2 ^^^ ((z2.toUInt64 >>> ((27 : Int32) &&& 0x3f).toInt64.toUInt64).toInt64)) * (-7723592293110705685 : Int64))), .second]) rfl k) ?_
  obtain ⟨z3, hz3⟩ : ∃ z : Int64, z = ((z2 ^^^ ((z2.toUInt64 >>> ((27 : Int32) &&& 0x3f).toInt64.toUInt64).toInt64)) * (-7723592293110705685 : Int64)) := ⟨_, rfl⟩
  rw [← hz3]
  refine Goes.pre (U' := T3.setTop (mkF m 40 #[.val (.ref a), .val (.long z3), .second] [(.long z3)])) (fun t k => XS.lloadN X3.here hx rfl (hb hby d3_39) rfl k) ?_
  refine Goes.pre (U' := T3.setTop (mkF m 41 #[.val (.ref a), .val (.long z3), .second] [(.long z3), (.long z3)])) (fun t k => XS.lloadN X3.here hx rfl (hb hby d3_40) rfl k) ?_
  refine Goes.pre (U' := T3.setTop (mkF m 43 #[.val (.ref a), .val (.long z3), .second] [(.int (31 : Int32)), (.long z3), (.long z3)])) (fun t k => XS.bipush X3.here hx rfl (hb hby d3_41) k) ?_
  refine Goes.pre (U' := T3.setTop (mkF m 44 #[.val (.ref a), .val (.long z3), .second] [(.long ((z3.toUInt64 >>> ((31 : Int32) &&& 0x3f).toInt64.toUInt64).toInt64)), (.long z3)])) (fun t k => XS.lushr X3.here hx rfl (hb hby d3_43) rfl k) ?_
  refine Goes.pre (U' := T3.setTop (mkF m 45 #[.val (.ref a), .val (.long z3), .second] [(.long (z3 ^^^ ((z3.toUInt64 >>> ((31 : Int32) &&& 0x3f).toInt64.toUInt64).toInt64)))])) (fun t k => XS.lxor X3.here hx rfl (hb hby d3_44) rfl k) ?_
  refine Goes.ret X3 (v := (some (.long (z3 ^^^ ((z3.toUInt64 >>> ((31 : Int32) &&& 0x3f).toInt64.toUInt64).toInt64))))) (fun h => by rw [Bd.returns] at h; cases h) Bd.notSynchronized (by decide) (by decide) e3 (fun fs hr => retOut X3 hx Bd.returns rfl (Or.inr (Or.inl ⟨rfl, rfl, _, rfl⟩)) (hb hby d3_45) hr) ?_
  subst hz3 hz2
  subst hz1
  exact ⟨rfl, N2, K2, F_state_a⟩
theorem ef_rm_unmix (m : MethodId) (x0 : Int64) : entryFrame m #[(.long x0)] 2 = mkF m 0 #[.val (.long x0), .second] [] := by first | (simp [entryFrame, mkF, argsToLocals, Value.category]; done) | rfl
theorem pn_com_example_slotweave_slotweave_synth_SplitMix64NextLongPinLaw : plainName "com/example/slotweave/slotweave/synth/SplitMix64NextLongPinLaw" = true := by first | (simp [plainName, overriddenIn]; done) | decide +kernel
theorem d4_0 : decode method_2_code 0 = .ok (.lload_n 0, 1) := by decide +kernel
theorem d4_1 : decode method_2_code 1 = .ok (.lload_n 0, 1) := by decide +kernel
theorem d4_2 : decode method_2_code 2 = .ok (.bipush 31, 2) := by decide +kernel
theorem d4_4 : decode method_2_code 4 = .ok (.lushr, 1) := by decide +kernel
theorem d4_5 : decode method_2_code 5 = .ok (.lxor, 1) := by decide +kernel
theorem d4_6 : decode method_2_code 6 = .ok (.lload_n 0, 1) := by decide +kernel
theorem d4_7 : decode method_2_code 7 = .ok (.bipush 62, 2) := by decide +kernel
theorem d4_9 : decode method_2_code 9 = .ok (.lushr, 1) := by decide +kernel
theorem d4_10 : decode method_2_code 10 = .ok (.lxor, 1) := by decide +kernel
theorem d4_11 : decode method_2_code 11 = .ok (.ldc2_w 7, 3) := by decide +kernel
theorem d4_14 : decode method_2_code 14 = .ok (.lmul, 1) := by decide +kernel
theorem d4_15 : decode method_2_code 15 = .ok (.lstore_n 0, 1) := by decide +kernel
theorem d4_16 : decode method_2_code 16 = .ok (.lload_n 0, 1) := by decide +kernel
theorem d4_17 : decode method_2_code 17 = .ok (.lload_n 0, 1) := by decide +kernel
theorem d4_18 : decode method_2_code 18 = .ok (.bipush 27, 2) := by decide +kernel
theorem d4_20 : decode method_2_code 20 = .ok (.lushr, 1) := by decide +kernel
theorem d4_21 : decode method_2_code 21 = .ok (.lxor, 1) := by decide +kernel
theorem d4_22 : decode method_2_code 22 = .ok (.lload_n 0, 1) := by decide +kernel
theorem d4_23 : decode method_2_code 23 = .ok (.bipush 54, 2) := by decide +kernel
theorem d4_25 : decode method_2_code 25 = .ok (.lushr, 1) := by decide +kernel
theorem d4_26 : decode method_2_code 26 = .ok (.lxor, 1) := by decide +kernel
theorem d4_27 : decode method_2_code 27 = .ok (.ldc2_w 9, 3) := by decide +kernel
theorem d4_30 : decode method_2_code 30 = .ok (.lmul, 1) := by decide +kernel
theorem d4_31 : decode method_2_code 31 = .ok (.lstore_n 0, 1) := by decide +kernel
theorem d4_32 : decode method_2_code 32 = .ok (.lload_n 0, 1) := by decide +kernel
theorem d4_33 : decode method_2_code 33 = .ok (.lload_n 0, 1) := by decide +kernel
theorem d4_34 : decode method_2_code 34 = .ok (.bipush 30, 2) := by decide +kernel
theorem d4_36 : decode method_2_code 36 = .ok (.lushr, 1) := by decide +kernel
theorem d4_37 : decode method_2_code 37 = .ok (.lxor, 1) := by decide +kernel
theorem d4_38 : decode method_2_code 38 = .ok (.lload_n 0, 1) := by decide +kernel
theorem d4_39 : decode method_2_code 39 = .ok (.bipush 60, 2) := by decide +kernel
theorem d4_41 : decode method_2_code 41 = .ok (.lushr, 1) := by decide +kernel
theorem d4_42 : decode method_2_code 42 = .ok (.lxor, 1) := by decide +kernel
theorem d4_43 : decode method_2_code 43 = .ok (.lreturn, 1) := by decide +kernel
def Q_rm_unmix (Z : State) (q : Int64) (h0 : Heap) (n0 : Nat) (v : Option Value) (h : Heap) (L : List Loc) : Prop := v = some (.long (own_unmix q)) ∧ Fr n0 L ∧ h = h0
set_option maxRecDepth 65536 in
set_option maxHeartbeats 40000000 in
theorem rm_unmix (l : Launch) (Z : State) (a0 : Array Value) (hw : ∀ d ∈ tables_1, d.before a0 Z = true) (ws : List Jvm.Cond) (q : Int64) (h0 : Heap) (n0 : Nat) (Z0 : n0 ≤ h0.size)  :
    MetFree l (⟨"com/example/slotweave/slotweave/synth/SplitMix64NextLongPinLaw", "unmix", "(J)J"⟩ : MethodName) (head1 (Jvm.Cond.code (⟨"com/example/slotweave/slotweave/synth/SplitMix64NextLongPinLaw", "unmix", "(J)J"⟩ : MethodName) method_2_code 2 (some .long) :: ws) ({ frames := 0, cells := 0, slots := 0, locals := 0 } : Room)) (fun argv U => argv = #[(.long q)] ∧ Z.Warmed39 U.vm ∧ U.heap = h0) (fun _ _ _ _ _ => True) (fun _ U o U' => ∃ v L, o = .returned v ∧ Q_rm_unmix Z q h0 n0 v U'.heap L ∧ FrameEnd U o U' L ({ frames := 0, cells := 0, slots := 0, locals := 0 } : Room).cells ({ frames := 0, cells := 0, slots := 0, locals := 0 } : Room).slots) := by
  refine MetFree.of_bodySF (plainFor_of_name pn_com_example_slotweave_slotweave_synth_SplitMix64NextLongPinLaw) hisR ?_
  intro p e s m args below meth c s₁ Bd hml0 hP hK
  obtain ⟨rfl, hZ, hh⟩ := hP
  have hx := Bd.exec
  have hby := Bd.bytes
  have hml : c.maxLocals = 2 := hml0
  have hown : s.vm.findClass "com/example/slotweave/slotweave/synth/SplitMix64NextLongPinLaw" = some m.cls := findClass_of_methodNamed Bd.named
  have hnm := (name_of_methodNamed Bd.named Bd.method).1
  have X0 : Stand p l e ({ frames := 0, cells := 0, slots := 0, locals := 0 } : Room) s m #[(.long q)] below meth c s₁ [] 0 0 := Stand.of_body Bd
  have e0 : s₁.heap = h0 := by rw [← hh, Bd.state]; rfl
  have N0 := Fr.nil n0
  refine Goes.enter (Q := fun v h L => Q_rm_unmix Z q h0 n0 v h L) (C := ({ frames := 0, cells := 0, slots := 0, locals := 0 } : Room).cells) (S := ({ frames := 0, cells := 0, slots := 0, locals := 0 } : Room).slots) (ef_rm_unmix m q) ?_
  show Goes p e below s _ _ _ (s₁.setTop (mkF m 0 #[.val (.long q), .second] []))
  refine Goes.pre (U' := s₁.setTop (mkF m 1 #[.val (.long q), .second] [(.long q)])) (fun t k => XS.lloadN X0.here hx rfl (hb hby d4_0) rfl k) ?_
  refine Goes.pre (U' := s₁.setTop (mkF m 2 #[.val (.long q), .second] [(.long q), (.long q)])) (fun t k => XS.lloadN X0.here hx rfl (hb hby d4_1) rfl k) ?_
  refine Goes.pre (U' := s₁.setTop (mkF m 4 #[.val (.long q), .second] [(.int (31 : Int32)), (.long q), (.long q)])) (fun t k => XS.bipush X0.here hx rfl (hb hby d4_2) k) ?_
  refine Goes.pre (U' := s₁.setTop (mkF m 5 #[.val (.long q), .second] [(.long ((q.toUInt64 >>> ((31 : Int32) &&& 0x3f).toInt64.toUInt64).toInt64)), (.long q)])) (fun t k => XS.lushr X0.here hx rfl (hb hby d4_4) rfl k) ?_
  refine Goes.pre (U' := s₁.setTop (mkF m 6 #[.val (.long q), .second] [(.long (q ^^^ ((q.toUInt64 >>> ((31 : Int32) &&& 0x3f).toInt64.toUInt64).toInt64)))])) (fun t k => XS.lxor X0.here hx rfl (hb hby d4_5) rfl k) ?_
  refine Goes.pre (U' := s₁.setTop (mkF m 7 #[.val (.long q), .second] [(.long q), (.long (q ^^^ ((q.toUInt64 >>> ((31 : Int32) &&& 0x3f).toInt64.toUInt64).toInt64)))])) (fun t k => XS.lloadN X0.here hx rfl (hb hby d4_6) rfl k) ?_
  refine Goes.pre (U' := s₁.setTop (mkF m 9 #[.val (.long q), .second] [(.int (62 : Int32)), (.long q), (.long (q ^^^ ((q.toUInt64 >>> ((31 : Int32) &&& 0x3f).toInt64.toUInt64).toInt64)))])) (fun t k => XS.bipush X0.here hx rfl (hb hby d4_7) k) ?_
  refine Goes.pre (U' := s₁.setTop (mkF m 10 #[.val (.long q), .second] [(.long ((q.toUInt64 >>> ((62 : Int32) &&& 0x3f).toInt64.toUInt64).toInt64)), (.long (q ^^^ ((q.toUInt64 >>> ((31 : Int32) &&& 0x3f).toInt64.toUInt64).toInt64)))])) (fun t k => XS.lushr X0.here hx rfl (hb hby d4_9) rfl k) ?_
  refine Goes.pre (U' := s₁.setTop (mkF m 11 #[.val (.long q), .second] [(.long ((q ^^^ ((q.toUInt64 >>> ((31 : Int32) &&& 0x3f).toInt64.toUInt64).toInt64)) ^^^ ((q.toUInt64 >>> ((62 : Int32) &&& 0x3f).toInt64.toUInt64).toInt64)))])) (fun t k => XS.lxor X0.here hx rfl (hb hby d4_10) rfl k) ?_
  refine Goes.pre (U' := s₁.setTop (mkF m 14 #[.val (.long q), .second] [(.long (3573116690164977347 : Int64)), (.long ((q ^^^ ((q.toUInt64 >>> ((31 : Int32) &&& 0x3f).toInt64.toUInt64).toInt64)) ^^^ ((q.toUInt64 >>> ((62 : Int32) &&& 0x3f).toInt64.toUInt64).toInt64)))])) (fun t k => X0.ldc2Long hx hown (mvT hZ (hw _ (List.mem_of_getElem? (i := 24) rfl))) (g := (mkF m 11 #[.val (.long q), .second] [(.long ((q ^^^ ((q.toUInt64 >>> ((31 : Int32) &&& 0x3f).toInt64.toUInt64).toInt64)) ^^^ ((q.toUInt64 >>> ((62 : Int32) &&& 0x3f).toInt64.toUInt64).toInt64)))])) rfl (hb hby d4_11) _ k) ?_
  refine Goes.pre (U' := s₁.setTop (mkF m 15 #[.val (.long q), .second] [(.long (((q ^^^ ((q.toUInt64 >>> ((31 : Int32) &&& 0x3f).toInt64.toUInt64).toInt64)) ^^^ ((q.toUInt64 >>> ((62 : Int32) &&& 0x3f).toInt64.toUInt64).toInt64)) * (3573116690164977347 : Int64)))])) (fun t k => XS.lmul X0.here hx rfl (hb hby d4_14) rfl k) ?_
  refine Goes.pre (U' := s₁.setTop (mkF m 16 #[.val (.long (((q ^^^ ((q.toUInt64 >>> ((31 : Int32) &&& 0x3f).toInt64.toUInt64).toInt64)) ^^^ ((q.toUInt64 >>> ((62 : Int32) &&& 0x3f).toInt64.toUInt64).toInt64)) * (3573116690164977347 : Int64))), .second] [])) (fun t k => XS.lstoreN X0.here hx rfl (hb hby d4_15) rfl (l' := #[.val (.long (((q ^^^ ((q.toUInt64 >>> ((31 : Int32) &&& 0x3f).toInt64.toUInt64).toInt64)) ^^^ ((q.toUInt64 >>> ((62 : Int32) &&& 0x3f).toInt64.toUInt64).toInt64)) * (3573116690164977347 : Int64))), .second]) rfl k) ?_
  obtain ⟨z1, hz1⟩ : ∃ z : Int64, z = (((q ^^^ ((q.toUInt64 >>> ((31 : Int32) &&& 0x3f).toInt64.toUInt64).toInt64)) ^^^ ((q.toUInt64 >>> ((62 : Int32) &&& 0x3f).toInt64.toUInt64).toInt64)) * (3573116690164977347 : Int64)) := ⟨_, rfl⟩
  rw [← hz1]
  refine Goes.pre (U' := s₁.setTop (mkF m 17 #[.val (.long z1), .second] [(.long z1)])) (fun t k => XS.lloadN X0.here hx rfl (hb hby d4_16) rfl k) ?_
  refine Goes.pre (U' := s₁.setTop (mkF m 18 #[.val (.long z1), .second] [(.long z1), (.long z1)])) (fun t k => XS.lloadN X0.here hx rfl (hb hby d4_17) rfl k) ?_
  refine Goes.pre (U' := s₁.setTop (mkF m 20 #[.val (.long z1), .second] [(.int (27 : Int32)), (.long z1), (.long z1)])) (fun t k => XS.bipush X0.here hx rfl (hb hby d4_18) k) ?_
  refine Goes.pre (U' := s₁.setTop (mkF m 21 #[.val (.long z1), .second] [(.long ((z1.toUInt64 >>> ((27 : Int32) &&& 0x3f).toInt64.toUInt64).toInt64)), (.long z1)])) (fun t k => XS.lushr X0.here hx rfl (hb hby d4_20) rfl k) ?_
  refine Goes.pre (U' := s₁.setTop (mkF m 22 #[.val (.long z1), .second] [(.long (z1 ^^^ ((z1.toUInt64 >>> ((27 : Int32) &&& 0x3f).toInt64.toUInt64).toInt64)))])) (fun t k => XS.lxor X0.here hx rfl (hb hby d4_21) rfl k) ?_
  refine Goes.pre (U' := s₁.setTop (mkF m 23 #[.val (.long z1), .second] [(.long z1), (.long (z1 ^^^ ((z1.toUInt64 >>> ((27 : Int32) &&& 0x3f).toInt64.toUInt64).toInt64)))])) (fun t k => XS.lloadN X0.here hx rfl (hb hby d4_22) rfl k) ?_
  refine Goes.pre (U' := s₁.setTop (mkF m 25 #[.val (.long z1), .second] [(.int (54 : Int32)), (.long z1), (.long (z1 ^^^ ((z1.toUInt64 >>> ((27 : Int32) &&& 0x3f).toInt64.toUInt64).toInt64)))])) (fun t k => XS.bipush X0.here hx rfl (hb hby d4_23) k) ?_
  refine Goes.pre (U' := s₁.setTop (mkF m 26 #[.val (.long z1), .second] [(.long ((z1.toUInt64 >>> ((54 : Int32) &&& 0x3f).toInt64.toUInt64).toInt64)), (.long (z1 ^^^ ((z1.toUInt64 >>> ((27 : Int32) &&& 0x3f).toInt64.toUInt64).toInt64)))])) (fun t k => XS.lushr X0.here hx rfl (hb hby d4_25) rfl k) ?_
  refine Goes.pre (U' := s₁.setTop (mkF m 27 #[.val (.long z1), .second] [(.long ((z1 ^^^ ((z1.toUInt64 >>> ((27 : Int32) &&& 0x3f).toInt64.toUInt64).toInt64)) ^^^ ((z1.toUInt64 >>> ((54 : Int32) &&& 0x3f).toInt64.toUInt64).toInt64)))])) (fun t k => XS.lxor X0.here hx rfl (hb hby d4_26) rfl k) ?_
  refine Goes.pre (U' := s₁.setTop (mkF m 30 #[.val (.long z1), .second] [(.long (-7575587736534282103 : Int64)), (.long ((z1 ^^^ ((z1.toUInt64 >>> ((27 : Int32) &&& 0x3f).toInt64.toUInt64).toInt64)) ^^^ ((z1.toUInt64 >>> ((54 : Int32) &&& 0x3f).toInt64.toUInt64).toInt64)))])) (fun t k => X0.ldc2Long hx hown (mvT hZ (hw _ (List.mem_of_getElem? (i := 25) rfl))) (g := (mkF m 27 #[.val (.long z1), .second] [(.long ((z1 ^^^ ((z1.toUInt64 >>> ((27 : Int32) &&& 0x3f).toInt64.toUInt64).toInt64)) ^^^ ((z1.toUInt64 >>> ((54 : Int32) &&& 0x3f).toInt64.toUInt64).toInt64)))])) rfl (hb hby d4_27) _ k) ?_
  refine Goes.pre (U' := s₁.setTop (mkF m 31 #[.val (.long z1), .second] [(.long (((z1 ^^^ ((z1.toUInt64 >>> ((27 : Int32) &&& 0x3f).toInt64.toUInt64).toInt64)) ^^^ ((z1.toUInt64 >>> ((54 : Int32) &&& 0x3f).toInt64.toUInt64).toInt64)) * (-7575587736534282103 : Int64)))])) (fun t k => XS.lmul X0.here hx rfl (hb hby d4_30) rfl k) ?_
  refine Goes.pre (U' := s₁.setTop (mkF m 32 #[.val (.long (((z1 ^^^ ((z1.toUInt64 >>> ((27 : Int32) &&& 0x3f).toInt64.toUInt64).toInt64)) ^^^ ((z1.toUInt64 >>> ((54 : Int32) &&& 0x3f).toInt64.toUInt64).toInt64)) * (-7575587736534282103 : Int64))), .second] [])) (fun t k => XS.lstoreN X0.here hx rfl (hb hby d4_31) rfl (l' := #[.val (.long (((z1 ^^^ ((z1.toUInt64 >>> ((27 : Int32) &&& 0x3f).toInt64.toUInt64).toInt64)) ^^^ ((z1.toUInt64 >>> ((54 : Int32) &&& 0x3f).toInt64.toUInt64).toInt64)) * (-7575587736534282103 : Int64))), .second]) rfl k) ?_
  obtain ⟨z2, hz2⟩ : ∃ z : Int64, z = (((z1 ^^^ ((z1.toUInt64 >>> ((27 : Int32) &&& 0x3f).toInt64.toUInt64).toInt64)) ^^^ ((z1.toUInt64 >>> ((54 : Int32) &&& 0x3f).toInt64.toUInt64).toInt64)) * (-7575587736534282103 : Int64)) := ⟨_, rfl⟩
  rw [← hz2]
  refine Goes.pre (U' := s₁.setTop (mkF m 33 #[.val (.long z2), .second] [(.long z2)])) (fun t k => XS.lloadN X0.here hx rfl (hb hby d4_32) rfl k) ?_
  refine Goes.pre (U' := s₁.setTop (mkF m 34 #[.val (.long z2), .second] [(.long z2), (.long z2)])) (fun t k => XS.lloadN X0.here hx rfl (hb hby d4_33) rfl k) ?_
  refine Goes.pre (U' := s₁.setTop (mkF m 36 #[.val (.long z2), .second] [(.int (30 : Int32)), (.long z2), (.long z2)])) (fun t k => XS.bipush X0.here hx rfl (hb hby d4_34) k) ?_
  refine Goes.pre (U' := s₁.setTop (mkF m 37 #[.val (.long z2), .second] [(.long ((z2.toUInt64 >>> ((30 : Int32) &&& 0x3f).toInt64.toUInt64).toInt64)), (.long z2)])) (fun t k => XS.lushr X0.here hx rfl (hb hby d4_36) rfl k) ?_
  refine Goes.pre (U' := s₁.setTop (mkF m 38 #[.val (.long z2), .second] [(.long (z2 ^^^ ((z2.toUInt64 >>> ((30 : Int32) &&& 0x3f).toInt64.toUInt64).toInt64)))])) (fun t k => XS.lxor X0.here hx rfl (hb hby d4_37) rfl k) ?_
  refine Goes.pre (U' := s₁.setTop (mkF m 39 #[.val (.long z2), .second] [(.long z2), (.long (z2 ^^^ ((z2.toUInt64 >>> ((30 : Int32) &&& 0x3f).toInt64.toUInt64).toInt64)))])) (fun t k => XS.lloadN X0.here hx rfl (hb hby d4_38) rfl k) ?_
  refine Goes.pre (U' := s₁.setTop (mkF m 41 #[.val (.long z2), .second] [(.int (60 : Int32)), (.long z2), (.long (z2 ^^^ ((z2.toUInt64 >>> ((30 : Int32) &&& 0x3f).toInt64.toUInt64).toInt64)))])) (fun t k => XS.bipush X0.here hx rfl (hb hby d4_39) k) ?_
  refine Goes.pre (U' := s₁.setTop (mkF m 42 #[.val (.long z2), .second] [(.long ((z2.toUInt64 >>> ((60 : Int32) &&& 0x3f).toInt64.toUInt64).toInt64)), (.long (z2 ^^^ ((z2.toUInt64 >>> ((30 : Int32) &&& 0x3f).toInt64.toUInt64).toInt64)))])) (fun t k => XS.lushr X0.here hx rfl (hb hby d4_41) rfl k) ?_
  refine Goes.pre (U' := s₁.setTop (mkF m 43 #[.val (.long z2), .second] [(.long ((z2 ^^^ ((z2.toUInt64 >>> ((30 : Int32) &&& 0x3f).toInt64.toUInt64).toInt64)) ^^^ ((z2.toUInt64 >>> ((60 : Int32) &&& 0x3f).toInt64.toUInt64).toInt64)))])) (fun t k => XS.lxor X0.here hx rfl (hb hby d4_42) rfl k) ?_
  refine Goes.ret X0 (v := (some (.long ((z2 ^^^ ((z2.toUInt64 >>> ((30 : Int32) &&& 0x3f).toInt64.toUInt64).toInt64)) ^^^ ((z2.toUInt64 >>> ((60 : Int32) &&& 0x3f).toInt64.toUInt64).toInt64))))) (fun h => by rw [Bd.returns] at h; cases h) Bd.notSynchronized (by decide) (by decide) e0 (fun fs hr => retOut X0 hx Bd.returns rfl (Or.inr (Or.inl ⟨rfl, rfl, _, rfl⟩)) (hb hby d4_43) hr) ?_
  subst hz2
  subst hz1
  exact ⟨rfl, N0, rfl⟩
theorem own_shb (x : Int64) (k : Int32) (n : Nat) (hk : (k &&& 0x3f).toInt64.toBitVec.toNat = n) (hn : n < 64) : (own_sh x k).toBitVec = x.toBitVec >>> n := by
  have h : (own_sh x k).toBitVec = x.toBitVec >>> ((k &&& 0x3f).toInt64.toBitVec.toNat % 64) := by
    show (x.toUInt64 >>> (k &&& 0x3f).toInt64.toUInt64).toBitVec = _
    rw [UInt64.toBitVec_shiftRight]
    show x.toBitVec >>> ((k &&& 0x3f).toInt64.toBitVec % 64) = _
    rw [BitVec.ushiftRight_eq', BitVec.toNat_umod]
    rfl
  rw [h, hk, Nat.mod_eq_of_lt hn]
theorem own_xs (x : BitVec 64) (n : Nat) (h2 : 64 ≤ 3 * n) : ((x ^^^ x >>> n) ^^^ (x ^^^ x >>> n) >>> n) ^^^ (x ^^^ x >>> n) >>> (2 * n) = x := by
  apply BitVec.eq_of_getLsbD_eq
  intro i hi
  simp only [BitVec.getLsbD_xor, BitVec.getLsbD_ushiftRight]
  have e1 : n + (n + i) = 2 * n + i := by omega
  have e2 : x.getLsbD (n + (2 * n + i)) = false := BitVec.getLsbD_of_ge _ _ (by omega)
  rw [e1, e2]
  cases x.getLsbD i <;> cases x.getLsbD (n + i) <;> cases x.getLsbD (2 * n + i) <;> rfl
theorem own_inv31 (x : Int64) : ((x ^^^ own_sh x 31) ^^^ own_sh (x ^^^ own_sh x 31) 31) ^^^ own_sh (x ^^^ own_sh x 31) 62 = x := by
  apply Int64.toBitVec_inj.mp
  simp only [Int64.toBitVec_xor, own_shb _ 31 31 (by decide) (by decide), own_shb _ 62 62 (by decide) (by decide)]
  exact own_xs _ 31 (by decide)
theorem own_inv27 (x : Int64) : ((x ^^^ own_sh x 27) ^^^ own_sh (x ^^^ own_sh x 27) 27) ^^^ own_sh (x ^^^ own_sh x 27) 54 = x := by
  apply Int64.toBitVec_inj.mp
  simp only [Int64.toBitVec_xor, own_shb _ 27 27 (by decide) (by decide), own_shb _ 54 54 (by decide) (by decide)]
  exact own_xs _ 27 (by decide)
theorem own_inv30 (x : Int64) : ((x ^^^ own_sh x 30) ^^^ own_sh (x ^^^ own_sh x 30) 30) ^^^ own_sh (x ^^^ own_sh x 30) 60 = x := by
  apply Int64.toBitVec_inj.mp
  simp only [Int64.toBitVec_xor, own_shb _ 30 30 (by decide) (by decide), own_shb _ 60 60 (by decide) (by decide)]
  exact own_xs _ 30 (by decide)
theorem own_mul (x a b : Int64) (h : a * b = 1) : x * a * b = x := by rw [Int64.mul_assoc, h, Int64.mul_one]
theorem own_un (z : Int64) : own_unmix (own_mix z) = z := by
  unfold own_mix own_unmix
  simp only []
  rw [own_inv31, own_mul _ _ _ (by decide), own_inv27, own_mul _ _ _ (by decide), own_inv30]
theorem own_eqc (x : Int64) : lcmpW x x = 0 := (lw_eq x x).mpr rfl
theorem ef_rm0 (m : MethodId) (x0 : Int64) : entryFrame m #[(.long x0)] maxLocals = mkF m 0 #[.val (.long x0), .second, .unset, .unset, .unset, .unset, .unset, .unset, .unset] [] := by first | (simp [entryFrame, mkF, argsToLocals, Value.category, maxLocals]; done) | rfl
theorem pd__28J_29V : parseMethodDescriptor "(J)V" = some ⟨[.long], none⟩ := by decide +kernel
theorem pd__28_29J : parseMethodDescriptor "()J" = some ⟨[], some .long⟩ := by decide +kernel
theorem pd__28J_29J : parseMethodDescriptor "(J)J" = some ⟨[.long], some .long⟩ := by decide +kernel
def Q_rm0 (Z : State) (p1 : Int64) (h0 : Heap) (n0 : Nat) (v : Option Value) (h : Heap) (L : List Loc) : Prop := v = some (.int 1) ∧ Fr n0 L
set_option maxRecDepth 65536 in
set_option maxHeartbeats 40000000 in
theorem rm0 (l : Launch) (Z : State) (a0 : Array Value) (hw : ∀ d ∈ tables_1, d.before a0 Z = true) (ws : List Jvm.Cond) (p1 : Int64) (h0 : Heap) (n0 : Nat) (Z0 : n0 ≤ h0.size)  :
    MetFree l x (head1 (Jvm.Cond.code x code maxLocals ret :: ws) room_1) (fun argv U => argv = #[(.long p1)] ∧ Z.Warmed39 U.vm ∧ U.heap = h0) (fun _ _ _ _ _ => True) (fun _ U o U' => ∃ v L, o = .returned v ∧ Q_rm0 Z p1 h0 n0 v U'.heap L ∧ FrameEnd U o U' L room_1.cells room_1.slots) := by
  refine MetFree.of_bodySF (plainFor_of_name pn_com_example_slotweave_slotweave_synth_SplitMix64NextLongPinLaw) hisR ?_
  intro p e s m args below meth c s₁ Bd hml0 hP hK
  obtain ⟨rfl, hZ, hh⟩ := hP
  have hx := Bd.exec
  have hby := Bd.bytes
  have hml : c.maxLocals = 9 := hml0
  have hown : s.vm.findClass "com/example/slotweave/slotweave/synth/SplitMix64NextLongPinLaw" = some m.cls := findClass_of_methodNamed Bd.named
  have hnm := (name_of_methodNamed Bd.named Bd.method).1
  have X0 : Stand p l e room_1 s m #[(.long p1)] below meth c s₁ [] 0 0 := Stand.of_body Bd
  have e0 : s₁.heap = h0 := by rw [← hh, Bd.state]; rfl
  have N0 := Fr.nil n0
  refine Goes.enter (Q := fun v h L => Q_rm0 Z p1 h0 n0 v h L) (C := room_1.cells) (S := room_1.slots) (ef_rm0 m p1) ?_
  show Goes p e below s _ _ _ (s₁.setTop (mkF m 0 #[.val (.long p1), .second, .unset, .unset, .unset, .unset, .unset, .unset, .unset] []))
  obtain ⟨T1, h1, X1, e1, E1, A1, D1, -, st1⟩ := newO X0 hx hZ hown (hw _ (List.mem_of_getElem? (i := 0) rfl)) (hw _ (List.mem_of_getElem? (i := 1) rfl)) (hw _ (List.mem_of_getElem? (i := 2) rfl)) e0 (g := (mkF m 0 #[.val (.long p1), .second, .unset, .unset, .unset, .unset, .unset, .unset, .unset] [])) rfl (hb hby at_0) (by decide) (by decide)
  obtain ⟨a, g1⟩ : ∃ z, z = h0.size := ⟨_, rfl⟩
  rw [← g1] at A1 D1 st1
  have g_a : n0 ≤ a := Nat.le_trans Z0 (Nat.le_of_eq g1.symm)
  have Z1 : n0 ≤ h1.size := Nat.le_trans Z0 E1.1
  have E_a := A1
  have F_state_a : Fld Z h1 a "com/example/slotweave/slotweave/synth/SplitMix64" "state" "J" (.long (0 : Int64)) := D1 (Or.inl (hw _ (List.mem_of_getElem? (i := 10) rfl))) (ty := .long) (by decide)
  refine Goes.pre (U' := T1.setTop (mkF m 3 #[.val (.long p1), .second, .unset, .unset, .unset, .unset, .unset, .unset, .unset] [(.ref a)])) (fun t k => st1 t k) ?_
  refine Goes.pre (U' := T1.setTop (mkF m 4 #[.val (.long p1), .second, .unset, .unset, .unset, .unset, .unset, .unset, .unset] [(.ref a), (.ref a)])) (fun t k => XS.dup X1.here hx rfl (hb hby at_3) rfl rfl k) ?_
  refine Goes.pre (U' := T1.setTop (mkF m 5 #[.val (.long p1), .second, .unset, .unset, .unset, .unset, .unset, .unset, .unset] [(.long p1), (.ref a), (.ref a)])) (fun t k => XS.lloadN X1.here hx rfl (hb hby at_4) rfl k) ?_
  obtain ⟨_, _, ⟨T2, L2, k2, n2⟩, -, X2, ⟨Lc2, hQ2, l2, y2, z2⟩, st2⟩ := X1.specialBack hx (y := (⟨"com/example/slotweave/slotweave/synth/SplitMix64", "<init>", "(J)V"⟩ : MethodName)) rfl hown (mvT hZ (hw _ (List.mem_of_getElem? (i := 3) rfl))) (mvT hZ (hw _ (List.mem_of_getElem? (i := 4) rfl))) (mvT hZ (hw _ (List.mem_of_getElem? (i := 5) rfl))) (by decide) (backOf (W := 1) (rm_init l Z a0 hw [] a p1 h1 n0 Z1 E_a F_state_a g_a) hZ (hw _ (List.mem_of_getElem? (i := 5) rfl)) (hw _ (List.mem_of_getElem? (i := 2) rfl)) (by decide) (by decide)) (g := (mkF m 5 #[.val (.long p1), .second, .unset, .unset, .unset, .unset, .unset, .unset, .unset] [(.long p1), (.ref a), (.ref a)])) rfl (by rw [hml]; rfl) (Steps.refl _) (a := a) (argsL := [(.long p1)]) (rest := [(.ref a)]) (lenOf pd__28J_29V rfl) rfl (by show 2 * 0 + _ ≤ _; exact Nat.le_of_eq rfl) (hb hby at_5) (fun _ _ => ⟨rfl, e1, (by decide : 1 + 0 ≤ _), (by decide : 1 + 0 ≤ _)⟩)
  dsimp only [Pt.U, Pt.locs, Pt.cells, Pt.slots] at X2 l2 y2 z2 st2 hQ2
  subst l2 y2 z2
  obtain ⟨rfl, N2q, KQ2, fqstate_2⟩ := hQ2
  have N2 := Fr.app N0 N2q
  have E_a := E_a.keep KQ2
  have Z3 : n0 ≤ T2.heap.size := Nat.le_trans Z1 KQ2.1
  have F_state_a := fqstate_2
  refine Goes.pre (U' := T2.setTop (mkF m 8 #[.val (.long p1), .second, .unset, .unset, .unset, .unset, .unset, .unset, .unset] [(.ref a)])) (fun t k => st2.trans k) ?_
  refine Goes.pre (U' := T2.setTop (mkF m 9 #[.val (.long p1), .second, .val (.ref a), .unset, .unset, .unset, .unset, .unset, .unset] [])) (fun t k => XS.astoreN X2.here hx rfl (hb hby at_8) rfl rfl (l' := #[.val (.long p1), .second, .val (.ref a), .unset, .unset, .unset, .unset, .unset, .unset]) rfl k) ?_
  refine Goes.pre (U' := T2.setTop (mkF m 10 #[.val (.long p1), .second, .val (.ref a), .unset, .unset, .unset, .unset, .unset, .unset] [(.ref a)])) (fun t k => XS.aloadN X2.here hx rfl (hb hby at_9) rfl rfl k) ?_
  obtain ⟨cq4, kq4, q4a, q4b, q4c⟩ := isOf hZ rfl E_a
  obtain ⟨_, _, ⟨T4, L4, k4, n4⟩, -, X4, ⟨Lc4, hQ4, l4, y4, z4⟩, st4⟩ := X2.virtualBack hx (y := (⟨"com/example/slotweave/slotweave/synth/SplitMix64", "nextLong", "()J"⟩ : MethodName)) (z := (⟨"com/example/slotweave/slotweave/synth/SplitMix64", "nextLong", "()J"⟩ : MethodName)) hown (mvT hZ (hw _ (List.mem_of_getElem? (i := 11) rfl))) (mvT hZ (hw _ (List.mem_of_getElem? (i := 12) rfl))) (notFace_of_selects (args := #[]) (mvT hZ (hw _ (List.mem_of_getElem? (i := 14) rfl)))) (mvT hZ (hw _ (List.mem_of_getElem? (i := 14) rfl))) (mvT hZ (hw _ (List.mem_of_getElem? (i := 13) rfl))) (by decide) (backOf (W := 0) (rm_next l Z a0 hw [] a p1 T2.heap n0 Z3 E_a F_state_a g_a) hZ (hw _ (List.mem_of_getElem? (i := 15) rfl)) (hw _ (List.mem_of_getElem? (i := 2) rfl)) (by decide) (by decide)) q4a q4c (g := (mkF m 10 #[.val (.long p1), .second, .val (.ref a), .unset, .unset, .unset, .unset, .unset, .unset] [(.ref a)])) rfl (by rw [hml]; rfl) (Steps.refl _) (argsL := []) (rest := []) (lenOf pd__28_29J rfl) rfl (by show 2 * 0 + _ ≤ _; exact Nat.le_of_eq rfl) (hb hby at_10) (fun _ _ => ⟨rfl, rfl, (by decide : 1 + 0 ≤ _), (by decide : 1 + 0 ≤ _)⟩)
  dsimp only [Pt.U, Pt.locs, Pt.cells, Pt.slots] at X4 l4 y4 z4 st4 hQ4
  subst l4 y4 z4
  obtain ⟨rfl, N4q, KQ4, fq_4⟩ := hQ4
  have N4 := Fr.app N2 N4q
  have E_a := E_a.keep KQ4
  have Z5 : n0 ≤ T4.heap.size := Nat.le_trans Z3 KQ4.1
  have F_state_a := fq_4
  refine Goes.pre (U' := T4.setTop (mkF m 13 #[.val (.long p1), .second, .val (.ref a), .unset, .unset, .unset, .unset, .unset, .unset] [(.long (own_mix (p1 + (-7046029254386353131 : Int64))))])) (fun t k => st4.trans k) ?_
  refine Goes.pre (U' := T4.setTop (mkF m 14 #[.val (.long p1), .second, .val (.ref a), .val (.long (own_mix (p1 + (-7046029254386353131 : Int64)))), .second, .unset, .unset, .unset, .unset] [])) (fun t k => XS.lstoreN X4.here hx rfl (hb hby at_13) rfl (l' := #[.val (.long p1), .second, .val (.ref a), .val (.long (own_mix (p1 + (-7046029254386353131 : Int64)))), .second, .unset, .unset, .unset, .unset]) rfl k) ?_
  refine Goes.pre (U' := T4.setTop (mkF m 15 #[.val (.long p1), .second, .val (.ref a), .val (.long (own_mix (p1 + (-7046029254386353131 : Int64)))), .second, .unset, .unset, .unset, .unset] [(.ref a)])) (fun t k => XS.aloadN X4.here hx rfl (hb hby at_14) rfl rfl k) ?_
  obtain ⟨cq6, kq6, q6a, q6b, q6c⟩ := isOf hZ rfl E_a
  obtain ⟨_, _, ⟨T6, L6, k6, n6⟩, -, X6, ⟨Lc6, hQ6, l6, y6, z6⟩, st6⟩ := X4.virtualBack hx (y := (⟨"com/example/slotweave/slotweave/synth/SplitMix64", "nextLong", "()J"⟩ : MethodName)) (z := (⟨"com/example/slotweave/slotweave/synth/SplitMix64", "nextLong", "()J"⟩ : MethodName)) hown (mvT hZ (hw _ (List.mem_of_getElem? (i := 11) rfl))) (mvT hZ (hw _ (List.mem_of_getElem? (i := 12) rfl))) (notFace_of_selects (args := #[]) (mvT hZ (hw _ (List.mem_of_getElem? (i := 14) rfl)))) (mvT hZ (hw _ (List.mem_of_getElem? (i := 14) rfl))) (mvT hZ (hw _ (List.mem_of_getElem? (i := 13) rfl))) (by decide) (backOf (W := 0) (rm_next l Z a0 hw [] a (p1 + (-7046029254386353131 : Int64)) T4.heap n0 Z5 E_a F_state_a g_a) hZ (hw _ (List.mem_of_getElem? (i := 15) rfl)) (hw _ (List.mem_of_getElem? (i := 2) rfl)) (by decide) (by decide)) q6a q6c (g := (mkF m 15 #[.val (.long p1), .second, .val (.ref a), .val (.long (own_mix (p1 + (-7046029254386353131 : Int64)))), .second, .unset, .unset, .unset, .unset] [(.ref a)])) rfl (by rw [hml]; rfl) (Steps.refl _) (argsL := []) (rest := []) (lenOf pd__28_29J rfl) rfl (by show 2 * 0 + _ ≤ _; exact Nat.le_of_eq rfl) (hb hby at_15) (fun _ _ => ⟨rfl, rfl, (by decide : 1 + 0 ≤ _), (by decide : 1 + 0 ≤ _)⟩)
  dsimp only [Pt.U, Pt.locs, Pt.cells, Pt.slots] at X6 l6 y6 z6 st6 hQ6
  subst l6 y6 z6
  obtain ⟨rfl, N6q, KQ6, fq_6⟩ := hQ6
  have N6 := Fr.app N4 N6q
  have E_a := E_a.keep KQ6
  have Z7 : n0 ≤ T6.heap.size := Nat.le_trans Z5 KQ6.1
  have F_state_a := fq_6
  refine Goes.pre (U' := T6.setTop (mkF m 18 #[.val (.long p1), .second, .val (.ref a), .val (.long (own_mix (p1 + (-7046029254386353131 : Int64)))), .second, .unset, .unset, .unset, .unset] [(.long (own_mix ((p1 + (-7046029254386353131 : Int64)) + (-7046029254386353131 : Int64))))])) (fun t k => st6.trans k) ?_
  refine Goes.pre (U' := T6.setTop (mkF m 20 #[.val (.long p1), .second, .val (.ref a), .val (.long (own_mix (p1 + (-7046029254386353131 : Int64)))), .second, .val (.long (own_mix ((p1 + (-7046029254386353131 : Int64)) + (-7046029254386353131 : Int64)))), .second, .unset, .unset] [])) (fun t k => XS.lstore X6.here hx rfl (hb hby at_18) rfl (l' := #[.val (.long p1), .second, .val (.ref a), .val (.long (own_mix (p1 + (-7046029254386353131 : Int64)))), .second, .val (.long (own_mix ((p1 + (-7046029254386353131 : Int64)) + (-7046029254386353131 : Int64)))), .second, .unset, .unset]) rfl k) ?_
  refine Goes.pre (U' := T6.setTop (mkF m 23 #[.val (.long p1), .second, .val (.ref a), .val (.long (own_mix (p1 + (-7046029254386353131 : Int64)))), .second, .val (.long (own_mix ((p1 + (-7046029254386353131 : Int64)) + (-7046029254386353131 : Int64)))), .second, .unset, .unset] [(.long (-7046029254386353131 : Int64))])) (fun t k => X6.ldc2Long hx hown (mvT hZ (hw _ (List.mem_of_getElem? (i := 19) rfl))) (g := (mkF m 20 #[.val (.long p1), .second, .val (.ref a), .val (.long (own_mix (p1 + (-7046029254386353131 : Int64)))), .second, .val (.long (own_mix ((p1 + (-7046029254386353131 : Int64)) + (-7046029254386353131 : Int64)))), .second, .unset, .unset] [])) rfl (hb hby at_20) _ k) ?_
  refine Goes.pre (U' := T6.setTop (mkF m 25 #[.val (.long p1), .second, .val (.ref a), .val (.long (own_mix (p1 + (-7046029254386353131 : Int64)))), .second, .val (.long (own_mix ((p1 + (-7046029254386353131 : Int64)) + (-7046029254386353131 : Int64)))), .second, .val (.long (-7046029254386353131 : Int64)), .second] [])) (fun t k => XS.lstore X6.here hx rfl (hb hby at_23) rfl (l' := #[.val (.long p1), .second, .val (.ref a), .val (.long (own_mix (p1 + (-7046029254386353131 : Int64)))), .second, .val (.long (own_mix ((p1 + (-7046029254386353131 : Int64)) + (-7046029254386353131 : Int64)))), .second, .val (.long (-7046029254386353131 : Int64)), .second]) rfl k) ?_
  refine Goes.pre (U' := T6.setTop (mkF m 26 #[.val (.long p1), .second, .val (.ref a), .val (.long (own_mix (p1 + (-7046029254386353131 : Int64)))), .second, .val (.long (own_mix ((p1 + (-7046029254386353131 : Int64)) + (-7046029254386353131 : Int64)))), .second, .val (.long (-7046029254386353131 : Int64)), .second] [(.long (own_mix (p1 + (-7046029254386353131 : Int64))))])) (fun t k => XS.lloadN X6.here hx rfl (hb hby at_25) rfl k) ?_
  obtain ⟨_, _, ⟨T8, L8, k8, n8⟩, -, X8, ⟨Lc8, hQ8, l8, y8, z8⟩, st8⟩ := Jvm.LawKit.callS X6 hx (y := (⟨"com/example/slotweave/slotweave/synth/SplitMix64NextLongPinLaw", "unmix", "(J)J"⟩ : MethodName)) hown (mvT hZ (hw _ (List.mem_of_getElem? (i := 20) rfl))) (mvT hZ (hw _ (List.mem_of_getElem? (i := 21) rfl))) (mvT hZ (hw _ (List.mem_of_getElem? (i := 22) rfl))) (mvT hZ (hw _ (List.mem_of_getElem? (i := 23) rfl))) (by decide) (backOf (W := 0) (rm_unmix l Z a0 hw [] (own_mix (p1 + (-7046029254386353131 : Int64))) T6.heap n0 Z7) hZ (hw _ (List.mem_of_getElem? (i := 23) rfl)) (hw _ (List.mem_of_getElem? (i := 22) rfl)) (by decide) (by decide)) (g := (mkF m 26 #[.val (.long p1), .second, .val (.ref a), .val (.long (own_mix (p1 + (-7046029254386353131 : Int64)))), .second, .val (.long (own_mix ((p1 + (-7046029254386353131 : Int64)) + (-7046029254386353131 : Int64)))), .second, .val (.long (-7046029254386353131 : Int64)), .second] [(.long (own_mix (p1 + (-7046029254386353131 : Int64))))])) rfl (by rw [hml]; rfl) (argsL := [(.long (own_mix (p1 + (-7046029254386353131 : Int64))))]) (rest := []) (lenOf pd__28J_29J rfl) rfl (by show 2 * 0 + _ ≤ _; exact Nat.le_of_eq rfl) (hb hby at_26) (fun _ _ => ⟨rfl, rfl, (by decide : 1 + 0 ≤ _), (by decide : 1 + 0 ≤ _)⟩)
  dsimp only [Pt.U, Pt.locs, Pt.cells, Pt.slots] at X8 l8 y8 z8 st8 hQ8
  subst l8 y8 z8
  obtain ⟨rfl, N8q, HQ8⟩ := hQ8
  have N8 := Fr.app N6 N8q
  refine Goes.pre (U' := T8.setTop (mkF m 29 #[.val (.long p1), .second, .val (.ref a), .val (.long (own_mix (p1 + (-7046029254386353131 : Int64)))), .second, .val (.long (own_mix ((p1 + (-7046029254386353131 : Int64)) + (-7046029254386353131 : Int64)))), .second, .val (.long (-7046029254386353131 : Int64)), .second] [(.long (own_unmix (own_mix (p1 + (-7046029254386353131 : Int64)))))])) (fun t k => st8 t k) ?_
  refine Goes.pre (U' := T8.setTop (mkF m 30 #[.val (.long p1), .second, .val (.ref a), .val (.long (own_mix (p1 + (-7046029254386353131 : Int64)))), .second, .val (.long (own_mix ((p1 + (-7046029254386353131 : Int64)) + (-7046029254386353131 : Int64)))), .second, .val (.long (-7046029254386353131 : Int64)), .second] [(.long p1), (.long (own_unmix (own_mix (p1 + (-7046029254386353131 : Int64)))))])) (fun t k => XS.lloadN X8.here hx rfl (hb hby at_29) rfl k) ?_
  refine Goes.pre (U' := T8.setTop (mkF m 32 #[.val (.long p1), .second, .val (.ref a), .val (.long (own_mix (p1 + (-7046029254386353131 : Int64)))), .second, .val (.long (own_mix ((p1 + (-7046029254386353131 : Int64)) + (-7046029254386353131 : Int64)))), .second, .val (.long (-7046029254386353131 : Int64)), .second] [(.long (-7046029254386353131 : Int64)), (.long p1), (.long (own_unmix (own_mix (p1 + (-7046029254386353131 : Int64)))))])) (fun t k => XS.lload X8.here hx rfl (hb hby at_30) rfl k) ?_
  refine Goes.pre (U' := T8.setTop (mkF m 33 #[.val (.long p1), .second, .val (.ref a), .val (.long (own_mix (p1 + (-7046029254386353131 : Int64)))), .second, .val (.long (own_mix ((p1 + (-7046029254386353131 : Int64)) + (-7046029254386353131 : Int64)))), .second, .val (.long (-7046029254386353131 : Int64)), .second] [(.long (p1 + (-7046029254386353131 : Int64))), (.long (own_unmix (own_mix (p1 + (-7046029254386353131 : Int64)))))])) (fun t k => XS.ladd X8.here hx rfl (hb hby at_32) rfl k) ?_
  refine Goes.pre (U' := T8.setTop (mkF m 34 #[.val (.long p1), .second, .val (.ref a), .val (.long (own_mix (p1 + (-7046029254386353131 : Int64)))), .second, .val (.long (own_mix ((p1 + (-7046029254386353131 : Int64)) + (-7046029254386353131 : Int64)))), .second, .val (.long (-7046029254386353131 : Int64)), .second] [(.int (lcmpW (own_unmix (own_mix (p1 + (-7046029254386353131 : Int64)))) (p1 + (-7046029254386353131 : Int64))))])) (fun t k => XS.lcmp X8.here hx rfl (hb hby at_33) rfl k) ?_
  have hc34 : (lcmpW (own_unmix (own_mix (p1 + (-7046029254386353131 : Int64)))) (p1 + (-7046029254386353131 : Int64))) = (0 : Int32) := by rw [own_un]; exact own_eqc _
  refine Goes.pre (U' := T8.setTop (mkF m 37 #[.val (.long p1), .second, .val (.ref a), .val (.long (own_mix (p1 + (-7046029254386353131 : Int64)))), .second, .val (.long (own_mix ((p1 + (-7046029254386353131 : Int64)) + (-7046029254386353131 : Int64)))), .second, .val (.long (-7046029254386353131 : Int64)), .second] [])) (fun t k => XS.ifNo X8.here hx rfl (hb hby at_34) rfl ((if0 _ _).trans (teq hc34).2) k) ?_
  refine Goes.pre (U' := T8.setTop (mkF m 39 #[.val (.long p1), .second, .val (.ref a), .val (.long (own_mix (p1 + (-7046029254386353131 : Int64)))), .second, .val (.long (own_mix ((p1 + (-7046029254386353131 : Int64)) + (-7046029254386353131 : Int64)))), .second, .val (.long (-7046029254386353131 : Int64)), .second] [(.long (own_mix ((p1 + (-7046029254386353131 : Int64)) + (-7046029254386353131 : Int64))))])) (fun t k => XS.lload X8.here hx rfl (hb hby at_37) rfl k) ?_
  obtain ⟨_, _, ⟨T9, L9, k9, n9⟩, -, X9, ⟨Lc9, hQ9, l9, y9, z9⟩, st9⟩ := Jvm.LawKit.callS X8 hx (y := (⟨"com/example/slotweave/slotweave/synth/SplitMix64NextLongPinLaw", "unmix", "(J)J"⟩ : MethodName)) hown (mvT hZ (hw _ (List.mem_of_getElem? (i := 20) rfl))) (mvT hZ (hw _ (List.mem_of_getElem? (i := 21) rfl))) (mvT hZ (hw _ (List.mem_of_getElem? (i := 22) rfl))) (mvT hZ (hw _ (List.mem_of_getElem? (i := 23) rfl))) (by decide) (backOf (W := 0) (rm_unmix l Z a0 hw [] (own_mix ((p1 + (-7046029254386353131 : Int64)) + (-7046029254386353131 : Int64))) T6.heap n0 Z7) hZ (hw _ (List.mem_of_getElem? (i := 23) rfl)) (hw _ (List.mem_of_getElem? (i := 22) rfl)) (by decide) (by decide)) (g := (mkF m 39 #[.val (.long p1), .second, .val (.ref a), .val (.long (own_mix (p1 + (-7046029254386353131 : Int64)))), .second, .val (.long (own_mix ((p1 + (-7046029254386353131 : Int64)) + (-7046029254386353131 : Int64)))), .second, .val (.long (-7046029254386353131 : Int64)), .second] [(.long (own_mix ((p1 + (-7046029254386353131 : Int64)) + (-7046029254386353131 : Int64))))])) rfl (by rw [hml]; rfl) (argsL := [(.long (own_mix ((p1 + (-7046029254386353131 : Int64)) + (-7046029254386353131 : Int64))))]) (rest := []) (lenOf pd__28J_29J rfl) rfl (by show 2 * 0 + _ ≤ _; exact Nat.le_of_eq rfl) (hb hby at_39) (fun _ _ => ⟨rfl, HQ8, (by decide : 1 + 0 ≤ _), (by decide : 1 + 0 ≤ _)⟩)
  dsimp only [Pt.U, Pt.locs, Pt.cells, Pt.slots] at X9 l9 y9 z9 st9 hQ9
  subst l9 y9 z9
  obtain ⟨rfl, N9q, HQ9⟩ := hQ9
  have N9 := Fr.app N8 N9q
  refine Goes.pre (U' := T9.setTop (mkF m 42 #[.val (.long p1), .second, .val (.ref a), .val (.long (own_mix (p1 + (-7046029254386353131 : Int64)))), .second, .val (.long (own_mix ((p1 + (-7046029254386353131 : Int64)) + (-7046029254386353131 : Int64)))), .second, .val (.long (-7046029254386353131 : Int64)), .second] [(.long (own_unmix (own_mix ((p1 + (-7046029254386353131 : Int64)) + (-7046029254386353131 : Int64)))))])) (fun t k => st9 t k) ?_
  refine Goes.pre (U' := T9.setTop (mkF m 43 #[.val (.long p1), .second, .val (.ref a), .val (.long (own_mix (p1 + (-7046029254386353131 : Int64)))), .second, .val (.long (own_mix ((p1 + (-7046029254386353131 : Int64)) + (-7046029254386353131 : Int64)))), .second, .val (.long (-7046029254386353131 : Int64)), .second] [(.long p1), (.long (own_unmix (own_mix ((p1 + (-7046029254386353131 : Int64)) + (-7046029254386353131 : Int64)))))])) (fun t k => XS.lloadN X9.here hx rfl (hb hby at_42) rfl k) ?_
  refine Goes.pre (U' := T9.setTop (mkF m 45 #[.val (.long p1), .second, .val (.ref a), .val (.long (own_mix (p1 + (-7046029254386353131 : Int64)))), .second, .val (.long (own_mix ((p1 + (-7046029254386353131 : Int64)) + (-7046029254386353131 : Int64)))), .second, .val (.long (-7046029254386353131 : Int64)), .second] [(.long (-7046029254386353131 : Int64)), (.long p1), (.long (own_unmix (own_mix ((p1 + (-7046029254386353131 : Int64)) + (-7046029254386353131 : Int64)))))])) (fun t k => XS.lload X9.here hx rfl (hb hby at_43) rfl k) ?_
  refine Goes.pre (U' := T9.setTop (mkF m 46 #[.val (.long p1), .second, .val (.ref a), .val (.long (own_mix (p1 + (-7046029254386353131 : Int64)))), .second, .val (.long (own_mix ((p1 + (-7046029254386353131 : Int64)) + (-7046029254386353131 : Int64)))), .second, .val (.long (-7046029254386353131 : Int64)), .second] [(.long (p1 + (-7046029254386353131 : Int64))), (.long (own_unmix (own_mix ((p1 + (-7046029254386353131 : Int64)) + (-7046029254386353131 : Int64)))))])) (fun t k => XS.ladd X9.here hx rfl (hb hby at_45) rfl k) ?_
  refine Goes.pre (U' := T9.setTop (mkF m 48 #[.val (.long p1), .second, .val (.ref a), .val (.long (own_mix (p1 + (-7046029254386353131 : Int64)))), .second, .val (.long (own_mix ((p1 + (-7046029254386353131 : Int64)) + (-7046029254386353131 : Int64)))), .second, .val (.long (-7046029254386353131 : Int64)), .second] [(.long (-7046029254386353131 : Int64)), (.long (p1 + (-7046029254386353131 : Int64))), (.long (own_unmix (own_mix ((p1 + (-7046029254386353131 : Int64)) + (-7046029254386353131 : Int64)))))])) (fun t k => XS.lload X9.here hx rfl (hb hby at_46) rfl k) ?_
  refine Goes.pre (U' := T9.setTop (mkF m 49 #[.val (.long p1), .second, .val (.ref a), .val (.long (own_mix (p1 + (-7046029254386353131 : Int64)))), .second, .val (.long (own_mix ((p1 + (-7046029254386353131 : Int64)) + (-7046029254386353131 : Int64)))), .second, .val (.long (-7046029254386353131 : Int64)), .second] [(.long ((p1 + (-7046029254386353131 : Int64)) + (-7046029254386353131 : Int64))), (.long (own_unmix (own_mix ((p1 + (-7046029254386353131 : Int64)) + (-7046029254386353131 : Int64)))))])) (fun t k => XS.ladd X9.here hx rfl (hb hby at_48) rfl k) ?_
  refine Goes.pre (U' := T9.setTop (mkF m 50 #[.val (.long p1), .second, .val (.ref a), .val (.long (own_mix (p1 + (-7046029254386353131 : Int64)))), .second, .val (.long (own_mix ((p1 + (-7046029254386353131 : Int64)) + (-7046029254386353131 : Int64)))), .second, .val (.long (-7046029254386353131 : Int64)), .second] [(.int (lcmpW (own_unmix (own_mix ((p1 + (-7046029254386353131 : Int64)) + (-7046029254386353131 : Int64)))) ((p1 + (-7046029254386353131 : Int64)) + (-7046029254386353131 : Int64))))])) (fun t k => XS.lcmp X9.here hx rfl (hb hby at_49) rfl k) ?_
  have hc50 : (lcmpW (own_unmix (own_mix ((p1 + (-7046029254386353131 : Int64)) + (-7046029254386353131 : Int64)))) ((p1 + (-7046029254386353131 : Int64)) + (-7046029254386353131 : Int64))) = (0 : Int32) := by rw [own_un]; exact own_eqc _
  refine Goes.pre (U' := T9.setTop (mkF m 53 #[.val (.long p1), .second, .val (.ref a), .val (.long (own_mix (p1 + (-7046029254386353131 : Int64)))), .second, .val (.long (own_mix ((p1 + (-7046029254386353131 : Int64)) + (-7046029254386353131 : Int64)))), .second, .val (.long (-7046029254386353131 : Int64)), .second] [])) (fun t k => XS.ifNo X9.here hx rfl (hb hby at_50) rfl ((if0 _ _).trans (teq hc50).2) k) ?_
  refine Goes.pre (U' := T9.setTop (mkF m 54 #[.val (.long p1), .second, .val (.ref a), .val (.long (own_mix (p1 + (-7046029254386353131 : Int64)))), .second, .val (.long (own_mix ((p1 + (-7046029254386353131 : Int64)) + (-7046029254386353131 : Int64)))), .second, .val (.long (-7046029254386353131 : Int64)), .second] [(.int (1 : Int32))])) (fun t k => XS.iconst X9.here hx rfl (hb hby at_53) k) ?_
  refine Goes.pre (U' := T9.setTop (mkF m 58 #[.val (.long p1), .second, .val (.ref a), .val (.long (own_mix (p1 + (-7046029254386353131 : Int64)))), .second, .val (.long (own_mix ((p1 + (-7046029254386353131 : Int64)) + (-7046029254386353131 : Int64)))), .second, .val (.long (-7046029254386353131 : Int64)), .second] [(.int (1 : Int32))])) (fun t k => XS.goto X9.here hx rfl (pc0 := 54) (pc' := 58) rfl (hb hby at_54) (by decide) (by decide) k) ?_
  refine Goes.ret X9 (v := (some (.int (1 : Int32)))) (fun h => by rw [Bd.returns] at h; cases h) Bd.notSynchronized (by decide) (by decide) HQ9 (fun fs hr => retN X9 hx (t := .boolean) Bd.returns (by simp) (hb hby at_58) hr) ?_
  exact ⟨rfl, N9⟩
set_option maxRecDepth 65536 in
set_option maxHeartbeats 40000000 in
theorem comes_1 {Post : Tables → Env → Array Value → State → Outcome → State → Prop} (hpost : ∀ tb e args s v u, (limb_1_1.after args s (.returned v) u = true ∧ limb_1_2.after args s (.returned v) u = true ∧ True) → FrameEnd s (.returned v) u (Jvm.fieldLocs frame_1_writes args s ++ Jvm.arrayLocs frame_1_arrays args s ++ Jvm.staticLocs frame_1_statics s) 16 128 → Post tb e args s (.returned v) u) :
    ArmFor flags0 classFile x code maxLocals ret World_1 tables_1 room_1 Calls_1 rest_1 Pre_1 Post := by
  intro l hfl _ _ p e ha hc hk s m args below hf hA hF happ hP
  obtain ⟨hcalls, hrest, hpre⟩ := hP
  obtain ⟨-, -, -, hnamed, -, -, -, hat⟩ := (Spec.applies_iff hf).mp happ
  obtain ⟨hg, hn⟩ := and_e (Cond.before_iff.mp (show (Jvm.Cond.and given_1 narrow_1).before args s = true from hpre))
  obtain ⟨g1, g2⟩ := and_e hg
  obtain ⟨w0, rfl⟩ : ∃ w0 : Value, args = #[w0] := by
    have hs : args.size = 1 := by simpa [Cond.value, given_1] using g1
    obtain ⟨L⟩ := args
    match L, hs with
    | [w0], _ => exact ⟨w0, rfl⟩
  have hw := fun d (hd : d ∈ tables_1) => atoms_spec (ws := Jvm.Cond.code x code maxLocals ret :: tables_1) hat d (List.mem_cons_of_mem _ hd)
  have hfit : Fit s := fun {y c} hc i hi => by
    obtain ⟨ha, rfl⟩ := Array.getElem?_eq_some_iff.mp hc
    have q := List.all_eq_true.mp ((Array.all_eq_true_iff_forall_mem.mp hF) _ (Array.getElem_mem ha)) i (List.mem_range.mpr hi)
    simpa [Array.getElem?_eq_getElem hi] using q
  obtain ⟨i0, ei0⟩ := isL_v g2
  obtain rfl : w0 = (.long i0) := Option.some.inj ei0
  obtain ⟨n, o, h1, h2, h3, _, L, rfl, ⟨rfl, N⟩, hq⟩ := rm0 l s _ hw tables_1 i0 s.heap s.heap.size (Nat.le_refl _) p e ha hc hk s m _ below hf ((Spec.applies_iff_loose hf).mp happ).1 ⟨rfl, State.Warmed39.refl s, rfl⟩ trivial
  refine ⟨n, _, h1, h2, h3, hpost _ _ _ _ _ _ ⟨Cond.after_iff.mpr rfl, Cond.after_iff.mpr (eq_i res_at (Term.int_eval (1)) rfl), trivial⟩ ⟨hq.1, hq.2.1, (hq.2.2.sift fun y hy => Or.inr (N y hy)).mono (by decide) (by decide)⟩⟩
theorem main_1_1 : Claimed_1_1 := comes_1 fun _ _ _ _ _ _ h hF => ⟨h.1, hF⟩
theorem main_1_2 : Claimed_1_2 := comes_1 fun _ _ _ _ _ _ h hF => ⟨h.2.1, hF⟩
end Jvm.Pilot.@@N@@
namespace Jvm.Pilot.@@N@@
open Jvm Jvm.ClassFile Sem Op Lib Jvm.Free Jvm.Stand Jvm.Pilot.@@N@@.Jvm.D
/-! MADE BY PROGRAM (witnessworld.py) out of the Statement's table words and the real class files: 9 classes; the members and pool entries that the words name. The judged class is class 1, her method 2. -/
namespace start1
open Jvm.ClassFile
def u (s : String) : CpInfo := .utf8 (stringToUtf16 s)
/-- a pool by its gaps: so many unusable entries, then the entry; so many at the end -/
def gap : Nat → List CpInfo → List CpInfo
  | 0, r => r
  | n + 1, r => .unusable :: gap n r
def poolList (es : List (Nat × CpInfo)) (last : Nat) : List CpInfo := es.foldr (fun e r => gap e.1 (e.2 :: r)) (gap last [])
def pool (es : List (Nat × CpInfo)) (last : Nat) : Array CpInfo := ⟨poolList es last⟩
def fileOf (pool : Array CpInfo) (this : Nat) (attrs : Array Attribute := #[]) (ms : Array MethodInfo := #[]) (fl : Nat := 33) (sup : Nat := 0) (ifs : Array Nat := #[]) (fds : Array FieldInfo := #[]) : ClassFile where
  minorVersion := 0
  majorVersion := 65
  constantPool := pool
  accessFlags := fl
  thisClass := this
  superClass := sup
  interfaces := ifs
  fields := fds
  methods := ms
  attributes := attrs
def plain (name : String) (sup : Option ClassId) : Class where
  name := name
  kind := .ordinary
  loader := none
  accessFlags := 33
  super := sup
  interfaces := #[]
  cf := none
  fields := #[]
  methods := #[]
  instanceTypes := #[]
  staticTypes := #[]
  resolved := #[]
  callSites := []
  init := .initialized
  statics := none
  mirror := none

def pool0 : Array CpInfo := pool [(5, u "<init>"), (0, u "()V"), (1, .class_ 10), (1, u "java/lang/Object")] 113

def k0c0 : Code := { maxStack := 0, maxLocals := 1, code := object_method_1_code, exceptionTable := #[], attributes := #[] }
def k0m0 : Method := { name := "<init>", desc := "()V", sig := { parameters := [], returnType := none }, accessFlags := 1, code := some k0c0 }
/-- java/lang/Object -/
def k0 : Class := { plain "java/lang/Object" none with
  accessFlags := 33
  interfaces := #[]
  cf := some (fileOf pool0 8 #[] #[{ accessFlags := 1, nameIndex := 5, descriptorIndex := 6, attributes := #[] }] 33 0 #[] #[])
  fields := #[]
  methods := #[k0m0]
  instanceTypes := #[]
  staticTypes := #[]
  resolved := Array.replicate 124 none
  statics := none }

def pool1 : Array CpInfo := pool [(2, .class_ 4), (1, u "java/lang/Object"), (0, u "<init>"), (0, u "()V"), (0, .long 3573116690164977347), (1, .long 10871156337175269513), (1, .class_ 12), (0, u "com/example/slotweave/slotweave/synth/SplitMix64"), (0, .methodref 11 14), (0, .nameAndType 5 15), (0, u "(J)V"), (0, .methodref 11 17), (0, .nameAndType 18 19), (0, u "nextLong"), (0, u "()J"), (0, .long 11400714819323198485), (1, .methodref 23 24), (0, .class_ 25), (0, .nameAndType 26 27), (0, u "com/example/slotweave/slotweave/synth/SplitMix64NextLongPinLaw"), (0, u "unmix"), (0, u "(J)J"), (2, u "law"), (0, u "(J)Z")] 3

def k1m0 : Method := { name := "<init>", desc := "()V", sig := { parameters := [], returnType := none }, accessFlags := 1, code := none }
def k1c1 : Code := { maxStack := 5, maxLocals := 2, code := method_2_code, exceptionTable := #[], attributes := #[] }
def k1m1 : Method := { name := "unmix", desc := "(J)J", sig := { parameters := [.long], returnType := some .long }, accessFlags := 10, code := some k1c1 }
def k1c2 : Code := { maxStack := 6, maxLocals := 9, code := code, exceptionTable := #[], attributes := #[] }
def k1m2 : Method := { name := "law", desc := "(J)Z", sig := { parameters := [.long], returnType := some .boolean }, accessFlags := 9, code := some k1c2 }
/-- com/example/slotweave/slotweave/synth/SplitMix64NextLongPinLaw -/
def k1 : Class := { plain "com/example/slotweave/slotweave/synth/SplitMix64NextLongPinLaw" (some 0) with
  accessFlags := 49
  interfaces := #[]
  cf := some (fileOf pool1 23 #[] #[{ accessFlags := 1, nameIndex := 5, descriptorIndex := 6, attributes := #[] }, { accessFlags := 10, nameIndex := 26, descriptorIndex := 27, attributes := #[] }, { accessFlags := 9, nameIndex := 30, descriptorIndex := 31, attributes := #[] }] 49 2 #[] #[])
  fields := #[]
  methods := #[k1m0, k1m1, k1m2]
  instanceTypes := #[]
  staticTypes := #[]
  resolved := Array.replicate 35 none
  statics := none }

def pool2 : Array CpInfo := pool [(1, .methodref 2 3), (0, .class_ 4), (0, .nameAndType 5 6), (0, u "java/lang/Object"), (0, u "<init>"), (0, u "()V"), (0, .fieldref 8 9), (0, .class_ 10), (0, .nameAndType 11 12), (0, u "com/example/slotweave/slotweave/synth/SplitMix64"), (0, u "state"), (0, u "J"), (0, .long 11400714819323198485), (1, .long 13787848793156543929), (1, .long 10723151780598845931), (3, u "nextLong"), (0, u "()J"), (10, u "GOLDEN_GAMMA"), (1, u "UNIT"), (0, u "D"), (0, u "(J)V")] 11

def k2c0 : Code := { maxStack := 3, maxLocals := 3, code := prog_50_method_1_code, exceptionTable := #[], attributes := #[] }
def k2m0 : Method := { name := "<init>", desc := "(J)V", sig := { parameters := [.long], returnType := none }, accessFlags := 1, code := some k2c0 }
def k2c1 : Code := { maxStack := 5, maxLocals := 3, code := prog_50_method_2_code, exceptionTable := #[], attributes := #[] }
def k2m1 : Method := { name := "nextLong", desc := "()J", sig := { parameters := [], returnType := some .long }, accessFlags := 0, code := some k2c1 }
/-- com/example/slotweave/slotweave/synth/SplitMix64 -/
def k2 : Class := { plain "com/example/slotweave/slotweave/synth/SplitMix64" (some 0) with
  accessFlags := 49
  interfaces := #[]
  cf := some (fileOf pool2 8 #[] #[{ accessFlags := 1, nameIndex := 5, descriptorIndex := 37, attributes := #[] }, { accessFlags := 0, nameIndex := 21, descriptorIndex := 22, attributes := #[] }] 49 2 #[] #[{ accessFlags := 26, nameIndex := 33, descriptorIndex := 12, attributes := #[] }, { accessFlags := 26, nameIndex := 35, descriptorIndex := 36, attributes := #[] }, { accessFlags := 2, nameIndex := 11, descriptorIndex := 12, attributes := #[] }])
  fields := #[{ name := "GOLDEN_GAMMA", type := .long, accessFlags := 26, slot := 0, constantValue := 0 }, { name := "UNIT", type := .double, accessFlags := 26, slot := 1, constantValue := 0 }, { name := "state", type := .long, accessFlags := 2, slot := 0, constantValue := 0 }]
  methods := #[k2m0, k2m1]
  instanceTypes := #[.long]
  staticTypes := #[.long, .double]
  resolved := Array.replicate 49 none
  statics := none }

def pool3 : Array CpInfo := pool [(1, u "java/lang/Cloneable"), (0, .class_ 1), (0, u "java/lang/Object"), (0, .class_ 3)] 3

/-- java/lang/Cloneable -/
def k3 : Class := { plain "java/lang/Cloneable" (some 0) with
  accessFlags := 1537
  interfaces := #[]
  cf := some (fileOf pool3 2 #[] #[] 1537 4 #[] #[])
  fields := #[]
  methods := #[]
  instanceTypes := #[]
  staticTypes := #[]
  resolved := Array.replicate 8 none
  statics := none }

def pool4 : Array CpInfo := pool [(1, u "java/io/Serializable"), (0, .class_ 1), (0, u "java/lang/Object"), (0, .class_ 3)] 3

/-- java/io/Serializable -/
def k4 : Class := { plain "java/io/Serializable" (some 0) with
  accessFlags := 1537
  interfaces := #[]
  cf := some (fileOf pool4 2 #[] #[] 1537 4 #[] #[])
  fields := #[]
  methods := #[]
  instanceTypes := #[]
  staticTypes := #[]
  resolved := Array.replicate 8 none
  statics := none }

/-- the primitive byte -/
def k5 : Class := { plain "byte" none with kind := .primitive 'B', accessFlags := 0x411 }
/-- [B -/
def k6 : Class := { plain "[B" (some 0) with kind := .array 5 .byte, interfaces := #[3, 4], accessFlags := 1041 }

/-- the primitive int -/
def k7 : Class := { plain "int" none with kind := .primitive 'I', accessFlags := 0x411 }
/-- [I -/
def k8 : Class := { plain "[I" (some 0) with kind := .array 7 .int, interfaces := #[3, 4], accessFlags := 1041 }

def heap : Heap := #[]
def classes : Array Class := #[k0, k1, k2, k3, k4, k5, k6, k7, k8]
def interned : List (Array UInt16 × Addr) := []
def slotsUsed : Nat := 0
def theMethod : MethodId := ⟨1, 2⟩
def args0 : Array Value := #[.long 5]
def aboutOver (below : List Frame) : State where
  vm := { classes := classes, interned := interned.toArray }
  heap := heap
  slotsUsed := slotsUsed
  threads := #[{ frames := .invoking theMethod args0 :: below }]
def below0 : List Frame := [.native { method := ⟨0, 0⟩, args := #[] }]
def about1 : State := aboutOver below0
def p0 : Program := .bare "" "" ""
def e0 : Env := launch0.env 0 0 0
theorem w_frames : about1.frames = Frame.invoking theMethod args0 :: below0 := rfl
set_option maxRecDepth 65536 in
theorem w_args : argsFit about1.vm theMethod args0 = true := by decide +kernel
set_option maxRecDepth 65536 in
theorem w_heap : heapFits about1 = true := by decide +kernel
set_option maxRecDepth 65536 in
theorem w_runnable : about1.curStatus? = some .runnable := by decide +kernel
set_option maxRecDepth 65536 in
theorem w_alone : about1.alone = true := by decide +kernel
set_option maxRecDepth 65536 in
theorem w_named : about1.methodNamed? x = some theMethod := by decide +kernel
set_option maxRecDepth 65536 in
theorem w_hears : about1.hears theMethod below0 = true := by decide +kernel
set_option maxRecDepth 65536 in
theorem w_ripe : about1.ripe theMethod args0 below0 = true := by decide +kernel
theorem w_running : about1.status = .running := rfl
set_option maxRecDepth 65536 in
theorem w_room : about1.hasRoom e0.platform room_1 = true :=
  launch0.hasRoom_least _ room_1 (by decide +kernel) (by decide +kernel) (by decide +kernel) (by decide +kernel) (by decide +kernel) (by decide +kernel)
theorem allAtoms_all (ts : List Jvm.Cond) (a : Array Jvm.Value) (st : Jvm.State) : (allAtoms ts).before a st = ts.all (fun c => c.before a st) := by
  induction ts with
  | nil => rfl
  | cons c t ih =>
    show (Jvm.Cond.and c (allAtoms t)).before a st = _
    rw [Jvm.Cond.before_and, ih, List.all_cons]
def words1 : List Jvm.Cond := Jvm.Cond.code x code maxLocals ret :: tables_1
/-- a 'code' word, met by the world's own term for the bytes: nothing is compared byte by byte -/
theorem code_word {y : MethodName} {bytes : ByteArray} {mx : Nat} {rt : Option FieldType} {a : Array Value} {s : State} {m : MethodId} {meth : Method} {c : Code} (h1 : s.methodNamed? y = some m) (h2 : s.vm.method? m = some meth) (h3 : meth.code = some c) (h4 : c.code = bytes)
    (h5 : (c.maxLocals == mx && c.exceptionTable.isEmpty && decide (c.maxStack ≤ mostOperands) && decide (meth.sig.returnType = rt) && !meth.locks && decide (parseMethodDescriptor y.desc = some meth.sig)) = true) : (Jvm.Cond.code y bytes mx rt).before a s = true := by
  simp only [Bool.and_eq_true, beq_iff_eq, Bool.not_eq_true', decide_eq_true_eq] at h5
  obtain ⟨⟨⟨⟨⟨g1, g2⟩, g3⟩, g4⟩, g5⟩, g6⟩ := h5
  simp [Cond.before, Cond.holds, Cond.value, h1, h2, h3, h4, g1, g2, g3, g4, g5, g6]
def isCode : Jvm.Cond → Bool
  | .code _ _ _ _ => true
  | _ => false
theorem all_split {L : List Jvm.Cond} {P : Jvm.Cond → Bool} (h1 : L.all (fun c => isCode c || P c) = true) (h2 : ∀ c ∈ L.filter isCode, P c = true) : L.all P = true := by
  refine List.all_eq_true.mpr fun c hc => ?_
  have h := List.all_eq_true.mp h1 c hc
  rcases Bool.eq_false_or_eq_true (isCode c) with hi | hi
  · exact h2 c (List.mem_filter.mpr ⟨hc, hi⟩)
  · simpa [hi] using h
set_option maxRecDepth 65536 in
theorem w_c0 : (Jvm.Cond.code x code maxLocals ret).before args0 about1 = true := code_word (m := ⟨1, 2⟩) (meth := k1m2) (c := k1c2) (by decide +kernel) rfl rfl rfl (by decide +kernel)
set_option maxRecDepth 65536 in
theorem w_c1 : (Jvm.Cond.code ({ cls := "com/example/slotweave/slotweave/synth/SplitMix64", name := "<init>", desc := "(J)V" } : Jvm.MethodName) prog_50_method_1_code (3 : Nat) (Option.none : Option Jvm.ClassFile.FieldType)).before args0 about1 = true := code_word (m := ⟨2, 0⟩) (meth := k2m0) (c := k2c0) (by decide +kernel) rfl rfl rfl (by decide +kernel)
set_option maxRecDepth 65536 in
theorem w_c2 : (Jvm.Cond.code ({ cls := "java/lang/Object", name := "<init>", desc := "()V" } : Jvm.MethodName) object_method_1_code (1 : Nat) (Option.none : Option Jvm.ClassFile.FieldType)).before args0 about1 = true := code_word (m := ⟨0, 0⟩) (meth := k0m0) (c := k0c0) (by decide +kernel) rfl rfl rfl (by decide +kernel)
set_option maxRecDepth 65536 in
theorem w_c3 : (Jvm.Cond.code ({ cls := "com/example/slotweave/slotweave/synth/SplitMix64", name := "nextLong", desc := "()J" } : Jvm.MethodName) prog_50_method_2_code (3 : Nat) (Option.some Jvm.ClassFile.FieldType.long)).before args0 about1 = true := code_word (m := ⟨2, 1⟩) (meth := k2m1) (c := k2c1) (by decide +kernel) rfl rfl rfl (by decide +kernel)
set_option maxRecDepth 65536 in
theorem w_c4 : (Jvm.Cond.code ({ cls := "com/example/slotweave/slotweave/synth/SplitMix64NextLongPinLaw", name := "unmix", desc := "(J)J" } : Jvm.MethodName) method_2_code (2 : Nat) (Option.some Jvm.ClassFile.FieldType.long)).before args0 about1 = true := code_word (m := ⟨1, 1⟩) (meth := k1m1) (c := k1c1) (by decide +kernel) rfl rfl rfl (by decide +kernel)
def codes1 : List Jvm.Cond := [Jvm.Cond.code x code maxLocals ret, Jvm.Cond.code ({ cls := "com/example/slotweave/slotweave/synth/SplitMix64", name := "<init>", desc := "(J)V" } : Jvm.MethodName) prog_50_method_1_code (3 : Nat) (Option.none : Option Jvm.ClassFile.FieldType), Jvm.Cond.code ({ cls := "java/lang/Object", name := "<init>", desc := "()V" } : Jvm.MethodName) object_method_1_code (1 : Nat) (Option.none : Option Jvm.ClassFile.FieldType), Jvm.Cond.code ({ cls := "com/example/slotweave/slotweave/synth/SplitMix64", name := "nextLong", desc := "()J" } : Jvm.MethodName) prog_50_method_2_code (3 : Nat) (Option.some Jvm.ClassFile.FieldType.long), Jvm.Cond.code ({ cls := "com/example/slotweave/slotweave/synth/SplitMix64NextLongPinLaw", name := "unmix", desc := "(J)J" } : Jvm.MethodName) method_2_code (2 : Nat) (Option.some Jvm.ClassFile.FieldType.long)]
set_option maxRecDepth 65536 in
theorem codes_eq : words1.filter isCode = codes1 := rfl
theorem w_codes : ∀ c ∈ words1.filter isCode, c.before args0 about1 = true := by
  rw [codes_eq]
  intro c hc
  simp only [codes1, List.mem_cons, List.not_mem_nil, or_false] at hc
  rcases hc with rfl | rfl | rfl | rfl | rfl
  · exact w_c0
  · exact w_c1
  · exact w_c2
  · exact w_c3
  · exact w_c4
set_option maxRecDepth 65536 in
theorem w_t1 : (words1.take 24).all (fun c => isCode c || c.before args0 about1) = true := by decide +kernel
set_option maxRecDepth 65536 in
theorem w_t2 : (words1.drop 24).all (fun c => isCode c || c.before args0 about1) = true := by decide +kernel
theorem w_tables : (allAtoms (Jvm.Cond.code x code maxLocals ret :: tables_1)).before args0 about1 = true := by
  rw [allAtoms_all]
  show words1.all (fun c => c.before args0 about1) = true
  refine all_split ?_ w_codes
  rw [← List.take_append_drop 24 words1, List.all_append, w_t1, w_t2]
  rfl
set_option maxRecDepth 65536 in
theorem w_case : (Jvm.Cond.and given_1 narrow_1).before args0 about1 = true := by decide +kernel
theorem w_applies : (headSpec (Jvm.Cond.code x code maxLocals ret :: tables_1) room_1).applies x e0.platform about1 = true :=
  (Spec.applies_iff w_frames).mpr ⟨w_running, w_runnable, w_alone, w_named, w_hears, w_ripe, w_room, w_tables⟩
theorem atStart : AtStart classFile x code maxLocals ret World_1 tables_1 room_1 Calls_1 rest_1 Pre_1 launch0 p0 e0 about1 theMethod args0 below0 :=
  ⟨lists_1, trivial, launch0.admits_env _ _ _, launch0.least_env, fairChoices_fair.cas, fairChoices_fair.clock, w_frames, w_args, w_heap, w_applies, trivial, trivial, w_case⟩
end start1
theorem witness_1 : WitnessClaimed_1 := ⟨start1.p0, start1.e0, start1.about1, start1.theMethod, start1.args0, start1.below0, start1.atStart⟩
end Jvm.Pilot.@@N@@
