import JvmDerived
import JvmDerived.Pilot.@@N@@Statement
import JvmDerived.Pilot.@@N@@Code
set_option linter.unusedVariables false
set_option linter.unusedSimpArgs false
namespace Jvm.RoadKit
open Sem ClassFile Op Lib Jvm.Stand Jvm.Free Jvm.LawKit
section New
variable {p : Program} {l : Launch} {e : Env} {R : Room} {s : State} {m : MethodId} {args : Array Value} {below : List Frame} {meth : Method} {c : Code} {T : State} {locs : List Loc} {cells slots : Nat}
theorem retI (X : Stand p l e R s m args below meth c T locs cells slots) (hx : p.tables.exec = Jvm.exec) {pc : Nat} {Ls : Array Slot} {z : Int32} {rest : List Value} (hret : meth.sig.returnType = some .int) (hd : decode c.code pc = .ok (.ireturn, 1)) {fs : List Frame}
    (hl : ∀ (f : JFrame) (acts : List Action), f.method = m → f.locked = none → f.entered = [] → (doReturn e (T.setTop f) acts (some (.int z))).1 = T.setFrames fs) : Steps p.tables e below (T.setTop (mkF m pc Ls (.int z :: rest))) (T.setFrames fs) := by
  have hm' : T.vm.method? m = some meth := X.method'
  have hn : narrow .int (.int z) = .int z := rfl
  show Steps p.tables e below (T.setTop { method := m, pc := pc, locals := Ls, stack := _ :: rest, locked := none }) _
  jvm_step X.here [X.here.top, hx, hd, hm', hret, hn]
  first | (intro acts; rw [hl _ acts rfl rfl rfl]) | rw [hl _ _ rfl rfl rfl]
  exact Steps.refl _
end New
end Jvm.RoadKit
namespace Jvm.Pilot.@@N@@
open Jvm Jvm.ClassFile Sem Op Lib Jvm.Free Jvm.Stand Jvm.LawKit Jvm.RoadKit Bundle Jvm.Pilot.@@N@@.Jvm.D
/-- from U the run comes back to its caller; what it returns, the heap and the places written meet Q -/
def Goes (p : Program) (e : Env) (below : List Frame) (s : State) (Q : Option Value → Heap → List Loc → Prop) (C S : Nat) (U : State) : Prop :=
  ∃ s₂ o, Steps p.tables e below U s₂ ∧ s₂.status = .running ∧ Ended s₂ below o ∧ ∃ v L, o = .returned v ∧ Q v s₂.heap L ∧ FrameEnd s o s₂ L C S
section Own
variable {p : Program} {l : Launch} {e : Env} {R : Room} {s : State} {m : MethodId} {args : Array Value} {below : List Frame} {meth : Method} {c : Code} {T : State} {locs : List Loc} {cells slots : Nat} {Q : Option Value → Heap → List Loc → Prop} {C S : Nat} {U U' : State}
theorem Goes.pre (f : ∀ t, Steps p.tables e below U' t → Steps p.tables e below U t) (g : Goes p e below s Q C S U') : Goes p e below s Q C S U := by
  obtain ⟨s₂, o, h1, r⟩ := g
  exact ⟨s₂, o, f _ h1, r⟩
theorem Goes.enter {g g' : JFrame} (q : g = g') (h : Goes p e below s Q C S (U.setTop g')) : Goes p e below s Q C S (U.setTop g) := q ▸ h
theorem Goes.ret (X : Stand p l e R s m args below meth c T locs cells slots) {v : Option Value} (hv : meth.sig.returnType = none → v = none) (hlocks : meth.locks = false) (hc : cells ≤ C) (hs : slots ≤ S) {h : Heap} (eT : T.heap = h)
    (step : ∀ fs, (∀ (f : JFrame) (acts : List Action), f.method = m → f.locked = none → f.entered = [] → (doReturn e (T.setTop f) acts v).1 = T.setFrames fs) → Steps p.tables e below U (T.setFrames fs)) (q : Q v h locs) : Goes p e below s Q C S U := by
  obtain ⟨fs, hr, hrun, hended, hW, hsame⟩ := X.leave hv hlocks
  refine ⟨_, _, step fs hr, hrun, hended, _, _, rfl, ?_, ⟨_, rfl⟩, hW, hsame.mono hc hs⟩
  show Q v T.heap locs
  rw [eT]
  exact q
end Own
theorem own_lsw {tb : Tables} [Ours tb] {e : Env} {below : List Frame} {T target : State} {m : MethodId} {c : Code} {g : JFrame} (h : At T m c below) (hx : tb.exec = Jvm.exec) (hg : g.method = m) {dflt : Int} {prs : Array (Int × Int)} {len : Nat} {o : Int} {pc0 pc' : Nat} (hpc : g.pc = pc0) (hd : decode c.code g.pc = .ok (.lookupswitch dflt prs, len)) {i : Int32} {rest : List Value} (hs : g.stack = .int i :: rest)
    (hso : ∀ (a b a_1 b_1 : Int), ((a, b), a_1, b_1) ∈ prs.toList.zip prs.toList.tail → a < a_1) (hoff : lookupswitch.offset prs.toList dflt i.toInt = o) (ho : 0 ≤ (pc0 : Int) + o) (hp : ((pc0 : Int) + o).toNat = pc')
    (hr : Steps tb e below (T.setTop { g with pc := pc', stack := rest }) target) : Steps tb e below (T.setTop g) target := by
  subst hg hpc hp
  jvm_step h [h.top, hx, hd, hs, lookupswitch.wp_chain, hoff, ho]
  exact ⟨hso, hr⟩
theorem ef_rm_record (m : MethodId) (x0 : Addr) : entryFrame m #[(.ref x0)] 1 = mkF m 0 #[.val (.ref x0)] [] := by first | (simp [entryFrame, mkF, argsToLocals, Value.category]; done) | rfl
theorem pn_java_lang_Record : plainName "java/lang/Record" = true := by first | (simp [plainName, overriddenIn]; done) | decide +kernel
theorem d2_0 : decode jdk_30_method_1_code 0 = .ok (.aload_n 0, 1) := by decide +kernel
theorem d2_1 : decode jdk_30_method_1_code 1 = .ok (.invokespecial 1, 3) := by decide +kernel
theorem d2_4 : decode jdk_30_method_1_code 4 = .ok (.return_, 1) := by decide +kernel
def Q_rm_record (Z : State) (a : Addr) (h0 : Heap) (n0 : Nat) (v : Option Value) (h : Heap) (L : List Loc) : Prop := v = none ∧ Fr n0 L ∧ h = h0
set_option maxRecDepth 65536 in
set_option maxHeartbeats 40000000 in
theorem rm_record (l : Launch) (Z : State) (a0 : Array Value) (hw : ∀ d ∈ tables_1, d.before a0 Z = true) (ws : List Jvm.Cond) (a : Addr) (h0 : Heap) (n0 : Nat) (Z0 : n0 ≤ h0.size)  :
    MetFree l (⟨"java/lang/Record", "<init>", "()V"⟩ : MethodName) (head1 (Jvm.Cond.code (⟨"java/lang/Record", "<init>", "()V"⟩ : MethodName) jdk_30_method_1_code 1 none :: ws) ({ frames := 1, cells := 0, slots := 0, locals := 12 } : Room)) (fun argv U => argv = #[(.ref a)] ∧ Z.Warmed39 U.vm ∧ U.heap = h0) (fun _ _ _ _ _ => True) (fun _ U o U' => ∃ v L, o = .returned v ∧ Q_rm_record Z a h0 n0 v U'.heap L ∧ FrameEnd U o U' L ({ frames := 1, cells := 0, slots := 0, locals := 12 } : Room).cells ({ frames := 1, cells := 0, slots := 0, locals := 12 } : Room).slots) := by
  refine MetFree.of_bodySF (plainFor_of_name pn_java_lang_Record) hisR ?_
  intro p e s m args below meth c s₁ Bd hml0 hP hK
  obtain ⟨rfl, hZ, hh⟩ := hP
  have hx := Bd.exec
  have hby := Bd.bytes
  have hml : c.maxLocals = 1 := hml0
  have hown : s.vm.findClass "java/lang/Record" = some m.cls := findClass_of_methodNamed Bd.named
  have hnm := (name_of_methodNamed Bd.named Bd.method).1
  have X0 : Stand p l e ({ frames := 1, cells := 0, slots := 0, locals := 12 } : Room) s m #[(.ref a)] below meth c s₁ [] 0 0 := Stand.of_body Bd
  have e0 : s₁.heap = h0 := by rw [← hh, Bd.state]; rfl
  have N0 := Fr.nil n0
  refine Goes.enter (Q := fun v h L => Q_rm_record Z a h0 n0 v h L) (C := ({ frames := 1, cells := 0, slots := 0, locals := 12 } : Room).cells) (S := ({ frames := 1, cells := 0, slots := 0, locals := 12 } : Room).slots) (ef_rm_record m a) ?_
  show Goes p e below s _ _ _ (s₁.setTop (mkF m 0 #[.val (.ref a)] []))
  refine Goes.pre (U' := s₁.setTop (mkF m 1 #[.val (.ref a)] [(.ref a)])) (fun t k => XS.aloadN X0.here hx rfl (hb hby d2_0) rfl rfl k) ?_
  obtain ⟨T1, X1, e1, st1⟩ := initO X0 hx hZ hown (hw _ (List.mem_of_getElem? (i := 12) rfl)) (hw _ (List.mem_of_getElem? (i := 13) rfl)) (hw _ (List.mem_of_getElem? (i := 14) rfl)) e0 (g := (mkF m 1 #[.val (.ref a)] [(.ref a)])) rfl (by rw [hml]; rfl) rfl (hb hby d2_1) (by decide) (W := 0) (by show 2 * 0 + _ ≤ _; exact Nat.le_of_eq rfl) (by decide)
  refine Goes.pre (U' := T1.setTop (mkF m 4 #[.val (.ref a)] [])) (fun t k => st1 t k) ?_
  refine Goes.ret X1 (v := none) (fun _ => rfl) Bd.notSynchronized (by decide) (by decide) e1 (fun fs hr => X1.returnOut hx Bd.returns (hb hby d2_4) hr) ?_
  exact ⟨rfl, N0, rfl⟩
theorem own_bb (x : Int32) : nar .byte x.toInt8.toInt32 = x.toInt8.toInt32 := by
  show x.toInt8.toInt32.toInt8.toInt32 = x.toInt8.toInt32
  rw [Int8.toInt8_toInt32]
theorem own_n4 (x n : Int32) (h : n = x &&& 3) : n = 0 ∨ n = 1 ∨ n = 2 ∨ n = 3 := by
  have q := c_and x 3 (by decide)
  rw [← h] at q
  have q3 : (3 : Int32).toInt = 3 := by decide
  have h0 : (0 : Int32).toInt = 0 := by decide
  have h1 : (1 : Int32).toInt = 1 := by decide
  have h2 : (2 : Int32).toInt = 2 := by decide
  simp only [← Int32.toInt_inj]
  omega
theorem ef_rm_min (m : MethodId) (x0 : Int32) (x1 : Int32) : entryFrame m #[(.int x0), (.int x1)] 2 = mkF m 0 #[.val (.int x0), .val (.int x1)] [] := by first | (simp [entryFrame, mkF, argsToLocals, Value.category]; done) | rfl
theorem d6_0 : decode jdk_29_method_69_code 0 = .ok (.iload_n 0, 1) := by decide +kernel
theorem d6_1 : decode jdk_29_method_69_code 1 = .ok (.iload_n 1, 1) := by decide +kernel
theorem d6_2 : decode jdk_29_method_69_code 2 = .ok (.if_icmp .gt 7, 3) := by decide +kernel
theorem d6_9 : decode jdk_29_method_69_code 9 = .ok (.iload_n 1, 1) := by decide +kernel
theorem d6_10 : decode jdk_29_method_69_code 10 = .ok (.ireturn, 1) := by decide +kernel
theorem d6_5 : decode jdk_29_method_69_code 5 = .ok (.iload_n 0, 1) := by decide +kernel
theorem d6_6 : decode jdk_29_method_69_code 6 = .ok (.goto 4, 3) := by decide +kernel
def own_min (qa qb : Int32) : Int32 := (if qb < qa then qb else qa)
def Q_rm_min (Z : State) (qa qb : Int32) (h0 : Heap) (n0 : Nat) (v : Option Value) (h : Heap) (L : List Loc) : Prop := v = some (.int (own_min qa qb)) ∧ Fr n0 L ∧ h = h0
set_option maxRecDepth 65536 in
set_option maxHeartbeats 40000000 in
theorem rm_min (l : Launch) (Z : State) (a0 : Array Value) (hw : ∀ d ∈ tables_1, d.before a0 Z = true) (ws : List Jvm.Cond) (qa qb : Int32) (h0 : Heap) (n0 : Nat) (Z0 : n0 ≤ h0.size)  :
    MetFree l (⟨"java/lang/Math", "min", "(II)I"⟩ : MethodName) (head1 (Jvm.Cond.code (⟨"java/lang/Math", "min", "(II)I"⟩ : MethodName) jdk_29_method_69_code 2 (some .int) :: ws) ({ frames := 0, cells := 0, slots := 0, locals := 0 } : Room)) (fun argv U => argv = #[(.int qa), (.int qb)] ∧ Z.Warmed39 U.vm ∧ U.heap = h0) (fun _ _ _ _ _ => True) (fun _ U o U' => ∃ v L, o = .returned v ∧ Q_rm_min Z qa qb h0 n0 v U'.heap L ∧ FrameEnd U o U' L ({ frames := 0, cells := 0, slots := 0, locals := 0 } : Room).cells ({ frames := 0, cells := 0, slots := 0, locals := 0 } : Room).slots) := by
  refine MetFree.of_bodySF (Jvm.Free.JP.mathPlain rfl (by decide +kernel)) hisR ?_
  intro p e s m args below meth c s₁ Bd hml0 hP hK
  obtain ⟨rfl, hZ, hh⟩ := hP
  have hx := Bd.exec
  have hby := Bd.bytes
  have hml : c.maxLocals = 2 := hml0
  have hown : s.vm.findClass "java/lang/Math" = some m.cls := findClass_of_methodNamed Bd.named
  have hnm := (name_of_methodNamed Bd.named Bd.method).1
  have X0 : Stand p l e ({ frames := 0, cells := 0, slots := 0, locals := 0 } : Room) s m #[(.int qa), (.int qb)] below meth c s₁ [] 0 0 := Stand.of_body Bd
  have e0 : s₁.heap = h0 := by rw [← hh, Bd.state]; rfl
  have N0 := Fr.nil n0
  refine Goes.enter (Q := fun v h L => Q_rm_min Z qa qb h0 n0 v h L) (C := ({ frames := 0, cells := 0, slots := 0, locals := 0 } : Room).cells) (S := ({ frames := 0, cells := 0, slots := 0, locals := 0 } : Room).slots) (ef_rm_min m qa qb) ?_
  show Goes p e below s _ _ _ (s₁.setTop (mkF m 0 #[.val (.int qa), .val (.int qb)] []))
  refine Goes.pre (U' := s₁.setTop (mkF m 1 #[.val (.int qa), .val (.int qb)] [(.int qa)])) (fun t k => XS.iloadN X0.here hx rfl (hb hby d6_0) rfl k) ?_
  refine Goes.pre (U' := s₁.setTop (mkF m 2 #[.val (.int qa), .val (.int qb)] [(.int qb), (.int qa)])) (fun t k => XS.iloadN X0.here hx rfl (hb hby d6_1) rfl k) ?_
  by_cases hc2 : qb < qa
  ·
    refine Goes.pre (U' := s₁.setTop (mkF m 9 #[.val (.int qa), .val (.int qb)] [])) (fun t k => XS.icmpYes X0.here hx rfl (pc0 := 2) (pc' := 9) rfl (hb hby d6_2) rfl (tlt hc2).2.2.1 (by decide) (by decide) k) ?_
    refine Goes.pre (U' := s₁.setTop (mkF m 10 #[.val (.int qa), .val (.int qb)] [(.int qb)])) (fun t k => XS.iloadN X0.here hx rfl (hb hby d6_9) rfl k) ?_
    refine Goes.ret X0 (v := (some (.int qb))) (fun h => by rw [Bd.returns] at h; cases h) Bd.notSynchronized (by decide) (by decide) e0 (fun fs hr => retI X0 hx Bd.returns (hb hby d6_10) hr) ?_
    exact ⟨congrArg (fun z => some (Value.int z)) (show qb = own_min qa qb from (show own_min qa qb = qb from by unfold own_min; rw [if_pos hc2]).symm), N0, rfl⟩
  ·
    refine Goes.pre (U' := s₁.setTop (mkF m 5 #[.val (.int qa), .val (.int qb)] [])) (fun t k => XS.icmpNo X0.here hx rfl (hb hby d6_2) rfl (flt hc2).2.2.1 k) ?_
    refine Goes.pre (U' := s₁.setTop (mkF m 6 #[.val (.int qa), .val (.int qb)] [(.int qa)])) (fun t k => XS.iloadN X0.here hx rfl (hb hby d6_5) rfl k) ?_
    refine Goes.pre (U' := s₁.setTop (mkF m 10 #[.val (.int qa), .val (.int qb)] [(.int qa)])) (fun t k => XS.goto X0.here hx rfl (pc0 := 6) (pc' := 10) rfl (hb hby d6_6) (by decide) (by decide) k) ?_
    refine Goes.ret X0 (v := (some (.int qa))) (fun h => by rw [Bd.returns] at h; cases h) Bd.notSynchronized (by decide) (by decide) e0 (fun fs hr => retI X0 hx Bd.returns (hb hby d6_10) hr) ?_
    exact ⟨congrArg (fun z => some (Value.int z)) (show qa = own_min qa qb from (show own_min qa qb = qa from by unfold own_min; rw [if_neg hc2]).symm), N0, rfl⟩
theorem ef_rm_copy11 (m : MethodId) (x0 : Addr) (x1 : Int32) : entryFrame m #[(.ref x0), (.int x1)] 3 = mkF m 0 #[.val (.ref x0), .val (.int x1), .unset] [] := by first | (simp [entryFrame, mkF, argsToLocals, Value.category]; done) | rfl
theorem pn_java_util_Arrays : plainName "java/util/Arrays" = true := by first | (simp [plainName, overriddenIn]; done) | decide +kernel
theorem d5_0 : decode jdk_65_method_121_code 0 = .ok (.iload_n 1, 1) := by decide +kernel
theorem d5_1 : decode jdk_65_method_121_code 1 = .ok (.aload_n 0, 1) := by decide +kernel
theorem d5_2 : decode jdk_65_method_121_code 2 = .ok (.arraylength, 1) := by decide +kernel
theorem d5_3 : decode jdk_65_method_121_code 3 = .ok (.if_icmp .ne 11, 3) := by decide +kernel
theorem d5_6 : decode jdk_65_method_121_code 6 = .ok (.aload_n 0, 1) := by decide +kernel
theorem d5_7 : decode jdk_65_method_121_code 7 = .ok (.invokevirtual 310, 3) := by decide +kernel
theorem d5_10 : decode jdk_65_method_121_code 10 = .ok (.checkcast 311, 3) := by decide +kernel
theorem d5_13 : decode jdk_65_method_121_code 13 = .ok (.areturn, 1) := by decide +kernel
def Q_rm_copy11 (Z : State) (la : Addr) (kc : ClassId) (b0 : Int32) (h0 : Heap) (n0 : Nat) (v : Option Value) (h : Heap) (L : List Loc) : Prop := ∃ (r : Addr) (kr : ClassId), v = some (.ref r) ∧ Fr n0 L ∧ Keep h0 h [] ∧ Exa Z h r "[B" ∧ Arv Z h r kr .byte (1 : Int32) [(.int b0)] (.int (0 : Int32)) ∧ n0 ≤ r ∧ h0.size ≤ r
set_option maxRecDepth 65536 in
set_option maxHeartbeats 40000000 in
theorem rm_copy11 (l : Launch) (Z : State) (a0 : Array Value) (hw : ∀ d ∈ tables_1, d.before a0 Z = true) (ws : List Jvm.Cond) (la : Addr) (kc : ClassId) (b0 : Int32) (h0 : Heap) (n0 : Nat) (Z0 : n0 ≤ h0.size) (E_la : Exa Z h0 la "[B") (V_la : Arv Z h0 la kc .byte (1 : Int32) [(.int b0)] (.int (0 : Int32))) :
    MetFree l (⟨"java/util/Arrays", "copyOf", "([BI)[B"⟩ : MethodName) (head1 (Jvm.Cond.code (⟨"java/util/Arrays", "copyOf", "([BI)[B"⟩ : MethodName) jdk_65_method_121_code 3 (some (.array .byte)) :: ws) ({ frames := 1, cells := 1, slots := 1, locals := 14 } : Room)) (fun argv U => argv = #[(.ref la), (.int (1 : Int32))] ∧ Z.Warmed39 U.vm ∧ U.heap = h0) (fun _ _ _ _ _ => True) (fun _ U o U' => ∃ v L, o = .returned v ∧ Q_rm_copy11 Z la kc b0 h0 n0 v U'.heap L ∧ FrameEnd U o U' L ({ frames := 1, cells := 1, slots := 1, locals := 14 } : Room).cells ({ frames := 1, cells := 1, slots := 1, locals := 14 } : Room).slots) := by
  refine MetFree.of_bodySF (plainFor_of_name pn_java_util_Arrays) hisR ?_
  intro p e s m args below meth c s₁ Bd hml0 hP hK
  obtain ⟨rfl, hZ, hh⟩ := hP
  have hx := Bd.exec
  have hby := Bd.bytes
  have hml : c.maxLocals = 3 := hml0
  have hown : s.vm.findClass "java/util/Arrays" = some m.cls := findClass_of_methodNamed Bd.named
  have hnm := (name_of_methodNamed Bd.named Bd.method).1
  have X0 : Stand p l e ({ frames := 1, cells := 1, slots := 1, locals := 14 } : Room) s m #[(.ref la), (.int (1 : Int32))] below meth c s₁ [] 0 0 := Stand.of_body Bd
  have e0 : s₁.heap = h0 := by rw [← hh, Bd.state]; rfl
  have N0 := Fr.nil n0
  have K0 := Keep.refl h0 []
  refine Goes.enter (Q := fun v h L => Q_rm_copy11 Z la kc b0 h0 n0 v h L) (C := ({ frames := 1, cells := 1, slots := 1, locals := 14 } : Room).cells) (S := ({ frames := 1, cells := 1, slots := 1, locals := 14 } : Room).slots) (ef_rm_copy11 m la (1 : Int32)) ?_
  show Goes p e below s _ _ _ (s₁.setTop (mkF m 0 #[.val (.ref la), .val (.int (1 : Int32)), .unset] []))
  refine Goes.pre (U' := s₁.setTop (mkF m 1 #[.val (.ref la), .val (.int (1 : Int32)), .unset] [(.int (1 : Int32))])) (fun t k => XS.iloadN X0.here hx rfl (hb hby d5_0) rfl k) ?_
  refine Goes.pre (U' := s₁.setTop (mkF m 2 #[.val (.ref la), .val (.int (1 : Int32)), .unset] [(.ref la), (.int (1 : Int32))])) (fun t k => XS.aloadN X0.here hx rfl (hb hby d5_1) rfl rfl k) ?_
  obtain ⟨cl1, Ar1, q1, Sz1, Ng1, -, -⟩ := id V_la
  have ln1 := len_of Sz1 Ng1
  refine Goes.pre (U' := s₁.setTop (mkF m 3 #[.val (.ref la), .val (.int (1 : Int32)), .unset] [(.int (1 : Int32)), (.int (1 : Int32))])) (fun t k => X0.arraylength hx (by rw [e0]; exact Ar1.1) (State.isArrayOf_alike hZ.alike Ar1.2.1) (g := (mkF m 2 #[.val (.ref la), .val (.int (1 : Int32)), .unset] [(.ref la), (.int (1 : Int32))])) rfl rfl (hb hby d5_2) _ (by rw [ln1]; exact k)) ?_
  have hc3 : (1 : Int32) = (1 : Int32) := rfl
  refine Goes.pre (U' := s₁.setTop (mkF m 6 #[.val (.ref la), .val (.int (1 : Int32)), .unset] [])) (fun t k => XS.icmpNo X0.here hx rfl (hb hby d5_3) rfl (teq hc3).2 k) ?_
  refine Goes.pre (U' := s₁.setTop (mkF m 7 #[.val (.ref la), .val (.int (1 : Int32)), .unset] [(.ref la)])) (fun t k => XS.aloadN X0.here hx rfl (hb hby d5_6) rfl rfl k) ?_
  obtain ⟨T2, h2, X2, e2, E2, A2, B2, st2⟩ := cloneH X0 hx hZ hown (hw _ (List.mem_of_getElem? (i := 36) rfl)) (hw _ (List.mem_of_getElem? (i := 37) rfl)) (hw _ (List.mem_of_getElem? (i := 41) rfl)) (hw _ (List.mem_of_getElem? (i := 39) rfl)) (hw _ (List.mem_of_getElem? (i := 40) rfl)) (hw _ (List.mem_of_getElem? (i := 42) rfl)) e0 V_la.arh E_la (g := (mkF m 7 #[.val (.ref la), .val (.int (1 : Int32)), .unset] [(.ref la)])) rfl (by rw [hml]; rfl) rfl (hb hby d5_7) (by decide) (W := 0) (cap := 1) (by show 2 * 0 + _ ≤ _; exact Nat.le_of_eq rfl) (by decide) (by decide) (by decide) (by decide)
  obtain ⟨nb2, g2⟩ : ∃ z, z = h0.size := ⟨_, rfl⟩
  rw [← g2] at A2 B2 st2
  have ne_la_nb2 : la ≠ nb2 := Nat.ne_of_lt (Nat.lt_of_lt_of_le E_la.lt (Nat.le_of_eq g2.symm))
  have ne_nb2_la := ne_la_nb2.symm
  have g_nb2 : n0 ≤ nb2 := Nat.le_trans Z0 (Nat.le_of_eq g2.symm)
  have sz_nb2 : h0.size ≤ nb2 := Nat.le_trans K0.1 (Nat.le_of_eq g2.symm)
  have E_la := E_la.ext E2
  have V_la := V_la.ext E2
  have Z2 : n0 ≤ h2.size := Nat.le_trans Z0 E2.1
  have K2 := K0.ext E2
  have E_nb2 := B2
  have V_nb2 : Arv Z h2 nb2 kc .byte (1 : Int32) [(.int b0)] (.int (0 : Int32)) := A2
  refine Goes.pre (U' := T2.setTop (mkF m 10 #[.val (.ref la), .val (.int (1 : Int32)), .unset] [(.ref nb2)])) (fun t k => st2 t k) ?_
  obtain ⟨T3, X3, e3, st3⟩ := castY X2 hx hZ hown (hw _ (List.mem_of_getElem? (i := 43) rfl)) e2 (Ins.self E_nb2) (g := (mkF m 10 #[.val (.ref la), .val (.int (1 : Int32)), .unset] [(.ref nb2)])) rfl rfl (hb hby d5_10)
  refine Goes.pre (U' := T3.setTop (mkF m 13 #[.val (.ref la), .val (.int (1 : Int32)), .unset] [(.ref nb2)])) (fun t k => st3 t k) ?_
  refine Goes.ret X3 (v := (some (.ref nb2))) (fun h => by rw [Bd.returns] at h; cases h) Bd.notSynchronized (by decide) (by decide) e3 (fun fs hr => retOut X3 hx Bd.returns rfl (Or.inr (Or.inr (Or.inr (Or.inr ⟨rfl, rfl, rfl⟩)))) (hb hby d5_13) hr) ?_
  exact ⟨nb2, kc, rfl, N0, K2, E_nb2, V_nb2, g_nb2, sz_nb2⟩
theorem ef_rm_copy21 (m : MethodId) (x0 : Addr) (x1 : Int32) : entryFrame m #[(.ref x0), (.int x1)] 3 = mkF m 0 #[.val (.ref x0), .val (.int x1), .unset] [] := by first | (simp [entryFrame, mkF, argsToLocals, Value.category]; done) | rfl
theorem d5_14 : decode jdk_65_method_121_code 14 = .ok (.iload_n 1, 1) := by decide +kernel
theorem d5_15 : decode jdk_65_method_121_code 15 = .ok (.newarray .byte, 2) := by decide +kernel
theorem d5_17 : decode jdk_65_method_121_code 17 = .ok (.astore_n 2, 1) := by decide +kernel
theorem d5_18 : decode jdk_65_method_121_code 18 = .ok (.aload_n 0, 1) := by decide +kernel
theorem d5_19 : decode jdk_65_method_121_code 19 = .ok (.iconst 0, 1) := by decide +kernel
theorem d5_20 : decode jdk_65_method_121_code 20 = .ok (.aload_n 2, 1) := by decide +kernel
theorem d5_21 : decode jdk_65_method_121_code 21 = .ok (.iconst 0, 1) := by decide +kernel
theorem d5_22 : decode jdk_65_method_121_code 22 = .ok (.aload_n 0, 1) := by decide +kernel
theorem d5_23 : decode jdk_65_method_121_code 23 = .ok (.arraylength, 1) := by decide +kernel
theorem d5_24 : decode jdk_65_method_121_code 24 = .ok (.iload_n 1, 1) := by decide +kernel
theorem d5_25 : decode jdk_65_method_121_code 25 = .ok (.invokestatic 304, 3) := by decide +kernel
theorem pd__28II_29I : parseMethodDescriptor "(II)I" = some ⟨[.int, .int], some .int⟩ := by decide +kernel
theorem d5_28 : decode jdk_65_method_121_code 28 = .ok (.invokestatic 150, 3) := by decide +kernel
theorem d5_31 : decode jdk_65_method_121_code 31 = .ok (.aload_n 2, 1) := by decide +kernel
theorem d5_32 : decode jdk_65_method_121_code 32 = .ok (.areturn, 1) := by decide +kernel
def Q_rm_copy21 (Z : State) (la : Addr) (kc : ClassId) (b0 b1 : Int32) (h0 : Heap) (n0 : Nat) (v : Option Value) (h : Heap) (L : List Loc) : Prop := ∃ (r : Addr) (kr : ClassId), v = some (.ref r) ∧ Fr n0 L ∧ Keep h0 h [] ∧ Exa Z h r "[B" ∧ Arv Z h r kr .byte (1 : Int32) [(.int b0)] (.int (0 : Int32)) ∧ n0 ≤ r ∧ h0.size ≤ r
set_option maxRecDepth 65536 in
set_option maxHeartbeats 40000000 in
theorem rm_copy21 (l : Launch) (Z : State) (a0 : Array Value) (hw : ∀ d ∈ tables_1, d.before a0 Z = true) (ws : List Jvm.Cond) (la : Addr) (kc : ClassId) (b0 b1 : Int32) (h0 : Heap) (n0 : Nat) (Z0 : n0 ≤ h0.size) (E_la : Exa Z h0 la "[B") (V_la : Arv Z h0 la kc .byte (2 : Int32) [(.int b0), (.int b1)] (.int (0 : Int32))) :
    MetFree l (⟨"java/util/Arrays", "copyOf", "([BI)[B"⟩ : MethodName) (head1 (Jvm.Cond.code (⟨"java/util/Arrays", "copyOf", "([BI)[B"⟩ : MethodName) jdk_65_method_121_code 3 (some (.array .byte)) :: ws) ({ frames := 1, cells := 1, slots := 1, locals := 18 } : Room)) (fun argv U => argv = #[(.ref la), (.int (1 : Int32))] ∧ Z.Warmed39 U.vm ∧ U.heap = h0) (fun _ _ _ _ _ => True) (fun _ U o U' => ∃ v L, o = .returned v ∧ Q_rm_copy21 Z la kc b0 b1 h0 n0 v U'.heap L ∧ FrameEnd U o U' L ({ frames := 1, cells := 1, slots := 1, locals := 18 } : Room).cells ({ frames := 1, cells := 1, slots := 1, locals := 18 } : Room).slots) := by
  refine MetFree.of_bodySF (plainFor_of_name pn_java_util_Arrays) hisR ?_
  intro p e s m args below meth c s₁ Bd hml0 hP hK
  obtain ⟨rfl, hZ, hh⟩ := hP
  have hx := Bd.exec
  have hby := Bd.bytes
  have hml : c.maxLocals = 3 := hml0
  have hown : s.vm.findClass "java/util/Arrays" = some m.cls := findClass_of_methodNamed Bd.named
  have hnm := (name_of_methodNamed Bd.named Bd.method).1
  have X0 : Stand p l e ({ frames := 1, cells := 1, slots := 1, locals := 18 } : Room) s m #[(.ref la), (.int (1 : Int32))] below meth c s₁ [] 0 0 := Stand.of_body Bd
  have e0 : s₁.heap = h0 := by rw [← hh, Bd.state]; rfl
  have N0 := Fr.nil n0
  have K0 := Keep.refl h0 []
  refine Goes.enter (Q := fun v h L => Q_rm_copy21 Z la kc b0 b1 h0 n0 v h L) (C := ({ frames := 1, cells := 1, slots := 1, locals := 18 } : Room).cells) (S := ({ frames := 1, cells := 1, slots := 1, locals := 18 } : Room).slots) (ef_rm_copy21 m la (1 : Int32)) ?_
  show Goes p e below s _ _ _ (s₁.setTop (mkF m 0 #[.val (.ref la), .val (.int (1 : Int32)), .unset] []))
  refine Goes.pre (U' := s₁.setTop (mkF m 1 #[.val (.ref la), .val (.int (1 : Int32)), .unset] [(.int (1 : Int32))])) (fun t k => XS.iloadN X0.here hx rfl (hb hby d5_0) rfl k) ?_
  refine Goes.pre (U' := s₁.setTop (mkF m 2 #[.val (.ref la), .val (.int (1 : Int32)), .unset] [(.ref la), (.int (1 : Int32))])) (fun t k => XS.aloadN X0.here hx rfl (hb hby d5_1) rfl rfl k) ?_
  obtain ⟨cl1, Ar1, q1, Sz1, Ng1, -, -⟩ := id V_la
  have ln1 := len_of Sz1 Ng1
  refine Goes.pre (U' := s₁.setTop (mkF m 3 #[.val (.ref la), .val (.int (1 : Int32)), .unset] [(.int (2 : Int32)), (.int (1 : Int32))])) (fun t k => X0.arraylength hx (by rw [e0]; exact Ar1.1) (State.isArrayOf_alike hZ.alike Ar1.2.1) (g := (mkF m 2 #[.val (.ref la), .val (.int (1 : Int32)), .unset] [(.ref la), (.int (1 : Int32))])) rfl rfl (hb hby d5_2) _ (by rw [ln1]; exact k)) ?_
  have hc3 : ¬ ((1 : Int32) = (2 : Int32)) := by decide
  refine Goes.pre (U' := s₁.setTop (mkF m 14 #[.val (.ref la), .val (.int (1 : Int32)), .unset] [])) (fun t k => XS.icmpYes X0.here hx rfl (pc0 := 3) (pc' := 14) rfl (hb hby d5_3) rfl (feq hc3).2 (by decide) (by decide) k) ?_
  refine Goes.pre (U' := s₁.setTop (mkF m 15 #[.val (.ref la), .val (.int (1 : Int32)), .unset] [(.int (1 : Int32))])) (fun t k => XS.iloadN X0.here hx rfl (hb hby d5_14) rfl k) ?_
  obtain ⟨T2, h2, k2, X2, e2, E2, A2, B2, st2⟩ := newPE X0 hx hZ (hw _ (List.mem_of_getElem? (i := 0) rfl)) e0 (g := (mkF m 15 #[.val (.ref la), .val (.int (1 : Int32)), .unset] [(.int (1 : Int32))])) rfl (hb hby d5_15) rfl (by decide) (cap := 1) (by decide) (by decide) (by decide) (by decide) (ad := "[B") (by decide)
  obtain ⟨nb2, g2⟩ : ∃ z, z = h0.size := ⟨_, rfl⟩
  rw [← g2] at A2 B2 st2
  have ne_la_nb2 : la ≠ nb2 := Nat.ne_of_lt (Nat.lt_of_lt_of_le E_la.lt (Nat.le_of_eq g2.symm))
  have ne_nb2_la := ne_la_nb2.symm
  have g_nb2 : n0 ≤ nb2 := Nat.le_trans Z0 (Nat.le_of_eq g2.symm)
  have sz_nb2 : h0.size ≤ nb2 := Nat.le_trans K0.1 (Nat.le_of_eq g2.symm)
  have E_la := E_la.ext E2
  have V_la := V_la.ext E2
  have Z2 : n0 ≤ h2.size := Nat.le_trans Z0 E2.1
  have K2 := K0.ext E2
  have E_nb2 := B2
  have V_nb2 : Arv Z h2 nb2 k2 .byte (1 : Int32) [(.int (0 : Int32))] (.int (0 : Int32)) := (Arv.new A2 (by decide)).pad (pad_rep [] (.int (0 : Int32)) 1)
  refine Goes.pre (U' := T2.setTop (mkF m 17 #[.val (.ref la), .val (.int (1 : Int32)), .unset] [(.ref nb2)])) (fun t k => st2 t k) ?_
  refine Goes.pre (U' := T2.setTop (mkF m 18 #[.val (.ref la), .val (.int (1 : Int32)), .val (.ref nb2)] [])) (fun t k => XS.astoreN X2.here hx rfl (hb hby d5_17) rfl rfl (l' := #[.val (.ref la), .val (.int (1 : Int32)), .val (.ref nb2)]) rfl k) ?_
  refine Goes.pre (U' := T2.setTop (mkF m 19 #[.val (.ref la), .val (.int (1 : Int32)), .val (.ref nb2)] [(.ref la)])) (fun t k => XS.aloadN X2.here hx rfl (hb hby d5_18) rfl rfl k) ?_
  refine Goes.pre (U' := T2.setTop (mkF m 20 #[.val (.ref la), .val (.int (1 : Int32)), .val (.ref nb2)] [(.int (0 : Int32)), (.ref la)])) (fun t k => XS.iconst X2.here hx rfl (hb hby d5_19) k) ?_
  refine Goes.pre (U' := T2.setTop (mkF m 21 #[.val (.ref la), .val (.int (1 : Int32)), .val (.ref nb2)] [(.ref nb2), (.int (0 : Int32)), (.ref la)])) (fun t k => XS.aloadN X2.here hx rfl (hb hby d5_20) rfl rfl k) ?_
  refine Goes.pre (U' := T2.setTop (mkF m 22 #[.val (.ref la), .val (.int (1 : Int32)), .val (.ref nb2)] [(.int (0 : Int32)), (.ref nb2), (.int (0 : Int32)), (.ref la)])) (fun t k => XS.iconst X2.here hx rfl (hb hby d5_21) k) ?_
  refine Goes.pre (U' := T2.setTop (mkF m 23 #[.val (.ref la), .val (.int (1 : Int32)), .val (.ref nb2)] [(.ref la), (.int (0 : Int32)), (.ref nb2), (.int (0 : Int32)), (.ref la)])) (fun t k => XS.aloadN X2.here hx rfl (hb hby d5_22) rfl rfl k) ?_
  obtain ⟨cl3, Ar3, q3, Sz3, Ng3, -, -⟩ := id V_la
  have ln3 := len_of Sz3 Ng3
  refine Goes.pre (U' := T2.setTop (mkF m 24 #[.val (.ref la), .val (.int (1 : Int32)), .val (.ref nb2)] [(.int (2 : Int32)), (.int (0 : Int32)), (.ref nb2), (.int (0 : Int32)), (.ref la)])) (fun t k => X2.arraylength hx (by rw [e2]; exact Ar3.1) (State.isArrayOf_alike hZ.alike Ar3.2.1) (g := (mkF m 23 #[.val (.ref la), .val (.int (1 : Int32)), .val (.ref nb2)] [(.ref la), (.int (0 : Int32)), (.ref nb2), (.int (0 : Int32)), (.ref la)])) rfl rfl (hb hby d5_23) _ (by rw [ln3]; exact k)) ?_
  refine Goes.pre (U' := T2.setTop (mkF m 25 #[.val (.ref la), .val (.int (1 : Int32)), .val (.ref nb2)] [(.int (1 : Int32)), (.int (2 : Int32)), (.int (0 : Int32)), (.ref nb2), (.int (0 : Int32)), (.ref la)])) (fun t k => XS.iloadN X2.here hx rfl (hb hby d5_24) rfl k) ?_
  obtain ⟨_, _, ⟨T4, L4, k4, n4⟩, -, X4, ⟨Lc4, hQ4, l4, y4, z4⟩, st4⟩ := Jvm.LawKit.callS X2 hx (y := (⟨"java/lang/Math", "min", "(II)I"⟩ : MethodName)) hown (mvT hZ (hw _ (List.mem_of_getElem? (i := 28) rfl))) (mvT hZ (hw _ (List.mem_of_getElem? (i := 29) rfl))) (mvT hZ (hw _ (List.mem_of_getElem? (i := 30) rfl))) (mvT hZ (hw _ (List.mem_of_getElem? (i := 31) rfl))) (by decide) (backOf (W := 4) (rm_min l Z a0 hw [] (2 : Int32) (1 : Int32) h2 n0 Z2) hZ (hw _ (List.mem_of_getElem? (i := 31) rfl)) (hw _ (List.mem_of_getElem? (i := 30) rfl)) (by decide) (by decide)) (g := (mkF m 25 #[.val (.ref la), .val (.int (1 : Int32)), .val (.ref nb2)] [(.int (1 : Int32)), (.int (2 : Int32)), (.int (0 : Int32)), (.ref nb2), (.int (0 : Int32)), (.ref la)])) rfl (by rw [hml]; rfl) (argsL := [(.int (2 : Int32)), (.int (1 : Int32))]) (rest := [(.int (0 : Int32)), (.ref nb2), (.int (0 : Int32)), (.ref la)]) (lenOf pd__28II_29I rfl) rfl (by show 2 * 0 + _ ≤ _; exact Nat.le_of_eq rfl) (hb hby d5_25) (fun _ _ => ⟨rfl, e2, (by decide : 1 + 0 ≤ _), (by decide : 1 + 0 ≤ _)⟩)
  dsimp only [Pt.U, Pt.locs, Pt.cells, Pt.slots] at X4 l4 y4 z4 st4 hQ4
  subst l4 y4 z4
  obtain ⟨rfl, N4q, HQ4⟩ := hQ4
  have N4 := Fr.app N0 N4q
  have hm4 : (own_min (2 : Int32) (1 : Int32)) = (1 : Int32) := by decide
  rw [hm4] at st4
  refine Goes.pre (U' := T4.setTop (mkF m 28 #[.val (.ref la), .val (.int (1 : Int32)), .val (.ref nb2)] [(.int (1 : Int32)), (.int (0 : Int32)), (.ref nb2), (.int (0 : Int32)), (.ref la)])) (fun t k => st4 t k) ?_
  obtain ⟨T5, h5, L5, X5, e5, N5, K5c, V5, st5⟩ := cpA X4 hx hZ hown (hw _ (List.mem_of_getElem? (i := 32) rfl)) (hw _ (List.mem_of_getElem? (i := 35) rfl)) (hw _ (List.mem_of_getElem? (i := 33) rfl)) (hw _ (List.mem_of_getElem? (i := 34) rfl)) HQ4 V_la V_nb2 (us := [(.int b0)]) (Or.inl ⟨rfl, rfl⟩) (by decide) (by decide) (by decide) (by decide) (by decide) rfl (by decide) N4 g_nb2 (g := (mkF m 28 #[.val (.ref la), .val (.int (1 : Int32)), .val (.ref nb2)] [(.int (1 : Int32)), (.int (0 : Int32)), (.ref nb2), (.int (0 : Int32)), (.ref la)])) rfl (by rw [hml]; rfl) rfl (hb hby d5_28) (by decide) (W := 0) (by show 2 * 0 + _ ≤ _; exact Nat.le_of_eq rfl) (by decide)
  have E_la := E_la.keep K5c
  have V_la := V_la.keep K5c (ninS ne_la_nb2 nin0)
  have E_nb2 := E_nb2.keep K5c
  have Z6 : n0 ≤ h5.size := Nat.le_trans Z2 K5c.1
  have K6 := K2.trans K5c (allS (P := fun x => x ∈ [] ∨ h0.size ≤ x) (Or.inr sz_nb2) all0)
  have V_nb2 : Arv Z h5 nb2 k2 .byte (1 : Int32) [(.int b0)] (.int (0 : Int32)) := V5
  refine Goes.pre (U' := T5.setTop (mkF m 31 #[.val (.ref la), .val (.int (1 : Int32)), .val (.ref nb2)] [])) (fun t k => st5 t k) ?_
  refine Goes.pre (U' := T5.setTop (mkF m 32 #[.val (.ref la), .val (.int (1 : Int32)), .val (.ref nb2)] [(.ref nb2)])) (fun t k => XS.aloadN X5.here hx rfl (hb hby d5_31) rfl rfl k) ?_
  refine Goes.ret X5 (v := (some (.ref nb2))) (fun h => by rw [Bd.returns] at h; cases h) Bd.notSynchronized (by decide) (by decide) e5 (fun fs hr => retOut X5 hx Bd.returns rfl (Or.inr (Or.inr (Or.inr (Or.inr ⟨rfl, rfl, rfl⟩)))) (hb hby d5_32) hr) ?_
  exact ⟨nb2, k2, rfl, N5, K6, E_nb2, V_nb2, g_nb2, sz_nb2⟩
theorem ef_rm_copy22 (m : MethodId) (x0 : Addr) (x1 : Int32) : entryFrame m #[(.ref x0), (.int x1)] 3 = mkF m 0 #[.val (.ref x0), .val (.int x1), .unset] [] := by first | (simp [entryFrame, mkF, argsToLocals, Value.category]; done) | rfl
def Q_rm_copy22 (Z : State) (la : Addr) (kc : ClassId) (b0 b1 : Int32) (h0 : Heap) (n0 : Nat) (v : Option Value) (h : Heap) (L : List Loc) : Prop := ∃ (r : Addr) (kr : ClassId), v = some (.ref r) ∧ Fr n0 L ∧ Keep h0 h [] ∧ Exa Z h r "[B" ∧ Arv Z h r kr .byte (2 : Int32) [(.int b0), (.int b1)] (.int (0 : Int32)) ∧ n0 ≤ r ∧ h0.size ≤ r
set_option maxRecDepth 65536 in
set_option maxHeartbeats 40000000 in
theorem rm_copy22 (l : Launch) (Z : State) (a0 : Array Value) (hw : ∀ d ∈ tables_1, d.before a0 Z = true) (ws : List Jvm.Cond) (la : Addr) (kc : ClassId) (b0 b1 : Int32) (h0 : Heap) (n0 : Nat) (Z0 : n0 ≤ h0.size) (E_la : Exa Z h0 la "[B") (V_la : Arv Z h0 la kc .byte (2 : Int32) [(.int b0), (.int b1)] (.int (0 : Int32))) :
    MetFree l (⟨"java/util/Arrays", "copyOf", "([BI)[B"⟩ : MethodName) (head1 (Jvm.Cond.code (⟨"java/util/Arrays", "copyOf", "([BI)[B"⟩ : MethodName) jdk_65_method_121_code 3 (some (.array .byte)) :: ws) ({ frames := 1, cells := 1, slots := 2, locals := 14 } : Room)) (fun argv U => argv = #[(.ref la), (.int (2 : Int32))] ∧ Z.Warmed39 U.vm ∧ U.heap = h0) (fun _ _ _ _ _ => True) (fun _ U o U' => ∃ v L, o = .returned v ∧ Q_rm_copy22 Z la kc b0 b1 h0 n0 v U'.heap L ∧ FrameEnd U o U' L ({ frames := 1, cells := 1, slots := 2, locals := 14 } : Room).cells ({ frames := 1, cells := 1, slots := 2, locals := 14 } : Room).slots) := by
  refine MetFree.of_bodySF (plainFor_of_name pn_java_util_Arrays) hisR ?_
  intro p e s m args below meth c s₁ Bd hml0 hP hK
  obtain ⟨rfl, hZ, hh⟩ := hP
  have hx := Bd.exec
  have hby := Bd.bytes
  have hml : c.maxLocals = 3 := hml0
  have hown : s.vm.findClass "java/util/Arrays" = some m.cls := findClass_of_methodNamed Bd.named
  have hnm := (name_of_methodNamed Bd.named Bd.method).1
  have X0 : Stand p l e ({ frames := 1, cells := 1, slots := 2, locals := 14 } : Room) s m #[(.ref la), (.int (2 : Int32))] below meth c s₁ [] 0 0 := Stand.of_body Bd
  have e0 : s₁.heap = h0 := by rw [← hh, Bd.state]; rfl
  have N0 := Fr.nil n0
  have K0 := Keep.refl h0 []
  refine Goes.enter (Q := fun v h L => Q_rm_copy22 Z la kc b0 b1 h0 n0 v h L) (C := ({ frames := 1, cells := 1, slots := 2, locals := 14 } : Room).cells) (S := ({ frames := 1, cells := 1, slots := 2, locals := 14 } : Room).slots) (ef_rm_copy22 m la (2 : Int32)) ?_
  show Goes p e below s _ _ _ (s₁.setTop (mkF m 0 #[.val (.ref la), .val (.int (2 : Int32)), .unset] []))
  refine Goes.pre (U' := s₁.setTop (mkF m 1 #[.val (.ref la), .val (.int (2 : Int32)), .unset] [(.int (2 : Int32))])) (fun t k => XS.iloadN X0.here hx rfl (hb hby d5_0) rfl k) ?_
  refine Goes.pre (U' := s₁.setTop (mkF m 2 #[.val (.ref la), .val (.int (2 : Int32)), .unset] [(.ref la), (.int (2 : Int32))])) (fun t k => XS.aloadN X0.here hx rfl (hb hby d5_1) rfl rfl k) ?_
  obtain ⟨cl1, Ar1, q1, Sz1, Ng1, -, -⟩ := id V_la
  have ln1 := len_of Sz1 Ng1
  refine Goes.pre (U' := s₁.setTop (mkF m 3 #[.val (.ref la), .val (.int (2 : Int32)), .unset] [(.int (2 : Int32)), (.int (2 : Int32))])) (fun t k => X0.arraylength hx (by rw [e0]; exact Ar1.1) (State.isArrayOf_alike hZ.alike Ar1.2.1) (g := (mkF m 2 #[.val (.ref la), .val (.int (2 : Int32)), .unset] [(.ref la), (.int (2 : Int32))])) rfl rfl (hb hby d5_2) _ (by rw [ln1]; exact k)) ?_
  have hc3 : (2 : Int32) = (2 : Int32) := rfl
  refine Goes.pre (U' := s₁.setTop (mkF m 6 #[.val (.ref la), .val (.int (2 : Int32)), .unset] [])) (fun t k => XS.icmpNo X0.here hx rfl (hb hby d5_3) rfl (teq hc3).2 k) ?_
  refine Goes.pre (U' := s₁.setTop (mkF m 7 #[.val (.ref la), .val (.int (2 : Int32)), .unset] [(.ref la)])) (fun t k => XS.aloadN X0.here hx rfl (hb hby d5_6) rfl rfl k) ?_
  obtain ⟨T2, h2, X2, e2, E2, A2, B2, st2⟩ := cloneH X0 hx hZ hown (hw _ (List.mem_of_getElem? (i := 36) rfl)) (hw _ (List.mem_of_getElem? (i := 37) rfl)) (hw _ (List.mem_of_getElem? (i := 41) rfl)) (hw _ (List.mem_of_getElem? (i := 39) rfl)) (hw _ (List.mem_of_getElem? (i := 40) rfl)) (hw _ (List.mem_of_getElem? (i := 42) rfl)) e0 V_la.arh E_la (g := (mkF m 7 #[.val (.ref la), .val (.int (2 : Int32)), .unset] [(.ref la)])) rfl (by rw [hml]; rfl) rfl (hb hby d5_7) (by decide) (W := 0) (cap := 2) (by show 2 * 0 + _ ≤ _; exact Nat.le_of_eq rfl) (by decide) (by decide) (by decide) (by decide)
  obtain ⟨nb2, g2⟩ : ∃ z, z = h0.size := ⟨_, rfl⟩
  rw [← g2] at A2 B2 st2
  have ne_la_nb2 : la ≠ nb2 := Nat.ne_of_lt (Nat.lt_of_lt_of_le E_la.lt (Nat.le_of_eq g2.symm))
  have ne_nb2_la := ne_la_nb2.symm
  have g_nb2 : n0 ≤ nb2 := Nat.le_trans Z0 (Nat.le_of_eq g2.symm)
  have sz_nb2 : h0.size ≤ nb2 := Nat.le_trans K0.1 (Nat.le_of_eq g2.symm)
  have E_la := E_la.ext E2
  have V_la := V_la.ext E2
  have Z2 : n0 ≤ h2.size := Nat.le_trans Z0 E2.1
  have K2 := K0.ext E2
  have E_nb2 := B2
  have V_nb2 : Arv Z h2 nb2 kc .byte (2 : Int32) [(.int b0), (.int b1)] (.int (0 : Int32)) := A2
  refine Goes.pre (U' := T2.setTop (mkF m 10 #[.val (.ref la), .val (.int (2 : Int32)), .unset] [(.ref nb2)])) (fun t k => st2 t k) ?_
  obtain ⟨T3, X3, e3, st3⟩ := castY X2 hx hZ hown (hw _ (List.mem_of_getElem? (i := 43) rfl)) e2 (Ins.self E_nb2) (g := (mkF m 10 #[.val (.ref la), .val (.int (2 : Int32)), .unset] [(.ref nb2)])) rfl rfl (hb hby d5_10)
  refine Goes.pre (U' := T3.setTop (mkF m 13 #[.val (.ref la), .val (.int (2 : Int32)), .unset] [(.ref nb2)])) (fun t k => st3 t k) ?_
  refine Goes.ret X3 (v := (some (.ref nb2))) (fun h => by rw [Bd.returns] at h; cases h) Bd.notSynchronized (by decide) (by decide) e3 (fun fs hr => retOut X3 hx Bd.returns rfl (Or.inr (Or.inr (Or.inr (Or.inr ⟨rfl, rfl, rfl⟩)))) (hb hby d5_13) hr) ?_
  exact ⟨nb2, kc, rfl, N0, K2, E_nb2, V_nb2, g_nb2, sz_nb2⟩
theorem ef_rm_copy31 (m : MethodId) (x0 : Addr) (x1 : Int32) : entryFrame m #[(.ref x0), (.int x1)] 3 = mkF m 0 #[.val (.ref x0), .val (.int x1), .unset] [] := by first | (simp [entryFrame, mkF, argsToLocals, Value.category]; done) | rfl
def Q_rm_copy31 (Z : State) (la : Addr) (kc : ClassId) (b0 b1 b2 : Int32) (h0 : Heap) (n0 : Nat) (v : Option Value) (h : Heap) (L : List Loc) : Prop := ∃ (r : Addr) (kr : ClassId), v = some (.ref r) ∧ Fr n0 L ∧ Keep h0 h [] ∧ Exa Z h r "[B" ∧ Arv Z h r kr .byte (1 : Int32) [(.int b0)] (.int (0 : Int32)) ∧ n0 ≤ r ∧ h0.size ≤ r
set_option maxRecDepth 65536 in
set_option maxHeartbeats 40000000 in
theorem rm_copy31 (l : Launch) (Z : State) (a0 : Array Value) (hw : ∀ d ∈ tables_1, d.before a0 Z = true) (ws : List Jvm.Cond) (la : Addr) (kc : ClassId) (b0 b1 b2 : Int32) (h0 : Heap) (n0 : Nat) (Z0 : n0 ≤ h0.size) (E_la : Exa Z h0 la "[B") (V_la : Arv Z h0 la kc .byte (3 : Int32) [(.int b0), (.int b1), (.int b2)] (.int (0 : Int32))) :
    MetFree l (⟨"java/util/Arrays", "copyOf", "([BI)[B"⟩ : MethodName) (head1 (Jvm.Cond.code (⟨"java/util/Arrays", "copyOf", "([BI)[B"⟩ : MethodName) jdk_65_method_121_code 3 (some (.array .byte)) :: ws) ({ frames := 1, cells := 1, slots := 1, locals := 18 } : Room)) (fun argv U => argv = #[(.ref la), (.int (1 : Int32))] ∧ Z.Warmed39 U.vm ∧ U.heap = h0) (fun _ _ _ _ _ => True) (fun _ U o U' => ∃ v L, o = .returned v ∧ Q_rm_copy31 Z la kc b0 b1 b2 h0 n0 v U'.heap L ∧ FrameEnd U o U' L ({ frames := 1, cells := 1, slots := 1, locals := 18 } : Room).cells ({ frames := 1, cells := 1, slots := 1, locals := 18 } : Room).slots) := by
  refine MetFree.of_bodySF (plainFor_of_name pn_java_util_Arrays) hisR ?_
  intro p e s m args below meth c s₁ Bd hml0 hP hK
  obtain ⟨rfl, hZ, hh⟩ := hP
  have hx := Bd.exec
  have hby := Bd.bytes
  have hml : c.maxLocals = 3 := hml0
  have hown : s.vm.findClass "java/util/Arrays" = some m.cls := findClass_of_methodNamed Bd.named
  have hnm := (name_of_methodNamed Bd.named Bd.method).1
  have X0 : Stand p l e ({ frames := 1, cells := 1, slots := 1, locals := 18 } : Room) s m #[(.ref la), (.int (1 : Int32))] below meth c s₁ [] 0 0 := Stand.of_body Bd
  have e0 : s₁.heap = h0 := by rw [← hh, Bd.state]; rfl
  have N0 := Fr.nil n0
  have K0 := Keep.refl h0 []
  refine Goes.enter (Q := fun v h L => Q_rm_copy31 Z la kc b0 b1 b2 h0 n0 v h L) (C := ({ frames := 1, cells := 1, slots := 1, locals := 18 } : Room).cells) (S := ({ frames := 1, cells := 1, slots := 1, locals := 18 } : Room).slots) (ef_rm_copy31 m la (1 : Int32)) ?_
  show Goes p e below s _ _ _ (s₁.setTop (mkF m 0 #[.val (.ref la), .val (.int (1 : Int32)), .unset] []))
  refine Goes.pre (U' := s₁.setTop (mkF m 1 #[.val (.ref la), .val (.int (1 : Int32)), .unset] [(.int (1 : Int32))])) (fun t k => XS.iloadN X0.here hx rfl (hb hby d5_0) rfl k) ?_
  refine Goes.pre (U' := s₁.setTop (mkF m 2 #[.val (.ref la), .val (.int (1 : Int32)), .unset] [(.ref la), (.int (1 : Int32))])) (fun t k => XS.aloadN X0.here hx rfl (hb hby d5_1) rfl rfl k) ?_
  obtain ⟨cl1, Ar1, q1, Sz1, Ng1, -, -⟩ := id V_la
  have ln1 := len_of Sz1 Ng1
  refine Goes.pre (U' := s₁.setTop (mkF m 3 #[.val (.ref la), .val (.int (1 : Int32)), .unset] [(.int (3 : Int32)), (.int (1 : Int32))])) (fun t k => X0.arraylength hx (by rw [e0]; exact Ar1.1) (State.isArrayOf_alike hZ.alike Ar1.2.1) (g := (mkF m 2 #[.val (.ref la), .val (.int (1 : Int32)), .unset] [(.ref la), (.int (1 : Int32))])) rfl rfl (hb hby d5_2) _ (by rw [ln1]; exact k)) ?_
  have hc3 : ¬ ((1 : Int32) = (3 : Int32)) := by decide
  refine Goes.pre (U' := s₁.setTop (mkF m 14 #[.val (.ref la), .val (.int (1 : Int32)), .unset] [])) (fun t k => XS.icmpYes X0.here hx rfl (pc0 := 3) (pc' := 14) rfl (hb hby d5_3) rfl (feq hc3).2 (by decide) (by decide) k) ?_
  refine Goes.pre (U' := s₁.setTop (mkF m 15 #[.val (.ref la), .val (.int (1 : Int32)), .unset] [(.int (1 : Int32))])) (fun t k => XS.iloadN X0.here hx rfl (hb hby d5_14) rfl k) ?_
  obtain ⟨T2, h2, k2, X2, e2, E2, A2, B2, st2⟩ := newPE X0 hx hZ (hw _ (List.mem_of_getElem? (i := 0) rfl)) e0 (g := (mkF m 15 #[.val (.ref la), .val (.int (1 : Int32)), .unset] [(.int (1 : Int32))])) rfl (hb hby d5_15) rfl (by decide) (cap := 1) (by decide) (by decide) (by decide) (by decide) (ad := "[B") (by decide)
  obtain ⟨nb2, g2⟩ : ∃ z, z = h0.size := ⟨_, rfl⟩
  rw [← g2] at A2 B2 st2
  have ne_la_nb2 : la ≠ nb2 := Nat.ne_of_lt (Nat.lt_of_lt_of_le E_la.lt (Nat.le_of_eq g2.symm))
  have ne_nb2_la := ne_la_nb2.symm
  have g_nb2 : n0 ≤ nb2 := Nat.le_trans Z0 (Nat.le_of_eq g2.symm)
  have sz_nb2 : h0.size ≤ nb2 := Nat.le_trans K0.1 (Nat.le_of_eq g2.symm)
  have E_la := E_la.ext E2
  have V_la := V_la.ext E2
  have Z2 : n0 ≤ h2.size := Nat.le_trans Z0 E2.1
  have K2 := K0.ext E2
  have E_nb2 := B2
  have V_nb2 : Arv Z h2 nb2 k2 .byte (1 : Int32) [(.int (0 : Int32))] (.int (0 : Int32)) := (Arv.new A2 (by decide)).pad (pad_rep [] (.int (0 : Int32)) 1)
  refine Goes.pre (U' := T2.setTop (mkF m 17 #[.val (.ref la), .val (.int (1 : Int32)), .unset] [(.ref nb2)])) (fun t k => st2 t k) ?_
  refine Goes.pre (U' := T2.setTop (mkF m 18 #[.val (.ref la), .val (.int (1 : Int32)), .val (.ref nb2)] [])) (fun t k => XS.astoreN X2.here hx rfl (hb hby d5_17) rfl rfl (l' := #[.val (.ref la), .val (.int (1 : Int32)), .val (.ref nb2)]) rfl k) ?_
  refine Goes.pre (U' := T2.setTop (mkF m 19 #[.val (.ref la), .val (.int (1 : Int32)), .val (.ref nb2)] [(.ref la)])) (fun t k => XS.aloadN X2.here hx rfl (hb hby d5_18) rfl rfl k) ?_
  refine Goes.pre (U' := T2.setTop (mkF m 20 #[.val (.ref la), .val (.int (1 : Int32)), .val (.ref nb2)] [(.int (0 : Int32)), (.ref la)])) (fun t k => XS.iconst X2.here hx rfl (hb hby d5_19) k) ?_
  refine Goes.pre (U' := T2.setTop (mkF m 21 #[.val (.ref la), .val (.int (1 : Int32)), .val (.ref nb2)] [(.ref nb2), (.int (0 : Int32)), (.ref la)])) (fun t k => XS.aloadN X2.here hx rfl (hb hby d5_20) rfl rfl k) ?_
  refine Goes.pre (U' := T2.setTop (mkF m 22 #[.val (.ref la), .val (.int (1 : Int32)), .val (.ref nb2)] [(.int (0 : Int32)), (.ref nb2), (.int (0 : Int32)), (.ref la)])) (fun t k => XS.iconst X2.here hx rfl (hb hby d5_21) k) ?_
  refine Goes.pre (U' := T2.setTop (mkF m 23 #[.val (.ref la), .val (.int (1 : Int32)), .val (.ref nb2)] [(.ref la), (.int (0 : Int32)), (.ref nb2), (.int (0 : Int32)), (.ref la)])) (fun t k => XS.aloadN X2.here hx rfl (hb hby d5_22) rfl rfl k) ?_
  obtain ⟨cl3, Ar3, q3, Sz3, Ng3, -, -⟩ := id V_la
  have ln3 := len_of Sz3 Ng3
  refine Goes.pre (U' := T2.setTop (mkF m 24 #[.val (.ref la), .val (.int (1 : Int32)), .val (.ref nb2)] [(.int (3 : Int32)), (.int (0 : Int32)), (.ref nb2), (.int (0 : Int32)), (.ref la)])) (fun t k => X2.arraylength hx (by rw [e2]; exact Ar3.1) (State.isArrayOf_alike hZ.alike Ar3.2.1) (g := (mkF m 23 #[.val (.ref la), .val (.int (1 : Int32)), .val (.ref nb2)] [(.ref la), (.int (0 : Int32)), (.ref nb2), (.int (0 : Int32)), (.ref la)])) rfl rfl (hb hby d5_23) _ (by rw [ln3]; exact k)) ?_
  refine Goes.pre (U' := T2.setTop (mkF m 25 #[.val (.ref la), .val (.int (1 : Int32)), .val (.ref nb2)] [(.int (1 : Int32)), (.int (3 : Int32)), (.int (0 : Int32)), (.ref nb2), (.int (0 : Int32)), (.ref la)])) (fun t k => XS.iloadN X2.here hx rfl (hb hby d5_24) rfl k) ?_
  obtain ⟨_, _, ⟨T4, L4, k4, n4⟩, -, X4, ⟨Lc4, hQ4, l4, y4, z4⟩, st4⟩ := Jvm.LawKit.callS X2 hx (y := (⟨"java/lang/Math", "min", "(II)I"⟩ : MethodName)) hown (mvT hZ (hw _ (List.mem_of_getElem? (i := 28) rfl))) (mvT hZ (hw _ (List.mem_of_getElem? (i := 29) rfl))) (mvT hZ (hw _ (List.mem_of_getElem? (i := 30) rfl))) (mvT hZ (hw _ (List.mem_of_getElem? (i := 31) rfl))) (by decide) (backOf (W := 4) (rm_min l Z a0 hw [] (3 : Int32) (1 : Int32) h2 n0 Z2) hZ (hw _ (List.mem_of_getElem? (i := 31) rfl)) (hw _ (List.mem_of_getElem? (i := 30) rfl)) (by decide) (by decide)) (g := (mkF m 25 #[.val (.ref la), .val (.int (1 : Int32)), .val (.ref nb2)] [(.int (1 : Int32)), (.int (3 : Int32)), (.int (0 : Int32)), (.ref nb2), (.int (0 : Int32)), (.ref la)])) rfl (by rw [hml]; rfl) (argsL := [(.int (3 : Int32)), (.int (1 : Int32))]) (rest := [(.int (0 : Int32)), (.ref nb2), (.int (0 : Int32)), (.ref la)]) (lenOf pd__28II_29I rfl) rfl (by show 2 * 0 + _ ≤ _; exact Nat.le_of_eq rfl) (hb hby d5_25) (fun _ _ => ⟨rfl, e2, (by decide : 1 + 0 ≤ _), (by decide : 1 + 0 ≤ _)⟩)
  dsimp only [Pt.U, Pt.locs, Pt.cells, Pt.slots] at X4 l4 y4 z4 st4 hQ4
  subst l4 y4 z4
  obtain ⟨rfl, N4q, HQ4⟩ := hQ4
  have N4 := Fr.app N0 N4q
  have hm4 : (own_min (3 : Int32) (1 : Int32)) = (1 : Int32) := by decide
  rw [hm4] at st4
  refine Goes.pre (U' := T4.setTop (mkF m 28 #[.val (.ref la), .val (.int (1 : Int32)), .val (.ref nb2)] [(.int (1 : Int32)), (.int (0 : Int32)), (.ref nb2), (.int (0 : Int32)), (.ref la)])) (fun t k => st4 t k) ?_
  obtain ⟨T5, h5, L5, X5, e5, N5, K5c, V5, st5⟩ := cpA X4 hx hZ hown (hw _ (List.mem_of_getElem? (i := 32) rfl)) (hw _ (List.mem_of_getElem? (i := 35) rfl)) (hw _ (List.mem_of_getElem? (i := 33) rfl)) (hw _ (List.mem_of_getElem? (i := 34) rfl)) HQ4 V_la V_nb2 (us := [(.int b0)]) (Or.inl ⟨rfl, rfl⟩) (by decide) (by decide) (by decide) (by decide) (by decide) rfl (by decide) N4 g_nb2 (g := (mkF m 28 #[.val (.ref la), .val (.int (1 : Int32)), .val (.ref nb2)] [(.int (1 : Int32)), (.int (0 : Int32)), (.ref nb2), (.int (0 : Int32)), (.ref la)])) rfl (by rw [hml]; rfl) rfl (hb hby d5_28) (by decide) (W := 0) (by show 2 * 0 + _ ≤ _; exact Nat.le_of_eq rfl) (by decide)
  have E_la := E_la.keep K5c
  have V_la := V_la.keep K5c (ninS ne_la_nb2 nin0)
  have E_nb2 := E_nb2.keep K5c
  have Z6 : n0 ≤ h5.size := Nat.le_trans Z2 K5c.1
  have K6 := K2.trans K5c (allS (P := fun x => x ∈ [] ∨ h0.size ≤ x) (Or.inr sz_nb2) all0)
  have V_nb2 : Arv Z h5 nb2 k2 .byte (1 : Int32) [(.int b0)] (.int (0 : Int32)) := V5
  refine Goes.pre (U' := T5.setTop (mkF m 31 #[.val (.ref la), .val (.int (1 : Int32)), .val (.ref nb2)] [])) (fun t k => st5 t k) ?_
  refine Goes.pre (U' := T5.setTop (mkF m 32 #[.val (.ref la), .val (.int (1 : Int32)), .val (.ref nb2)] [(.ref nb2)])) (fun t k => XS.aloadN X5.here hx rfl (hb hby d5_31) rfl rfl k) ?_
  refine Goes.ret X5 (v := (some (.ref nb2))) (fun h => by rw [Bd.returns] at h; cases h) Bd.notSynchronized (by decide) (by decide) e5 (fun fs hr => retOut X5 hx Bd.returns rfl (Or.inr (Or.inr (Or.inr (Or.inr ⟨rfl, rfl, rfl⟩)))) (hb hby d5_32) hr) ?_
  exact ⟨nb2, k2, rfl, N5, K6, E_nb2, V_nb2, g_nb2, sz_nb2⟩
theorem ef_rm_copy32 (m : MethodId) (x0 : Addr) (x1 : Int32) : entryFrame m #[(.ref x0), (.int x1)] 3 = mkF m 0 #[.val (.ref x0), .val (.int x1), .unset] [] := by first | (simp [entryFrame, mkF, argsToLocals, Value.category]; done) | rfl
def Q_rm_copy32 (Z : State) (la : Addr) (kc : ClassId) (b0 b1 b2 : Int32) (h0 : Heap) (n0 : Nat) (v : Option Value) (h : Heap) (L : List Loc) : Prop := ∃ (r : Addr) (kr : ClassId), v = some (.ref r) ∧ Fr n0 L ∧ Keep h0 h [] ∧ Exa Z h r "[B" ∧ Arv Z h r kr .byte (2 : Int32) [(.int b0), (.int b1)] (.int (0 : Int32)) ∧ n0 ≤ r ∧ h0.size ≤ r
set_option maxRecDepth 65536 in
set_option maxHeartbeats 40000000 in
theorem rm_copy32 (l : Launch) (Z : State) (a0 : Array Value) (hw : ∀ d ∈ tables_1, d.before a0 Z = true) (ws : List Jvm.Cond) (la : Addr) (kc : ClassId) (b0 b1 b2 : Int32) (h0 : Heap) (n0 : Nat) (Z0 : n0 ≤ h0.size) (E_la : Exa Z h0 la "[B") (V_la : Arv Z h0 la kc .byte (3 : Int32) [(.int b0), (.int b1), (.int b2)] (.int (0 : Int32))) :
    MetFree l (⟨"java/util/Arrays", "copyOf", "([BI)[B"⟩ : MethodName) (head1 (Jvm.Cond.code (⟨"java/util/Arrays", "copyOf", "([BI)[B"⟩ : MethodName) jdk_65_method_121_code 3 (some (.array .byte)) :: ws) ({ frames := 1, cells := 1, slots := 2, locals := 18 } : Room)) (fun argv U => argv = #[(.ref la), (.int (2 : Int32))] ∧ Z.Warmed39 U.vm ∧ U.heap = h0) (fun _ _ _ _ _ => True) (fun _ U o U' => ∃ v L, o = .returned v ∧ Q_rm_copy32 Z la kc b0 b1 b2 h0 n0 v U'.heap L ∧ FrameEnd U o U' L ({ frames := 1, cells := 1, slots := 2, locals := 18 } : Room).cells ({ frames := 1, cells := 1, slots := 2, locals := 18 } : Room).slots) := by
  refine MetFree.of_bodySF (plainFor_of_name pn_java_util_Arrays) hisR ?_
  intro p e s m args below meth c s₁ Bd hml0 hP hK
  obtain ⟨rfl, hZ, hh⟩ := hP
  have hx := Bd.exec
  have hby := Bd.bytes
  have hml : c.maxLocals = 3 := hml0
  have hown : s.vm.findClass "java/util/Arrays" = some m.cls := findClass_of_methodNamed Bd.named
  have hnm := (name_of_methodNamed Bd.named Bd.method).1
  have X0 : Stand p l e ({ frames := 1, cells := 1, slots := 2, locals := 18 } : Room) s m #[(.ref la), (.int (2 : Int32))] below meth c s₁ [] 0 0 := Stand.of_body Bd
  have e0 : s₁.heap = h0 := by rw [← hh, Bd.state]; rfl
  have N0 := Fr.nil n0
  have K0 := Keep.refl h0 []
  refine Goes.enter (Q := fun v h L => Q_rm_copy32 Z la kc b0 b1 b2 h0 n0 v h L) (C := ({ frames := 1, cells := 1, slots := 2, locals := 18 } : Room).cells) (S := ({ frames := 1, cells := 1, slots := 2, locals := 18 } : Room).slots) (ef_rm_copy32 m la (2 : Int32)) ?_
  show Goes p e below s _ _ _ (s₁.setTop (mkF m 0 #[.val (.ref la), .val (.int (2 : Int32)), .unset] []))
  refine Goes.pre (U' := s₁.setTop (mkF m 1 #[.val (.ref la), .val (.int (2 : Int32)), .unset] [(.int (2 : Int32))])) (fun t k => XS.iloadN X0.here hx rfl (hb hby d5_0) rfl k) ?_
  refine Goes.pre (U' := s₁.setTop (mkF m 2 #[.val (.ref la), .val (.int (2 : Int32)), .unset] [(.ref la), (.int (2 : Int32))])) (fun t k => XS.aloadN X0.here hx rfl (hb hby d5_1) rfl rfl k) ?_
  obtain ⟨cl1, Ar1, q1, Sz1, Ng1, -, -⟩ := id V_la
  have ln1 := len_of Sz1 Ng1
  refine Goes.pre (U' := s₁.setTop (mkF m 3 #[.val (.ref la), .val (.int (2 : Int32)), .unset] [(.int (3 : Int32)), (.int (2 : Int32))])) (fun t k => X0.arraylength hx (by rw [e0]; exact Ar1.1) (State.isArrayOf_alike hZ.alike Ar1.2.1) (g := (mkF m 2 #[.val (.ref la), .val (.int (2 : Int32)), .unset] [(.ref la), (.int (2 : Int32))])) rfl rfl (hb hby d5_2) _ (by rw [ln1]; exact k)) ?_
  have hc3 : ¬ ((2 : Int32) = (3 : Int32)) := by decide
  refine Goes.pre (U' := s₁.setTop (mkF m 14 #[.val (.ref la), .val (.int (2 : Int32)), .unset] [])) (fun t k => XS.icmpYes X0.here hx rfl (pc0 := 3) (pc' := 14) rfl (hb hby d5_3) rfl (feq hc3).2 (by decide) (by decide) k) ?_
  refine Goes.pre (U' := s₁.setTop (mkF m 15 #[.val (.ref la), .val (.int (2 : Int32)), .unset] [(.int (2 : Int32))])) (fun t k => XS.iloadN X0.here hx rfl (hb hby d5_14) rfl k) ?_
  obtain ⟨T2, h2, k2, X2, e2, E2, A2, B2, st2⟩ := newPE X0 hx hZ (hw _ (List.mem_of_getElem? (i := 0) rfl)) e0 (g := (mkF m 15 #[.val (.ref la), .val (.int (2 : Int32)), .unset] [(.int (2 : Int32))])) rfl (hb hby d5_15) rfl (by decide) (cap := 2) (by decide) (by decide) (by decide) (by decide) (ad := "[B") (by decide)
  obtain ⟨nb2, g2⟩ : ∃ z, z = h0.size := ⟨_, rfl⟩
  rw [← g2] at A2 B2 st2
  have ne_la_nb2 : la ≠ nb2 := Nat.ne_of_lt (Nat.lt_of_lt_of_le E_la.lt (Nat.le_of_eq g2.symm))
  have ne_nb2_la := ne_la_nb2.symm
  have g_nb2 : n0 ≤ nb2 := Nat.le_trans Z0 (Nat.le_of_eq g2.symm)
  have sz_nb2 : h0.size ≤ nb2 := Nat.le_trans K0.1 (Nat.le_of_eq g2.symm)
  have E_la := E_la.ext E2
  have V_la := V_la.ext E2
  have Z2 : n0 ≤ h2.size := Nat.le_trans Z0 E2.1
  have K2 := K0.ext E2
  have E_nb2 := B2
  have V_nb2 : Arv Z h2 nb2 k2 .byte (2 : Int32) [(.int (0 : Int32)), (.int (0 : Int32))] (.int (0 : Int32)) := (Arv.new A2 (by decide)).pad (pad_rep [] (.int (0 : Int32)) 2)
  refine Goes.pre (U' := T2.setTop (mkF m 17 #[.val (.ref la), .val (.int (2 : Int32)), .unset] [(.ref nb2)])) (fun t k => st2 t k) ?_
  refine Goes.pre (U' := T2.setTop (mkF m 18 #[.val (.ref la), .val (.int (2 : Int32)), .val (.ref nb2)] [])) (fun t k => XS.astoreN X2.here hx rfl (hb hby d5_17) rfl rfl (l' := #[.val (.ref la), .val (.int (2 : Int32)), .val (.ref nb2)]) rfl k) ?_
  refine Goes.pre (U' := T2.setTop (mkF m 19 #[.val (.ref la), .val (.int (2 : Int32)), .val (.ref nb2)] [(.ref la)])) (fun t k => XS.aloadN X2.here hx rfl (hb hby d5_18) rfl rfl k) ?_
  refine Goes.pre (U' := T2.setTop (mkF m 20 #[.val (.ref la), .val (.int (2 : Int32)), .val (.ref nb2)] [(.int (0 : Int32)), (.ref la)])) (fun t k => XS.iconst X2.here hx rfl (hb hby d5_19) k) ?_
  refine Goes.pre (U' := T2.setTop (mkF m 21 #[.val (.ref la), .val (.int (2 : Int32)), .val (.ref nb2)] [(.ref nb2), (.int (0 : Int32)), (.ref la)])) (fun t k => XS.aloadN X2.here hx rfl (hb hby d5_20) rfl rfl k) ?_
  refine Goes.pre (U' := T2.setTop (mkF m 22 #[.val (.ref la), .val (.int (2 : Int32)), .val (.ref nb2)] [(.int (0 : Int32)), (.ref nb2), (.int (0 : Int32)), (.ref la)])) (fun t k => XS.iconst X2.here hx rfl (hb hby d5_21) k) ?_
  refine Goes.pre (U' := T2.setTop (mkF m 23 #[.val (.ref la), .val (.int (2 : Int32)), .val (.ref nb2)] [(.ref la), (.int (0 : Int32)), (.ref nb2), (.int (0 : Int32)), (.ref la)])) (fun t k => XS.aloadN X2.here hx rfl (hb hby d5_22) rfl rfl k) ?_
  obtain ⟨cl3, Ar3, q3, Sz3, Ng3, -, -⟩ := id V_la
  have ln3 := len_of Sz3 Ng3
  refine Goes.pre (U' := T2.setTop (mkF m 24 #[.val (.ref la), .val (.int (2 : Int32)), .val (.ref nb2)] [(.int (3 : Int32)), (.int (0 : Int32)), (.ref nb2), (.int (0 : Int32)), (.ref la)])) (fun t k => X2.arraylength hx (by rw [e2]; exact Ar3.1) (State.isArrayOf_alike hZ.alike Ar3.2.1) (g := (mkF m 23 #[.val (.ref la), .val (.int (2 : Int32)), .val (.ref nb2)] [(.ref la), (.int (0 : Int32)), (.ref nb2), (.int (0 : Int32)), (.ref la)])) rfl rfl (hb hby d5_23) _ (by rw [ln3]; exact k)) ?_
  refine Goes.pre (U' := T2.setTop (mkF m 25 #[.val (.ref la), .val (.int (2 : Int32)), .val (.ref nb2)] [(.int (2 : Int32)), (.int (3 : Int32)), (.int (0 : Int32)), (.ref nb2), (.int (0 : Int32)), (.ref la)])) (fun t k => XS.iloadN X2.here hx rfl (hb hby d5_24) rfl k) ?_
  obtain ⟨_, _, ⟨T4, L4, k4, n4⟩, -, X4, ⟨Lc4, hQ4, l4, y4, z4⟩, st4⟩ := Jvm.LawKit.callS X2 hx (y := (⟨"java/lang/Math", "min", "(II)I"⟩ : MethodName)) hown (mvT hZ (hw _ (List.mem_of_getElem? (i := 28) rfl))) (mvT hZ (hw _ (List.mem_of_getElem? (i := 29) rfl))) (mvT hZ (hw _ (List.mem_of_getElem? (i := 30) rfl))) (mvT hZ (hw _ (List.mem_of_getElem? (i := 31) rfl))) (by decide) (backOf (W := 4) (rm_min l Z a0 hw [] (3 : Int32) (2 : Int32) h2 n0 Z2) hZ (hw _ (List.mem_of_getElem? (i := 31) rfl)) (hw _ (List.mem_of_getElem? (i := 30) rfl)) (by decide) (by decide)) (g := (mkF m 25 #[.val (.ref la), .val (.int (2 : Int32)), .val (.ref nb2)] [(.int (2 : Int32)), (.int (3 : Int32)), (.int (0 : Int32)), (.ref nb2), (.int (0 : Int32)), (.ref la)])) rfl (by rw [hml]; rfl) (argsL := [(.int (3 : Int32)), (.int (2 : Int32))]) (rest := [(.int (0 : Int32)), (.ref nb2), (.int (0 : Int32)), (.ref la)]) (lenOf pd__28II_29I rfl) rfl (by show 2 * 0 + _ ≤ _; exact Nat.le_of_eq rfl) (hb hby d5_25) (fun _ _ => ⟨rfl, e2, (by decide : 1 + 0 ≤ _), (by decide : 2 + 0 ≤ _)⟩)
  dsimp only [Pt.U, Pt.locs, Pt.cells, Pt.slots] at X4 l4 y4 z4 st4 hQ4
  subst l4 y4 z4
  obtain ⟨rfl, N4q, HQ4⟩ := hQ4
  have N4 := Fr.app N0 N4q
  have hm4 : (own_min (3 : Int32) (2 : Int32)) = (2 : Int32) := by decide
  rw [hm4] at st4
  refine Goes.pre (U' := T4.setTop (mkF m 28 #[.val (.ref la), .val (.int (2 : Int32)), .val (.ref nb2)] [(.int (2 : Int32)), (.int (0 : Int32)), (.ref nb2), (.int (0 : Int32)), (.ref la)])) (fun t k => st4 t k) ?_
  obtain ⟨T5, h5, L5, X5, e5, N5, K5c, V5, st5⟩ := cpA X4 hx hZ hown (hw _ (List.mem_of_getElem? (i := 32) rfl)) (hw _ (List.mem_of_getElem? (i := 35) rfl)) (hw _ (List.mem_of_getElem? (i := 33) rfl)) (hw _ (List.mem_of_getElem? (i := 34) rfl)) HQ4 V_la V_nb2 (us := [(.int b0), (.int b1)]) (Or.inl ⟨rfl, rfl⟩) (by decide) (by decide) (by decide) (by decide) (by decide) rfl (by decide) N4 g_nb2 (g := (mkF m 28 #[.val (.ref la), .val (.int (2 : Int32)), .val (.ref nb2)] [(.int (2 : Int32)), (.int (0 : Int32)), (.ref nb2), (.int (0 : Int32)), (.ref la)])) rfl (by rw [hml]; rfl) rfl (hb hby d5_28) (by decide) (W := 0) (by show 2 * 0 + _ ≤ _; exact Nat.le_of_eq rfl) (by decide)
  have E_la := E_la.keep K5c
  have V_la := V_la.keep K5c (ninS ne_la_nb2 nin0)
  have E_nb2 := E_nb2.keep K5c
  have Z6 : n0 ≤ h5.size := Nat.le_trans Z2 K5c.1
  have K6 := K2.trans K5c (allS (P := fun x => x ∈ [] ∨ h0.size ≤ x) (Or.inr sz_nb2) all0)
  have V_nb2 : Arv Z h5 nb2 k2 .byte (2 : Int32) [(.int b0), (.int b1)] (.int (0 : Int32)) := V5
  refine Goes.pre (U' := T5.setTop (mkF m 31 #[.val (.ref la), .val (.int (2 : Int32)), .val (.ref nb2)] [])) (fun t k => st5 t k) ?_
  refine Goes.pre (U' := T5.setTop (mkF m 32 #[.val (.ref la), .val (.int (2 : Int32)), .val (.ref nb2)] [(.ref nb2)])) (fun t k => XS.aloadN X5.here hx rfl (hb hby d5_31) rfl rfl k) ?_
  refine Goes.ret X5 (v := (some (.ref nb2))) (fun h => by rw [Bd.returns] at h; cases h) Bd.notSynchronized (by decide) (by decide) e5 (fun fs hr => retOut X5 hx Bd.returns rfl (Or.inr (Or.inr (Or.inr (Or.inr ⟨rfl, rfl, rfl⟩)))) (hb hby d5_32) hr) ?_
  exact ⟨nb2, k2, rfl, N5, K6, E_nb2, V_nb2, g_nb2, sz_nb2⟩
theorem ef_rm_copy33 (m : MethodId) (x0 : Addr) (x1 : Int32) : entryFrame m #[(.ref x0), (.int x1)] 3 = mkF m 0 #[.val (.ref x0), .val (.int x1), .unset] [] := by first | (simp [entryFrame, mkF, argsToLocals, Value.category]; done) | rfl
def Q_rm_copy33 (Z : State) (la : Addr) (kc : ClassId) (b0 b1 b2 : Int32) (h0 : Heap) (n0 : Nat) (v : Option Value) (h : Heap) (L : List Loc) : Prop := ∃ (r : Addr) (kr : ClassId), v = some (.ref r) ∧ Fr n0 L ∧ Keep h0 h [] ∧ Exa Z h r "[B" ∧ Arv Z h r kr .byte (3 : Int32) [(.int b0), (.int b1), (.int b2)] (.int (0 : Int32)) ∧ n0 ≤ r ∧ h0.size ≤ r
set_option maxRecDepth 65536 in
set_option maxHeartbeats 40000000 in
theorem rm_copy33 (l : Launch) (Z : State) (a0 : Array Value) (hw : ∀ d ∈ tables_1, d.before a0 Z = true) (ws : List Jvm.Cond) (la : Addr) (kc : ClassId) (b0 b1 b2 : Int32) (h0 : Heap) (n0 : Nat) (Z0 : n0 ≤ h0.size) (E_la : Exa Z h0 la "[B") (V_la : Arv Z h0 la kc .byte (3 : Int32) [(.int b0), (.int b1), (.int b2)] (.int (0 : Int32))) :
    MetFree l (⟨"java/util/Arrays", "copyOf", "([BI)[B"⟩ : MethodName) (head1 (Jvm.Cond.code (⟨"java/util/Arrays", "copyOf", "([BI)[B"⟩ : MethodName) jdk_65_method_121_code 3 (some (.array .byte)) :: ws) ({ frames := 1, cells := 1, slots := 3, locals := 14 } : Room)) (fun argv U => argv = #[(.ref la), (.int (3 : Int32))] ∧ Z.Warmed39 U.vm ∧ U.heap = h0) (fun _ _ _ _ _ => True) (fun _ U o U' => ∃ v L, o = .returned v ∧ Q_rm_copy33 Z la kc b0 b1 b2 h0 n0 v U'.heap L ∧ FrameEnd U o U' L ({ frames := 1, cells := 1, slots := 3, locals := 14 } : Room).cells ({ frames := 1, cells := 1, slots := 3, locals := 14 } : Room).slots) := by
  refine MetFree.of_bodySF (plainFor_of_name pn_java_util_Arrays) hisR ?_
  intro p e s m args below meth c s₁ Bd hml0 hP hK
  obtain ⟨rfl, hZ, hh⟩ := hP
  have hx := Bd.exec
  have hby := Bd.bytes
  have hml : c.maxLocals = 3 := hml0
  have hown : s.vm.findClass "java/util/Arrays" = some m.cls := findClass_of_methodNamed Bd.named
  have hnm := (name_of_methodNamed Bd.named Bd.method).1
  have X0 : Stand p l e ({ frames := 1, cells := 1, slots := 3, locals := 14 } : Room) s m #[(.ref la), (.int (3 : Int32))] below meth c s₁ [] 0 0 := Stand.of_body Bd
  have e0 : s₁.heap = h0 := by rw [← hh, Bd.state]; rfl
  have N0 := Fr.nil n0
  have K0 := Keep.refl h0 []
  refine Goes.enter (Q := fun v h L => Q_rm_copy33 Z la kc b0 b1 b2 h0 n0 v h L) (C := ({ frames := 1, cells := 1, slots := 3, locals := 14 } : Room).cells) (S := ({ frames := 1, cells := 1, slots := 3, locals := 14 } : Room).slots) (ef_rm_copy33 m la (3 : Int32)) ?_
  show Goes p e below s _ _ _ (s₁.setTop (mkF m 0 #[.val (.ref la), .val (.int (3 : Int32)), .unset] []))
  refine Goes.pre (U' := s₁.setTop (mkF m 1 #[.val (.ref la), .val (.int (3 : Int32)), .unset] [(.int (3 : Int32))])) (fun t k => XS.iloadN X0.here hx rfl (hb hby d5_0) rfl k) ?_
  refine Goes.pre (U' := s₁.setTop (mkF m 2 #[.val (.ref la), .val (.int (3 : Int32)), .unset] [(.ref la), (.int (3 : Int32))])) (fun t k => XS.aloadN X0.here hx rfl (hb hby d5_1) rfl rfl k) ?_
  obtain ⟨cl1, Ar1, q1, Sz1, Ng1, -, -⟩ := id V_la
  have ln1 := len_of Sz1 Ng1
  refine Goes.pre (U' := s₁.setTop (mkF m 3 #[.val (.ref la), .val (.int (3 : Int32)), .unset] [(.int (3 : Int32)), (.int (3 : Int32))])) (fun t k => X0.arraylength hx (by rw [e0]; exact Ar1.1) (State.isArrayOf_alike hZ.alike Ar1.2.1) (g := (mkF m 2 #[.val (.ref la), .val (.int (3 : Int32)), .unset] [(.ref la), (.int (3 : Int32))])) rfl rfl (hb hby d5_2) _ (by rw [ln1]; exact k)) ?_
  have hc3 : (3 : Int32) = (3 : Int32) := rfl
  refine Goes.pre (U' := s₁.setTop (mkF m 6 #[.val (.ref la), .val (.int (3 : Int32)), .unset] [])) (fun t k => XS.icmpNo X0.here hx rfl (hb hby d5_3) rfl (teq hc3).2 k) ?_
  refine Goes.pre (U' := s₁.setTop (mkF m 7 #[.val (.ref la), .val (.int (3 : Int32)), .unset] [(.ref la)])) (fun t k => XS.aloadN X0.here hx rfl (hb hby d5_6) rfl rfl k) ?_
  obtain ⟨T2, h2, X2, e2, E2, A2, B2, st2⟩ := cloneH X0 hx hZ hown (hw _ (List.mem_of_getElem? (i := 36) rfl)) (hw _ (List.mem_of_getElem? (i := 37) rfl)) (hw _ (List.mem_of_getElem? (i := 41) rfl)) (hw _ (List.mem_of_getElem? (i := 39) rfl)) (hw _ (List.mem_of_getElem? (i := 40) rfl)) (hw _ (List.mem_of_getElem? (i := 42) rfl)) e0 V_la.arh E_la (g := (mkF m 7 #[.val (.ref la), .val (.int (3 : Int32)), .unset] [(.ref la)])) rfl (by rw [hml]; rfl) rfl (hb hby d5_7) (by decide) (W := 0) (cap := 3) (by show 2 * 0 + _ ≤ _; exact Nat.le_of_eq rfl) (by decide) (by decide) (by decide) (by decide)
  obtain ⟨nb2, g2⟩ : ∃ z, z = h0.size := ⟨_, rfl⟩
  rw [← g2] at A2 B2 st2
  have ne_la_nb2 : la ≠ nb2 := Nat.ne_of_lt (Nat.lt_of_lt_of_le E_la.lt (Nat.le_of_eq g2.symm))
  have ne_nb2_la := ne_la_nb2.symm
  have g_nb2 : n0 ≤ nb2 := Nat.le_trans Z0 (Nat.le_of_eq g2.symm)
  have sz_nb2 : h0.size ≤ nb2 := Nat.le_trans K0.1 (Nat.le_of_eq g2.symm)
  have E_la := E_la.ext E2
  have V_la := V_la.ext E2
  have Z2 : n0 ≤ h2.size := Nat.le_trans Z0 E2.1
  have K2 := K0.ext E2
  have E_nb2 := B2
  have V_nb2 : Arv Z h2 nb2 kc .byte (3 : Int32) [(.int b0), (.int b1), (.int b2)] (.int (0 : Int32)) := A2
  refine Goes.pre (U' := T2.setTop (mkF m 10 #[.val (.ref la), .val (.int (3 : Int32)), .unset] [(.ref nb2)])) (fun t k => st2 t k) ?_
  obtain ⟨T3, X3, e3, st3⟩ := castY X2 hx hZ hown (hw _ (List.mem_of_getElem? (i := 43) rfl)) e2 (Ins.self E_nb2) (g := (mkF m 10 #[.val (.ref la), .val (.int (3 : Int32)), .unset] [(.ref nb2)])) rfl rfl (hb hby d5_10)
  refine Goes.pre (U' := T3.setTop (mkF m 13 #[.val (.ref la), .val (.int (3 : Int32)), .unset] [(.ref nb2)])) (fun t k => st3 t k) ?_
  refine Goes.ret X3 (v := (some (.ref nb2))) (fun h => by rw [Bd.returns] at h; cases h) Bd.notSynchronized (by decide) (by decide) e3 (fun fs hr => retOut X3 hx Bd.returns rfl (Or.inr (Or.inr (Or.inr (Or.inr ⟨rfl, rfl, rfl⟩)))) (hb hby d5_13) hr) ?_
  exact ⟨nb2, kc, rfl, N0, K2, E_nb2, V_nb2, g_nb2, sz_nb2⟩
theorem ef_rm_init (m : MethodId) (x0 : Addr) (x1 : Addr) (x2 : Addr) : entryFrame m #[(.ref x0), (.ref x1), (.ref x2)] 3 = mkF m 0 #[.val (.ref x0), .val (.ref x1), .val (.ref x2)] [] := by first | (simp [entryFrame, mkF, argsToLocals, Value.category]; done) | rfl
theorem pn_com_example_known_paths_knownpaths_key_KeyRange : plainName "com/example/known_paths/knownpaths/key/KeyRange" = true := by first | (simp [plainName, overriddenIn]; done) | decide +kernel
theorem d1_0 : decode prog_10_method_1_code 0 = .ok (.aload_n 0, 1) := by decide +kernel
theorem d1_1 : decode prog_10_method_1_code 1 = .ok (.invokespecial 1, 3) := by decide +kernel
theorem pd__28_29V : parseMethodDescriptor "()V" = some ⟨[], none⟩ := by decide +kernel
theorem d1_4 : decode prog_10_method_1_code 4 = .ok (.aload_n 0, 1) := by decide +kernel
theorem d1_5 : decode prog_10_method_1_code 5 = .ok (.aload_n 1, 1) := by decide +kernel
theorem d1_6 : decode prog_10_method_1_code 6 = .ok (.putfield 7, 3) := by decide +kernel
theorem d1_9 : decode prog_10_method_1_code 9 = .ok (.aload_n 0, 1) := by decide +kernel
theorem d1_10 : decode prog_10_method_1_code 10 = .ok (.aload_n 2, 1) := by decide +kernel
theorem d1_11 : decode prog_10_method_1_code 11 = .ok (.putfield 13, 3) := by decide +kernel
theorem d1_14 : decode prog_10_method_1_code 14 = .ok (.return_, 1) := by decide +kernel
def Q_rm_init (Z : State) (a fa la : Addr) (h0 : Heap) (n0 : Nat) (v : Option Value) (h : Heap) (L : List Loc) : Prop := v = none ∧ Fr n0 L ∧ Keep h0 h [a] ∧ Fld Z h a "com/example/known_paths/knownpaths/key/KeyRange" "last" "[B" (.ref la)
set_option maxRecDepth 65536 in
set_option maxHeartbeats 40000000 in
theorem rm_init (l : Launch) (Z : State) (a0 : Array Value) (hw : ∀ d ∈ tables_1, d.before a0 Z = true) (ws : List Jvm.Cond) (a fa la : Addr) (h0 : Heap) (n0 : Nat) (Z0 : n0 ≤ h0.size) (E_a : Exa Z h0 a "com/example/known_paths/knownpaths/key/KeyRange") (F_first_a : Fld Z h0 a "com/example/known_paths/knownpaths/key/KeyRange" "first" "[B" .null) (F_last_a : Fld Z h0 a "com/example/known_paths/knownpaths/key/KeyRange" "last" "[B" .null) (g_a : n0 ≤ a) :
    MetFree l (⟨"com/example/known_paths/knownpaths/key/KeyRange", "<init>", "([B[B)V"⟩ : MethodName) (head1 (Jvm.Cond.code (⟨"com/example/known_paths/knownpaths/key/KeyRange", "<init>", "([B[B)V"⟩ : MethodName) prog_10_method_1_code 3 none :: ws) ({ frames := 2, cells := 0, slots := 0, locals := 24 } : Room)) (fun argv U => argv = #[(.ref a), (.ref fa), (.ref la)] ∧ Z.Warmed39 U.vm ∧ U.heap = h0) (fun _ _ _ _ _ => True) (fun _ U o U' => ∃ v L, o = .returned v ∧ Q_rm_init Z a fa la h0 n0 v U'.heap L ∧ FrameEnd U o U' L ({ frames := 2, cells := 0, slots := 0, locals := 24 } : Room).cells ({ frames := 2, cells := 0, slots := 0, locals := 24 } : Room).slots) := by
  refine MetFree.of_bodySF (plainFor_of_name pn_com_example_known_paths_knownpaths_key_KeyRange) hisR ?_
  intro p e s m args below meth c s₁ Bd hml0 hP hK
  obtain ⟨rfl, hZ, hh⟩ := hP
  have hx := Bd.exec
  have hby := Bd.bytes
  have hml : c.maxLocals = 3 := hml0
  have hown : s.vm.findClass "com/example/known_paths/knownpaths/key/KeyRange" = some m.cls := findClass_of_methodNamed Bd.named
  have hnm := (name_of_methodNamed Bd.named Bd.method).1
  have X0 : Stand p l e ({ frames := 2, cells := 0, slots := 0, locals := 24 } : Room) s m #[(.ref a), (.ref fa), (.ref la)] below meth c s₁ [] 0 0 := Stand.of_body Bd
  have e0 : s₁.heap = h0 := by rw [← hh, Bd.state]; rfl
  have N0 := Fr.nil n0
  have K0 := Keep.refl h0 [a]
  refine Goes.enter (Q := fun v h L => Q_rm_init Z a fa la h0 n0 v h L) (C := ({ frames := 2, cells := 0, slots := 0, locals := 24 } : Room).cells) (S := ({ frames := 2, cells := 0, slots := 0, locals := 24 } : Room).slots) (ef_rm_init m a fa la) ?_
  show Goes p e below s _ _ _ (s₁.setTop (mkF m 0 #[.val (.ref a), .val (.ref fa), .val (.ref la)] []))
  refine Goes.pre (U' := s₁.setTop (mkF m 1 #[.val (.ref a), .val (.ref fa), .val (.ref la)] [(.ref a)])) (fun t k => XS.aloadN X0.here hx rfl (hb hby d1_0) rfl rfl k) ?_
  obtain ⟨_, _, ⟨T1, L1, k1, n1⟩, -, X1, ⟨Lc1, hQ1, l1, y1, z1⟩, st1⟩ := X0.specialBack hx (y := (⟨"java/lang/Record", "<init>", "()V"⟩ : MethodName)) rfl hown (mvT hZ (hw _ (List.mem_of_getElem? (i := 7) rfl))) (mvT hZ (hw _ (List.mem_of_getElem? (i := 8) rfl))) (mvT hZ (hw _ (List.mem_of_getElem? (i := 11) rfl))) (by decide) (backOf (W := 0) (rm_record l Z a0 hw [] a h0 n0 Z0) hZ (hw _ (List.mem_of_getElem? (i := 11) rfl)) (hw _ (List.mem_of_getElem? (i := 10) rfl)) (by decide) (by decide)) (g := (mkF m 1 #[.val (.ref a), .val (.ref fa), .val (.ref la)] [(.ref a)])) rfl (by rw [hml]; rfl) (Steps.refl _) (a := a) (argsL := []) (rest := []) (lenOf pd__28_29V rfl) rfl (by show 2 * 0 + _ ≤ _; exact Nat.le_of_eq rfl) (hb hby d1_1) (fun _ _ => ⟨rfl, e0, (by decide : 0 + 0 ≤ _), (by decide : 0 + 0 ≤ _)⟩)
  dsimp only [Pt.U, Pt.locs, Pt.cells, Pt.slots] at X1 l1 y1 z1 st1 hQ1
  subst l1 y1 z1
  obtain ⟨rfl, N1q, HQ1⟩ := hQ1
  have N1 := Fr.app N0 N1q
  refine Goes.pre (U' := T1.setTop (mkF m 4 #[.val (.ref a), .val (.ref fa), .val (.ref la)] [])) (fun t k => st1.trans k) ?_
  refine Goes.pre (U' := T1.setTop (mkF m 5 #[.val (.ref a), .val (.ref fa), .val (.ref la)] [(.ref a)])) (fun t k => XS.aloadN X1.here hx rfl (hb hby d1_4) rfl rfl k) ?_
  refine Goes.pre (U' := T1.setTop (mkF m 6 #[.val (.ref a), .val (.ref fa), .val (.ref la)] [(.ref fa), (.ref a)])) (fun t k => XS.aloadN X1.here hx rfl (hb hby d1_5) rfl rfl k) ?_
  obtain ⟨T2, h2, X2, e2, W2, st2⟩ := putF X1 hx hZ hown (host := "") (Or.inl (hw _ (List.mem_of_getElem? (i := 15) rfl))) Via.refl HQ1 F_first_a E_a (Or.inr ⟨(hw _ (List.mem_of_getElem? (i := 16) rfl)), rfl, hnm⟩) (hw _ (List.mem_of_getElem? (i := 2) rfl)) (ty := (.array .byte)) (by decide) rfl rfl (g := (mkF m 6 #[.val (.ref a), .val (.ref fa), .val (.ref la)] [(.ref fa), (.ref a)])) rfl rfl (hb hby d1_6)
  have E_a := E_a.wr W2
  have F_last_a := F_last_a.other W2 (Or.inr (slot_ne (Or.inr (hw _ (List.mem_of_getElem? (i := 18) rfl))) (Or.inr (hw _ (List.mem_of_getElem? (i := 16) rfl))) (by decide) (t := (.array .byte)) (t' := (.array .byte)) (by decide) (by decide)))
  have Z2 : n0 ≤ h2.size := Nat.le_trans Z0 (Keep.of_wr W2).1
  have F_first_a := F_first_a.same W2
  have K2 := K0.wr W2 (Or.inl (List.mem_of_getElem? (i := 0) rfl))
  have N2 := Fr.snoc X2 N1 g_a
  refine Goes.pre (U' := T2.setTop (mkF m 9 #[.val (.ref a), .val (.ref fa), .val (.ref la)] [])) (fun t k => st2 t k) ?_
  refine Goes.pre (U' := T2.setTop (mkF m 10 #[.val (.ref a), .val (.ref fa), .val (.ref la)] [(.ref a)])) (fun t k => XS.aloadN X2.here hx rfl (hb hby d1_9) rfl rfl k) ?_
  refine Goes.pre (U' := T2.setTop (mkF m 11 #[.val (.ref a), .val (.ref fa), .val (.ref la)] [(.ref la), (.ref a)])) (fun t k => XS.aloadN X2.here hx rfl (hb hby d1_10) rfl rfl k) ?_
  obtain ⟨T3, h3, X3, e3, W3, st3⟩ := putF X2 hx hZ hown (host := "") (Or.inl (hw _ (List.mem_of_getElem? (i := 17) rfl))) Via.refl e2 F_last_a E_a (Or.inr ⟨(hw _ (List.mem_of_getElem? (i := 18) rfl)), rfl, hnm⟩) (hw _ (List.mem_of_getElem? (i := 2) rfl)) (ty := (.array .byte)) (by decide) rfl rfl (g := (mkF m 11 #[.val (.ref a), .val (.ref fa), .val (.ref la)] [(.ref la), (.ref a)])) rfl rfl (hb hby d1_11)
  have E_a := E_a.wr W3
  have F_first_a := F_first_a.other W3 (Or.inr (slot_ne (Or.inr (hw _ (List.mem_of_getElem? (i := 16) rfl))) (Or.inr (hw _ (List.mem_of_getElem? (i := 18) rfl))) (by decide) (t := (.array .byte)) (t' := (.array .byte)) (by decide) (by decide)))
  have Z3 : n0 ≤ h3.size := Nat.le_trans Z2 (Keep.of_wr W3).1
  have F_last_a := F_last_a.same W3
  have K3 := K2.wr W3 (Or.inl (List.mem_of_getElem? (i := 0) rfl))
  have N3 := Fr.snoc X3 N2 g_a
  refine Goes.pre (U' := T3.setTop (mkF m 14 #[.val (.ref a), .val (.ref fa), .val (.ref la)] [])) (fun t k => st3 t k) ?_
  refine Goes.ret X3 (v := none) (fun _ => rfl) Bd.notSynchronized (by decide) (by decide) e3 (fun fs hr => X3.returnOut hx Bd.returns (hb hby d1_14) hr) ?_
  exact ⟨rfl, N3, K3, F_last_a⟩
theorem ef_rm_end00 (m : MethodId) (x0 : Addr) : entryFrame m #[(.ref x0)] 3 = mkF m 0 #[.val (.ref x0), .unset, .unset] [] := by first | (simp [entryFrame, mkF, argsToLocals, Value.category]; done) | rfl
theorem d4_0 : decode prog_10_method_4_code 0 = .ok (.aload_n 0, 1) := by decide +kernel
theorem d4_1 : decode prog_10_method_4_code 1 = .ok (.getfield 13, 3) := by decide +kernel
theorem d4_4 : decode prog_10_method_4_code 4 = .ok (.arraylength, 1) := by decide +kernel
theorem d4_5 : decode prog_10_method_4_code 5 = .ok (.istore_n 1, 1) := by decide +kernel
theorem d4_6 : decode prog_10_method_4_code 6 = .ok (.iload_n 1, 1) := by decide +kernel
theorem d4_7 : decode prog_10_method_4_code 7 = .ok (.ifCond .le 21, 3) := by decide +kernel
theorem d4_28 : decode prog_10_method_4_code 28 = .ok (.iload_n 1, 1) := by decide +kernel
theorem d4_29 : decode prog_10_method_4_code 29 = .ok (.ifCond .ne 5, 3) := by decide +kernel
theorem d4_32 : decode prog_10_method_4_code 32 = .ok (.aconst_null, 1) := by decide +kernel
theorem d4_33 : decode prog_10_method_4_code 33 = .ok (.areturn, 1) := by decide +kernel
def Q_rm_end00 (Z : State) (a la : Addr) (kc : ClassId) (h0 : Heap) (n0 : Nat) (v : Option Value) (h : Heap) (L : List Loc) : Prop := v = some .null ∧ Fr n0 L ∧ Keep h0 h []
set_option maxRecDepth 65536 in
set_option maxHeartbeats 40000000 in
theorem rm_end00 (l : Launch) (Z : State) (a0 : Array Value) (hw : ∀ d ∈ tables_1, d.before a0 Z = true) (ws : List Jvm.Cond) (a la : Addr) (kc : ClassId) (h0 : Heap) (n0 : Nat) (Z0 : n0 ≤ h0.size) (F_last_a : Fld Z h0 a "com/example/known_paths/knownpaths/key/KeyRange" "last" "[B" (.ref la)) (E_la : Exa Z h0 la "[B") (V_la : Arv Z h0 la kc .byte (0 : Int32) [] (.int (0 : Int32))) :
    MetFree l (⟨"com/example/known_paths/knownpaths/key/KeyRange", "end", "()[B"⟩ : MethodName) (head1 (Jvm.Cond.code (⟨"com/example/known_paths/knownpaths/key/KeyRange", "end", "()[B"⟩ : MethodName) prog_10_method_4_code 3 (some (.array .byte)) :: ws) ({ frames := 0, cells := 0, slots := 0, locals := 0 } : Room)) (fun argv U => argv = #[(.ref a)] ∧ Z.Warmed39 U.vm ∧ U.heap = h0) (fun _ _ _ _ _ => True) (fun _ U o U' => ∃ v L, o = .returned v ∧ Q_rm_end00 Z a la kc h0 n0 v U'.heap L ∧ FrameEnd U o U' L ({ frames := 0, cells := 0, slots := 0, locals := 0 } : Room).cells ({ frames := 0, cells := 0, slots := 0, locals := 0 } : Room).slots) := by
  refine MetFree.of_bodySF (plainFor_of_name pn_com_example_known_paths_knownpaths_key_KeyRange) hisR ?_
  intro p e s m args below meth c s₁ Bd hml0 hP hK
  obtain ⟨rfl, hZ, hh⟩ := hP
  have hx := Bd.exec
  have hby := Bd.bytes
  have hml : c.maxLocals = 3 := hml0
  have hown : s.vm.findClass "com/example/known_paths/knownpaths/key/KeyRange" = some m.cls := findClass_of_methodNamed Bd.named
  have hnm := (name_of_methodNamed Bd.named Bd.method).1
  have X0 : Stand p l e ({ frames := 0, cells := 0, slots := 0, locals := 0 } : Room) s m #[(.ref a)] below meth c s₁ [] 0 0 := Stand.of_body Bd
  have e0 : s₁.heap = h0 := by rw [← hh, Bd.state]; rfl
  have N0 := Fr.nil n0
  have K0 := Keep.refl h0 []
  refine Goes.enter (Q := fun v h L => Q_rm_end00 Z a la kc h0 n0 v h L) (C := ({ frames := 0, cells := 0, slots := 0, locals := 0 } : Room).cells) (S := ({ frames := 0, cells := 0, slots := 0, locals := 0 } : Room).slots) (ef_rm_end00 m a) ?_
  show Goes p e below s _ _ _ (s₁.setTop (mkF m 0 #[.val (.ref a), .unset, .unset] []))
  refine Goes.pre (U' := s₁.setTop (mkF m 1 #[.val (.ref a), .unset, .unset] [(.ref a)])) (fun t k => XS.aloadN X0.here hx rfl (hb hby d4_0) rfl rfl k) ?_
  obtain ⟨T1, X1, e1, st1⟩ := getF X0 hx hZ hown (host := "") (Or.inl (hw _ (List.mem_of_getElem? (i := 17) rfl))) Via.refl e0 F_last_a (g := (mkF m 1 #[.val (.ref a), .unset, .unset] [(.ref a)])) rfl rfl (hb hby d4_1)
  refine Goes.pre (U' := T1.setTop (mkF m 4 #[.val (.ref a), .unset, .unset] [(.ref la)])) (fun t k => st1 t k) ?_
  obtain ⟨cl2, Ar2, q2, Sz2, Ng2, -, -⟩ := id V_la
  have ln2 := len_of Sz2 Ng2
  refine Goes.pre (U' := T1.setTop (mkF m 5 #[.val (.ref a), .unset, .unset] [(.int (0 : Int32))])) (fun t k => X1.arraylength hx (by rw [e1]; exact Ar2.1) (State.isArrayOf_alike hZ.alike Ar2.2.1) (g := (mkF m 4 #[.val (.ref a), .unset, .unset] [(.ref la)])) rfl rfl (hb hby d4_4) _ (by rw [ln2]; exact k)) ?_
  refine Goes.pre (U' := T1.setTop (mkF m 6 #[.val (.ref a), .val (.int (0 : Int32)), .unset] [])) (fun t k => XS.istoreN X1.here hx rfl (hb hby d4_5) rfl (l' := #[.val (.ref a), .val (.int (0 : Int32)), .unset]) rfl k) ?_
  refine Goes.pre (U' := T1.setTop (mkF m 7 #[.val (.ref a), .val (.int (0 : Int32)), .unset] [(.int (0 : Int32))])) (fun t k => XS.iloadN X1.here hx rfl (hb hby d4_6) rfl k) ?_
  have hc7 : ¬ ((0 : Int32) < (0 : Int32)) := by decide
  refine Goes.pre (U' := T1.setTop (mkF m 28 #[.val (.ref a), .val (.int (0 : Int32)), .unset] [])) (fun t k => XS.ifYes X1.here hx rfl (pc0 := 7) (pc' := 28) rfl (hb hby d4_7) rfl ((if0 _ _).trans (flt hc7).2.2.2) (by decide) (by decide) k) ?_
  refine Goes.pre (U' := T1.setTop (mkF m 29 #[.val (.ref a), .val (.int (0 : Int32)), .unset] [(.int (0 : Int32))])) (fun t k => XS.iloadN X1.here hx rfl (hb hby d4_28) rfl k) ?_
  have hc29 : (0 : Int32) = (0 : Int32) := rfl
  refine Goes.pre (U' := T1.setTop (mkF m 32 #[.val (.ref a), .val (.int (0 : Int32)), .unset] [])) (fun t k => XS.ifNo X1.here hx rfl (hb hby d4_29) rfl ((if0 _ _).trans (teq hc29).2) k) ?_
  refine Goes.pre (U' := T1.setTop (mkF m 33 #[.val (.ref a), .val (.int (0 : Int32)), .unset] [.null])) (fun t k => XS.aconstNull X1.here hx rfl (hb hby d4_32) k) ?_
  refine Goes.ret X1 (v := (some .null)) (fun h => by rw [Bd.returns] at h; cases h) Bd.notSynchronized (by decide) (by decide) e1 (fun fs hr => retOut X1 hx Bd.returns rfl (Or.inr (Or.inr (Or.inr (Or.inr ⟨rfl, rfl, rfl⟩)))) (hb hby d4_33) hr) ?_
  exact ⟨rfl, N0, K0⟩
theorem ef_rm_end10 (m : MethodId) (x0 : Addr) : entryFrame m #[(.ref x0)] 3 = mkF m 0 #[.val (.ref x0), .unset, .unset] [] := by first | (simp [entryFrame, mkF, argsToLocals, Value.category]; done) | rfl
theorem d4_10 : decode prog_10_method_4_code 10 = .ok (.aload_n 0, 1) := by decide +kernel
theorem d4_11 : decode prog_10_method_4_code 11 = .ok (.getfield 13, 3) := by decide +kernel
theorem d4_14 : decode prog_10_method_4_code 14 = .ok (.iload_n 1, 1) := by decide +kernel
theorem d4_15 : decode prog_10_method_4_code 15 = .ok (.iconst 1, 1) := by decide +kernel
theorem d4_16 : decode prog_10_method_4_code 16 = .ok (.isub, 1) := by decide +kernel
theorem d4_17 : decode prog_10_method_4_code 17 = .ok (.baload, 1) := by decide +kernel
theorem d4_18 : decode prog_10_method_4_code 18 = .ok (.iconst (-1), 1) := by decide +kernel
theorem d4_19 : decode prog_10_method_4_code 19 = .ok (.if_icmp .ne 9, 3) := by decide +kernel
theorem d4_22 : decode prog_10_method_4_code 22 = .ok (.iinc 1 (-1), 3) := by decide +kernel
theorem d4_25 : decode prog_10_method_4_code 25 = .ok (.goto (-19), 3) := by decide +kernel
def Q_rm_end10 (Z : State) (a la : Addr) (kc : ClassId) (b0 : Int32) (h0 : Heap) (n0 : Nat) (v : Option Value) (h : Heap) (L : List Loc) : Prop := v = some .null ∧ Fr n0 L ∧ Keep h0 h []
set_option maxRecDepth 65536 in
set_option maxHeartbeats 40000000 in
theorem rm_end10 (l : Launch) (Z : State) (a0 : Array Value) (hw : ∀ d ∈ tables_1, d.before a0 Z = true) (ws : List Jvm.Cond) (a la : Addr) (kc : ClassId) (b0 : Int32) (h0 : Heap) (n0 : Nat) (Z0 : n0 ≤ h0.size) (F_last_a : Fld Z h0 a "com/example/known_paths/knownpaths/key/KeyRange" "last" "[B" (.ref la)) (E_la : Exa Z h0 la "[B") (V_la : Arv Z h0 la kc .byte (1 : Int32) [(.int b0)] (.int (0 : Int32))) (hq0 : b0 = (-1 : Int32)) :
    MetFree l (⟨"com/example/known_paths/knownpaths/key/KeyRange", "end", "()[B"⟩ : MethodName) (head1 (Jvm.Cond.code (⟨"com/example/known_paths/knownpaths/key/KeyRange", "end", "()[B"⟩ : MethodName) prog_10_method_4_code 3 (some (.array .byte)) :: ws) ({ frames := 0, cells := 0, slots := 0, locals := 0 } : Room)) (fun argv U => argv = #[(.ref a)] ∧ Z.Warmed39 U.vm ∧ U.heap = h0) (fun _ _ _ _ _ => True) (fun _ U o U' => ∃ v L, o = .returned v ∧ Q_rm_end10 Z a la kc b0 h0 n0 v U'.heap L ∧ FrameEnd U o U' L ({ frames := 0, cells := 0, slots := 0, locals := 0 } : Room).cells ({ frames := 0, cells := 0, slots := 0, locals := 0 } : Room).slots) := by
  refine MetFree.of_bodySF (plainFor_of_name pn_com_example_known_paths_knownpaths_key_KeyRange) hisR ?_
  intro p e s m args below meth c s₁ Bd hml0 hP hK
  obtain ⟨rfl, hZ, hh⟩ := hP
  have hx := Bd.exec
  have hby := Bd.bytes
  have hml : c.maxLocals = 3 := hml0
  have hown : s.vm.findClass "com/example/known_paths/knownpaths/key/KeyRange" = some m.cls := findClass_of_methodNamed Bd.named
  have hnm := (name_of_methodNamed Bd.named Bd.method).1
  have X0 : Stand p l e ({ frames := 0, cells := 0, slots := 0, locals := 0 } : Room) s m #[(.ref a)] below meth c s₁ [] 0 0 := Stand.of_body Bd
  have e0 : s₁.heap = h0 := by rw [← hh, Bd.state]; rfl
  have N0 := Fr.nil n0
  have K0 := Keep.refl h0 []
  refine Goes.enter (Q := fun v h L => Q_rm_end10 Z a la kc b0 h0 n0 v h L) (C := ({ frames := 0, cells := 0, slots := 0, locals := 0 } : Room).cells) (S := ({ frames := 0, cells := 0, slots := 0, locals := 0 } : Room).slots) (ef_rm_end10 m a) ?_
  show Goes p e below s _ _ _ (s₁.setTop (mkF m 0 #[.val (.ref a), .unset, .unset] []))
  refine Goes.pre (U' := s₁.setTop (mkF m 1 #[.val (.ref a), .unset, .unset] [(.ref a)])) (fun t k => XS.aloadN X0.here hx rfl (hb hby d4_0) rfl rfl k) ?_
  obtain ⟨T1, X1, e1, st1⟩ := getF X0 hx hZ hown (host := "") (Or.inl (hw _ (List.mem_of_getElem? (i := 17) rfl))) Via.refl e0 F_last_a (g := (mkF m 1 #[.val (.ref a), .unset, .unset] [(.ref a)])) rfl rfl (hb hby d4_1)
  refine Goes.pre (U' := T1.setTop (mkF m 4 #[.val (.ref a), .unset, .unset] [(.ref la)])) (fun t k => st1 t k) ?_
  obtain ⟨cl2, Ar2, q2, Sz2, Ng2, -, -⟩ := id V_la
  have ln2 := len_of Sz2 Ng2
  refine Goes.pre (U' := T1.setTop (mkF m 5 #[.val (.ref a), .unset, .unset] [(.int (1 : Int32))])) (fun t k => X1.arraylength hx (by rw [e1]; exact Ar2.1) (State.isArrayOf_alike hZ.alike Ar2.2.1) (g := (mkF m 4 #[.val (.ref a), .unset, .unset] [(.ref la)])) rfl rfl (hb hby d4_4) _ (by rw [ln2]; exact k)) ?_
  refine Goes.pre (U' := T1.setTop (mkF m 6 #[.val (.ref a), .val (.int (1 : Int32)), .unset] [])) (fun t k => XS.istoreN X1.here hx rfl (hb hby d4_5) rfl (l' := #[.val (.ref a), .val (.int (1 : Int32)), .unset]) rfl k) ?_
  refine Goes.pre (U' := T1.setTop (mkF m 7 #[.val (.ref a), .val (.int (1 : Int32)), .unset] [(.int (1 : Int32))])) (fun t k => XS.iloadN X1.here hx rfl (hb hby d4_6) rfl k) ?_
  have hc7 : (0 : Int32) < (1 : Int32) := by decide
  refine Goes.pre (U' := T1.setTop (mkF m 10 #[.val (.ref a), .val (.int (1 : Int32)), .unset] [])) (fun t k => XS.ifNo X1.here hx rfl (hb hby d4_7) rfl ((if0 _ _).trans (tlt hc7).2.2.2) k) ?_
  refine Goes.pre (U' := T1.setTop (mkF m 11 #[.val (.ref a), .val (.int (1 : Int32)), .unset] [(.ref a)])) (fun t k => XS.aloadN X1.here hx rfl (hb hby d4_10) rfl rfl k) ?_
  obtain ⟨T3, X3, e3, st3⟩ := getF X1 hx hZ hown (host := "") (Or.inl (hw _ (List.mem_of_getElem? (i := 17) rfl))) Via.refl e1 F_last_a (g := (mkF m 11 #[.val (.ref a), .val (.int (1 : Int32)), .unset] [(.ref a)])) rfl rfl (hb hby d4_11)
  refine Goes.pre (U' := T3.setTop (mkF m 14 #[.val (.ref a), .val (.int (1 : Int32)), .unset] [(.ref la)])) (fun t k => st3 t k) ?_
  refine Goes.pre (U' := T3.setTop (mkF m 15 #[.val (.ref a), .val (.int (1 : Int32)), .unset] [(.int (1 : Int32)), (.ref la)])) (fun t k => XS.iloadN X3.here hx rfl (hb hby d4_14) rfl k) ?_
  refine Goes.pre (U' := T3.setTop (mkF m 16 #[.val (.ref a), .val (.int (1 : Int32)), .unset] [(.int (1 : Int32)), (.int (1 : Int32)), (.ref la)])) (fun t k => XS.iconst X3.here hx rfl (hb hby d4_15) k) ?_
  refine Goes.pre (U' := T3.setTop (mkF m 17 #[.val (.ref a), .val (.int (1 : Int32)), .unset] [(.int ((1 : Int32) - (1 : Int32))), (.ref la)])) (fun t k => XS.isub X3.here hx rfl (hb hby d4_16) rfl k) ?_
  rw [(by decide : ((1 : Int32) - (1 : Int32)) = (0 : Int32))]
  obtain ⟨cl4, Ar4, q4, Sz4, Ng4, Hs4, Ft4⟩ := id V_la
  have hin4 := inb_of (j := (0 : Int32)) Sz4 ⟨by decide, by decide⟩
  refine Goes.pre (U' := T3.setTop (mkF m 18 #[.val (.ref a), .val (.int (1 : Int32)), .unset] [(.int b0)])) (fun t k => X3.baloadBytes hx (j := (0 : Int32)) (v := (.int b0)) (by rw [e3]; exact Ar4.1) (State.isArrayOf_alike hZ.alike Ar4.2.1) Ar4.2.2 hin4 (Has.at Hs4 hin4 rfl) (g := (mkF m 17 #[.val (.ref a), .val (.int (1 : Int32)), .unset] [(.int (0 : Int32)), (.ref la)])) rfl rfl (hb hby d4_17) _ k) ?_
  refine Goes.pre (U' := T3.setTop (mkF m 19 #[.val (.ref a), .val (.int (1 : Int32)), .unset] [(.int (-1 : Int32)), (.int b0)])) (fun t k => XS.iconst X3.here hx rfl (hb hby d4_18) k) ?_
  have hc19 : b0 = (-1 : Int32) := hq0
  refine Goes.pre (U' := T3.setTop (mkF m 22 #[.val (.ref a), .val (.int (1 : Int32)), .unset] [])) (fun t k => XS.icmpNo X3.here hx rfl (hb hby d4_19) rfl (teq hc19).2 k) ?_
  refine Goes.pre (U' := T3.setTop (mkF m 25 #[.val (.ref a), .val (.int ((1 : Int32) + (-1 : Int32))), .unset] [])) (fun t k => XT.iincV X3.here hx rfl (-1 : Int32) (hb hby d4_22) (by decide) rfl (l' := #[.val (.ref a), .val (.int ((1 : Int32) + (-1 : Int32))), .unset]) rfl k) ?_
  rw [(by decide : ((1 : Int32) + (-1 : Int32)) = (0 : Int32))]
  refine Goes.pre (U' := T3.setTop (mkF m 6 #[.val (.ref a), .val (.int (0 : Int32)), .unset] [])) (fun t k => XS.goto X3.here hx rfl (pc0 := 25) (pc' := 6) rfl (hb hby d4_25) (by decide) (by decide) k) ?_
  refine Goes.pre (U' := T3.setTop (mkF m 7 #[.val (.ref a), .val (.int (0 : Int32)), .unset] [(.int (0 : Int32))])) (fun t k => XS.iloadN X3.here hx rfl (hb hby d4_6) rfl k) ?_
  have hc7 : ¬ ((0 : Int32) < (0 : Int32)) := by decide
  refine Goes.pre (U' := T3.setTop (mkF m 28 #[.val (.ref a), .val (.int (0 : Int32)), .unset] [])) (fun t k => XS.ifYes X3.here hx rfl (pc0 := 7) (pc' := 28) rfl (hb hby d4_7) rfl ((if0 _ _).trans (flt hc7).2.2.2) (by decide) (by decide) k) ?_
  refine Goes.pre (U' := T3.setTop (mkF m 29 #[.val (.ref a), .val (.int (0 : Int32)), .unset] [(.int (0 : Int32))])) (fun t k => XS.iloadN X3.here hx rfl (hb hby d4_28) rfl k) ?_
  have hc29 : (0 : Int32) = (0 : Int32) := rfl
  refine Goes.pre (U' := T3.setTop (mkF m 32 #[.val (.ref a), .val (.int (0 : Int32)), .unset] [])) (fun t k => XS.ifNo X3.here hx rfl (hb hby d4_29) rfl ((if0 _ _).trans (teq hc29).2) k) ?_
  refine Goes.pre (U' := T3.setTop (mkF m 33 #[.val (.ref a), .val (.int (0 : Int32)), .unset] [.null])) (fun t k => XS.aconstNull X3.here hx rfl (hb hby d4_32) k) ?_
  refine Goes.ret X3 (v := (some .null)) (fun h => by rw [Bd.returns] at h; cases h) Bd.notSynchronized (by decide) (by decide) e3 (fun fs hr => retOut X3 hx Bd.returns rfl (Or.inr (Or.inr (Or.inr (Or.inr ⟨rfl, rfl, rfl⟩)))) (hb hby d4_33) hr) ?_
  exact ⟨rfl, N0, K0⟩
theorem ef_rm_end11 (m : MethodId) (x0 : Addr) : entryFrame m #[(.ref x0)] 3 = mkF m 0 #[.val (.ref x0), .unset, .unset] [] := by first | (simp [entryFrame, mkF, argsToLocals, Value.category]; done) | rfl
theorem d4_34 : decode prog_10_method_4_code 34 = .ok (.aload_n 0, 1) := by decide +kernel
theorem d4_35 : decode prog_10_method_4_code 35 = .ok (.getfield 13, 3) := by decide +kernel
theorem d4_38 : decode prog_10_method_4_code 38 = .ok (.iload_n 1, 1) := by decide +kernel
theorem d4_39 : decode prog_10_method_4_code 39 = .ok (.invokestatic 23, 3) := by decide +kernel
theorem pd__28_5bBI_29_5bB : parseMethodDescriptor "([BI)[B" = some ⟨[(.array .byte), .int], some (.array .byte)⟩ := by decide +kernel
theorem d4_42 : decode prog_10_method_4_code 42 = .ok (.astore_n 2, 1) := by decide +kernel
theorem d4_43 : decode prog_10_method_4_code 43 = .ok (.aload_n 2, 1) := by decide +kernel
theorem d4_44 : decode prog_10_method_4_code 44 = .ok (.iload_n 1, 1) := by decide +kernel
theorem d4_45 : decode prog_10_method_4_code 45 = .ok (.iconst 1, 1) := by decide +kernel
theorem d4_46 : decode prog_10_method_4_code 46 = .ok (.isub, 1) := by decide +kernel
theorem d4_47 : decode prog_10_method_4_code 47 = .ok (.dup2, 1) := by decide +kernel
theorem d4_48 : decode prog_10_method_4_code 48 = .ok (.baload, 1) := by decide +kernel
theorem d4_49 : decode prog_10_method_4_code 49 = .ok (.iconst 1, 1) := by decide +kernel
theorem d4_50 : decode prog_10_method_4_code 50 = .ok (.iadd, 1) := by decide +kernel
theorem d4_51 : decode prog_10_method_4_code 51 = .ok (.i2b, 1) := by decide +kernel
theorem d4_52 : decode prog_10_method_4_code 52 = .ok (.bastore, 1) := by decide +kernel
theorem d4_53 : decode prog_10_method_4_code 53 = .ok (.aload_n 2, 1) := by decide +kernel
theorem d4_54 : decode prog_10_method_4_code 54 = .ok (.areturn, 1) := by decide +kernel
def Q_rm_end11 (Z : State) (a la : Addr) (kc : ClassId) (b0 : Int32) (h0 : Heap) (n0 : Nat) (v : Option Value) (h : Heap) (L : List Loc) : Prop := ∃ (r : Addr) (kr : ClassId), v = some (.ref r) ∧ Fr n0 L ∧ Keep h0 h [] ∧ Arv Z h r kr .byte (1 : Int32) [(.int ((b0 + (1 : Int32)).toInt8.toInt32))] (.int (0 : Int32)) ∧ n0 ≤ r ∧ h0.size ≤ r
set_option maxRecDepth 65536 in
set_option maxHeartbeats 40000000 in
theorem rm_end11 (l : Launch) (Z : State) (a0 : Array Value) (hw : ∀ d ∈ tables_1, d.before a0 Z = true) (ws : List Jvm.Cond) (a la : Addr) (kc : ClassId) (b0 : Int32) (h0 : Heap) (n0 : Nat) (Z0 : n0 ≤ h0.size) (F_last_a : Fld Z h0 a "com/example/known_paths/knownpaths/key/KeyRange" "last" "[B" (.ref la)) (E_la : Exa Z h0 la "[B") (V_la : Arv Z h0 la kc .byte (1 : Int32) [(.int b0)] (.int (0 : Int32))) (hk : ¬ (b0 = (-1 : Int32))) :
    MetFree l (⟨"com/example/known_paths/knownpaths/key/KeyRange", "end", "()[B"⟩ : MethodName) (head1 (Jvm.Cond.code (⟨"com/example/known_paths/knownpaths/key/KeyRange", "end", "()[B"⟩ : MethodName) prog_10_method_4_code 3 (some (.array .byte)) :: ws) ({ frames := 2, cells := 1, slots := 1, locals := 28 } : Room)) (fun argv U => argv = #[(.ref a)] ∧ Z.Warmed39 U.vm ∧ U.heap = h0) (fun _ _ _ _ _ => True) (fun _ U o U' => ∃ v L, o = .returned v ∧ Q_rm_end11 Z a la kc b0 h0 n0 v U'.heap L ∧ FrameEnd U o U' L ({ frames := 2, cells := 1, slots := 1, locals := 28 } : Room).cells ({ frames := 2, cells := 1, slots := 1, locals := 28 } : Room).slots) := by
  refine MetFree.of_bodySF (plainFor_of_name pn_com_example_known_paths_knownpaths_key_KeyRange) hisR ?_
  intro p e s m args below meth c s₁ Bd hml0 hP hK
  obtain ⟨rfl, hZ, hh⟩ := hP
  have hx := Bd.exec
  have hby := Bd.bytes
  have hml : c.maxLocals = 3 := hml0
  have hown : s.vm.findClass "com/example/known_paths/knownpaths/key/KeyRange" = some m.cls := findClass_of_methodNamed Bd.named
  have hnm := (name_of_methodNamed Bd.named Bd.method).1
  have X0 : Stand p l e ({ frames := 2, cells := 1, slots := 1, locals := 28 } : Room) s m #[(.ref a)] below meth c s₁ [] 0 0 := Stand.of_body Bd
  have e0 : s₁.heap = h0 := by rw [← hh, Bd.state]; rfl
  have N0 := Fr.nil n0
  have K0 := Keep.refl h0 []
  refine Goes.enter (Q := fun v h L => Q_rm_end11 Z a la kc b0 h0 n0 v h L) (C := ({ frames := 2, cells := 1, slots := 1, locals := 28 } : Room).cells) (S := ({ frames := 2, cells := 1, slots := 1, locals := 28 } : Room).slots) (ef_rm_end11 m a) ?_
  show Goes p e below s _ _ _ (s₁.setTop (mkF m 0 #[.val (.ref a), .unset, .unset] []))
  refine Goes.pre (U' := s₁.setTop (mkF m 1 #[.val (.ref a), .unset, .unset] [(.ref a)])) (fun t k => XS.aloadN X0.here hx rfl (hb hby d4_0) rfl rfl k) ?_
  obtain ⟨T1, X1, e1, st1⟩ := getF X0 hx hZ hown (host := "") (Or.inl (hw _ (List.mem_of_getElem? (i := 17) rfl))) Via.refl e0 F_last_a (g := (mkF m 1 #[.val (.ref a), .unset, .unset] [(.ref a)])) rfl rfl (hb hby d4_1)
  refine Goes.pre (U' := T1.setTop (mkF m 4 #[.val (.ref a), .unset, .unset] [(.ref la)])) (fun t k => st1 t k) ?_
  obtain ⟨cl2, Ar2, q2, Sz2, Ng2, -, -⟩ := id V_la
  have ln2 := len_of Sz2 Ng2
  refine Goes.pre (U' := T1.setTop (mkF m 5 #[.val (.ref a), .unset, .unset] [(.int (1 : Int32))])) (fun t k => X1.arraylength hx (by rw [e1]; exact Ar2.1) (State.isArrayOf_alike hZ.alike Ar2.2.1) (g := (mkF m 4 #[.val (.ref a), .unset, .unset] [(.ref la)])) rfl rfl (hb hby d4_4) _ (by rw [ln2]; exact k)) ?_
  refine Goes.pre (U' := T1.setTop (mkF m 6 #[.val (.ref a), .val (.int (1 : Int32)), .unset] [])) (fun t k => XS.istoreN X1.here hx rfl (hb hby d4_5) rfl (l' := #[.val (.ref a), .val (.int (1 : Int32)), .unset]) rfl k) ?_
  refine Goes.pre (U' := T1.setTop (mkF m 7 #[.val (.ref a), .val (.int (1 : Int32)), .unset] [(.int (1 : Int32))])) (fun t k => XS.iloadN X1.here hx rfl (hb hby d4_6) rfl k) ?_
  have hc7 : (0 : Int32) < (1 : Int32) := by decide
  refine Goes.pre (U' := T1.setTop (mkF m 10 #[.val (.ref a), .val (.int (1 : Int32)), .unset] [])) (fun t k => XS.ifNo X1.here hx rfl (hb hby d4_7) rfl ((if0 _ _).trans (tlt hc7).2.2.2) k) ?_
  refine Goes.pre (U' := T1.setTop (mkF m 11 #[.val (.ref a), .val (.int (1 : Int32)), .unset] [(.ref a)])) (fun t k => XS.aloadN X1.here hx rfl (hb hby d4_10) rfl rfl k) ?_
  obtain ⟨T3, X3, e3, st3⟩ := getF X1 hx hZ hown (host := "") (Or.inl (hw _ (List.mem_of_getElem? (i := 17) rfl))) Via.refl e1 F_last_a (g := (mkF m 11 #[.val (.ref a), .val (.int (1 : Int32)), .unset] [(.ref a)])) rfl rfl (hb hby d4_11)
  refine Goes.pre (U' := T3.setTop (mkF m 14 #[.val (.ref a), .val (.int (1 : Int32)), .unset] [(.ref la)])) (fun t k => st3 t k) ?_
  refine Goes.pre (U' := T3.setTop (mkF m 15 #[.val (.ref a), .val (.int (1 : Int32)), .unset] [(.int (1 : Int32)), (.ref la)])) (fun t k => XS.iloadN X3.here hx rfl (hb hby d4_14) rfl k) ?_
  refine Goes.pre (U' := T3.setTop (mkF m 16 #[.val (.ref a), .val (.int (1 : Int32)), .unset] [(.int (1 : Int32)), (.int (1 : Int32)), (.ref la)])) (fun t k => XS.iconst X3.here hx rfl (hb hby d4_15) k) ?_
  refine Goes.pre (U' := T3.setTop (mkF m 17 #[.val (.ref a), .val (.int (1 : Int32)), .unset] [(.int ((1 : Int32) - (1 : Int32))), (.ref la)])) (fun t k => XS.isub X3.here hx rfl (hb hby d4_16) rfl k) ?_
  rw [(by decide : ((1 : Int32) - (1 : Int32)) = (0 : Int32))]
  obtain ⟨cl4, Ar4, q4, Sz4, Ng4, Hs4, Ft4⟩ := id V_la
  have hin4 := inb_of (j := (0 : Int32)) Sz4 ⟨by decide, by decide⟩
  refine Goes.pre (U' := T3.setTop (mkF m 18 #[.val (.ref a), .val (.int (1 : Int32)), .unset] [(.int b0)])) (fun t k => X3.baloadBytes hx (j := (0 : Int32)) (v := (.int b0)) (by rw [e3]; exact Ar4.1) (State.isArrayOf_alike hZ.alike Ar4.2.1) Ar4.2.2 hin4 (Has.at Hs4 hin4 rfl) (g := (mkF m 17 #[.val (.ref a), .val (.int (1 : Int32)), .unset] [(.int (0 : Int32)), (.ref la)])) rfl rfl (hb hby d4_17) _ k) ?_
  refine Goes.pre (U' := T3.setTop (mkF m 19 #[.val (.ref a), .val (.int (1 : Int32)), .unset] [(.int (-1 : Int32)), (.int b0)])) (fun t k => XS.iconst X3.here hx rfl (hb hby d4_18) k) ?_
  have hc19 : ¬ (b0 = (-1 : Int32)) := hk
  refine Goes.pre (U' := T3.setTop (mkF m 28 #[.val (.ref a), .val (.int (1 : Int32)), .unset] [])) (fun t k => XS.icmpYes X3.here hx rfl (pc0 := 19) (pc' := 28) rfl (hb hby d4_19) rfl (feq hc19).2 (by decide) (by decide) k) ?_
  refine Goes.pre (U' := T3.setTop (mkF m 29 #[.val (.ref a), .val (.int (1 : Int32)), .unset] [(.int (1 : Int32))])) (fun t k => XS.iloadN X3.here hx rfl (hb hby d4_28) rfl k) ?_
  have hc29 : ¬ ((1 : Int32) = (0 : Int32)) := by decide
  refine Goes.pre (U' := T3.setTop (mkF m 34 #[.val (.ref a), .val (.int (1 : Int32)), .unset] [])) (fun t k => XS.ifYes X3.here hx rfl (pc0 := 29) (pc' := 34) rfl (hb hby d4_29) rfl ((if0 _ _).trans (feq hc29).2) (by decide) (by decide) k) ?_
  refine Goes.pre (U' := T3.setTop (mkF m 35 #[.val (.ref a), .val (.int (1 : Int32)), .unset] [(.ref a)])) (fun t k => XS.aloadN X3.here hx rfl (hb hby d4_34) rfl rfl k) ?_
  obtain ⟨T5, X5, e5, st5⟩ := getF X3 hx hZ hown (host := "") (Or.inl (hw _ (List.mem_of_getElem? (i := 17) rfl))) Via.refl e3 F_last_a (g := (mkF m 35 #[.val (.ref a), .val (.int (1 : Int32)), .unset] [(.ref a)])) rfl rfl (hb hby d4_35)
  refine Goes.pre (U' := T5.setTop (mkF m 38 #[.val (.ref a), .val (.int (1 : Int32)), .unset] [(.ref la)])) (fun t k => st5 t k) ?_
  refine Goes.pre (U' := T5.setTop (mkF m 39 #[.val (.ref a), .val (.int (1 : Int32)), .unset] [(.int (1 : Int32)), (.ref la)])) (fun t k => XS.iloadN X5.here hx rfl (hb hby d4_38) rfl k) ?_
  have lt_a := F_last_a.lt
  have lt_la := E_la.lt
  obtain ⟨_, _, ⟨T6, L6, k6, n6⟩, -, X6, ⟨Lc6, hQ6, l6, y6, z6⟩, st6⟩ := Jvm.LawKit.callS X5 hx (y := (⟨"java/util/Arrays", "copyOf", "([BI)[B"⟩ : MethodName)) hown (mvT hZ (hw _ (List.mem_of_getElem? (i := 24) rfl))) (mvT hZ (hw _ (List.mem_of_getElem? (i := 25) rfl))) (mvT hZ (hw _ (List.mem_of_getElem? (i := 26) rfl))) (mvT hZ (hw _ (List.mem_of_getElem? (i := 27) rfl))) (by decide) (backOf (W := 0) (rm_copy11 l Z a0 hw [] la kc b0 h0 n0 Z0 E_la V_la) hZ (hw _ (List.mem_of_getElem? (i := 27) rfl)) (hw _ (List.mem_of_getElem? (i := 26) rfl)) (by decide) (by decide)) (g := (mkF m 39 #[.val (.ref a), .val (.int (1 : Int32)), .unset] [(.int (1 : Int32)), (.ref la)])) rfl (by rw [hml]; rfl) (argsL := [(.ref la), (.int (1 : Int32))]) (rest := []) (lenOf pd__28_5bBI_29_5bB rfl) rfl (by show 2 * 0 + _ ≤ _; exact Nat.le_of_eq rfl) (hb hby d4_39) (fun _ _ => ⟨rfl, e5, (by decide : 0 + 1 ≤ _), (by decide : 0 + 1 ≤ _)⟩)
  dsimp only [Pt.U, Pt.locs, Pt.cells, Pt.slots] at X6 l6 y6 z6 st6 hQ6
  subst l6 y6 z6
  obtain ⟨r, kr, rfl, N6q, KQ6, E_r, V_r, g_r, sz_r0⟩ := hQ6
  have N6 := Fr.app N0 N6q
  have F_last_a := F_last_a.keep KQ6 nin0
  have E_la := E_la.keep KQ6
  have V_la := V_la.keep KQ6 nin0
  have Z7 : n0 ≤ T6.heap.size := Nat.le_trans Z0 KQ6.1
  have K7 := K0.trans KQ6 all0
  have ne_a_r : a ≠ r := Nat.ne_of_lt (Nat.lt_of_lt_of_le lt_a (by exact sz_r0))
  have ne_r_a := ne_a_r.symm
  have ne_la_r : la ≠ r := Nat.ne_of_lt (Nat.lt_of_lt_of_le lt_la (by exact sz_r0))
  have ne_r_la := ne_la_r.symm
  have sz_r : h0.size ≤ r := Nat.le_trans K0.1 sz_r0
  refine Goes.pre (U' := T6.setTop (mkF m 42 #[.val (.ref a), .val (.int (1 : Int32)), .unset] [(.ref r)])) (fun t k => st6 t k) ?_
  refine Goes.pre (U' := T6.setTop (mkF m 43 #[.val (.ref a), .val (.int (1 : Int32)), .val (.ref r)] [])) (fun t k => XS.astoreN X6.here hx rfl (hb hby d4_42) rfl rfl (l' := #[.val (.ref a), .val (.int (1 : Int32)), .val (.ref r)]) rfl k) ?_
  refine Goes.pre (U' := T6.setTop (mkF m 44 #[.val (.ref a), .val (.int (1 : Int32)), .val (.ref r)] [(.ref r)])) (fun t k => XS.aloadN X6.here hx rfl (hb hby d4_43) rfl rfl k) ?_
  refine Goes.pre (U' := T6.setTop (mkF m 45 #[.val (.ref a), .val (.int (1 : Int32)), .val (.ref r)] [(.int (1 : Int32)), (.ref r)])) (fun t k => XS.iloadN X6.here hx rfl (hb hby d4_44) rfl k) ?_
  refine Goes.pre (U' := T6.setTop (mkF m 46 #[.val (.ref a), .val (.int (1 : Int32)), .val (.ref r)] [(.int (1 : Int32)), (.int (1 : Int32)), (.ref r)])) (fun t k => XS.iconst X6.here hx rfl (hb hby d4_45) k) ?_
  refine Goes.pre (U' := T6.setTop (mkF m 47 #[.val (.ref a), .val (.int (1 : Int32)), .val (.ref r)] [(.int ((1 : Int32) - (1 : Int32))), (.ref r)])) (fun t k => XS.isub X6.here hx rfl (hb hby d4_46) rfl k) ?_
  rw [(by decide : ((1 : Int32) - (1 : Int32)) = (0 : Int32))]
  refine Goes.pre (U' := T6.setTop (mkF m 48 #[.val (.ref a), .val (.int (1 : Int32)), .val (.ref r)] [(.int (0 : Int32)), (.ref r), (.int (0 : Int32)), (.ref r)])) (fun t k => XT.dup2 X6.here hx rfl (hb hby d4_47) rfl rfl rfl k) ?_
  obtain ⟨cl8, Ar8, q8, Sz8, Ng8, Hs8, Ft8⟩ := id V_r
  have hin8 := inb_of (j := (0 : Int32)) Sz8 ⟨by decide, by decide⟩
  refine Goes.pre (U' := T6.setTop (mkF m 49 #[.val (.ref a), .val (.int (1 : Int32)), .val (.ref r)] [(.int b0), (.int (0 : Int32)), (.ref r)])) (fun t k => X6.baloadBytes hx (j := (0 : Int32)) (v := (.int b0)) Ar8.1 (State.isArrayOf_alike hZ.alike Ar8.2.1) Ar8.2.2 hin8 (Has.at Hs8 hin8 rfl) (g := (mkF m 48 #[.val (.ref a), .val (.int (1 : Int32)), .val (.ref r)] [(.int (0 : Int32)), (.ref r), (.int (0 : Int32)), (.ref r)])) rfl rfl (hb hby d4_48) _ k) ?_
  refine Goes.pre (U' := T6.setTop (mkF m 50 #[.val (.ref a), .val (.int (1 : Int32)), .val (.ref r)] [(.int (1 : Int32)), (.int b0), (.int (0 : Int32)), (.ref r)])) (fun t k => XS.iconst X6.here hx rfl (hb hby d4_49) k) ?_
  refine Goes.pre (U' := T6.setTop (mkF m 51 #[.val (.ref a), .val (.int (1 : Int32)), .val (.ref r)] [(.int (b0 + (1 : Int32))), (.int (0 : Int32)), (.ref r)])) (fun t k => XS.iadd X6.here hx rfl (hb hby d4_50) rfl k) ?_
  refine Goes.pre (U' := T6.setTop (mkF m 52 #[.val (.ref a), .val (.int (1 : Int32)), .val (.ref r)] [(.int ((b0 + (1 : Int32)).toInt8.toInt32)), (.int (0 : Int32)), (.ref r)])) (fun t k => XS.i2b X6.here hx rfl (hb hby d4_51) rfl k) ?_
  obtain ⟨cl9, Ar9, q9, Sz9, Ng9, Hs9, Ft9⟩ := id V_r
  obtain ⟨T9, h9, X9, e9, W9, st9⟩ := stB X6 hx hZ rfl Ar9 (j := (0 : Int32)) (inb_of Sz9 ⟨by decide, by decide⟩) (g := (mkF m 52 #[.val (.ref a), .val (.int (1 : Int32)), .val (.ref r)] [(.int ((b0 + (1 : Int32)).toInt8.toInt32)), (.int (0 : Int32)), (.ref r)])) rfl rfl (hb hby d4_52)
  have nr9 : nar .byte ((b0 + (1 : Int32)).toInt8.toInt32) = ((b0 + (1 : Int32)).toInt8.toInt32) := own_bb _
  have ft9 : fits .byte (.int ((b0 + (1 : Int32)).toInt8.toInt32)) = true := nr9 ▸ (fits_nar_byte ((b0 + (1 : Int32)).toInt8.toInt32) : fits .byte (.int (nar .byte ((b0 + (1 : Int32)).toInt8.toInt32))) = true)
  rw [nr9] at W9
  have F_last_a := F_last_a.other W9 (Or.inl ne_a_r)
  have E_la := E_la.wr W9
  have V_la := V_la.other W9 ne_la_r
  have E_r := E_r.wr W9
  have Z9 : n0 ≤ h9.size := Nat.le_trans Z7 (Keep.of_wr W9).1
  have V_r : Arv Z h9 r kr .byte (1 : Int32) [(.int ((b0 + (1 : Int32)).toInt8.toInt32))] (.int (0 : Int32)) := Arv.set Ar9 q9 Sz9 Ng9 Hs9 Ft9 ft9 W9 0 rfl (Nat.le_of_ble_eq_true rfl)
  have K9 := K7.wr W9 (Or.inr sz_r)
  have N9 := Fr.snoc X9 N6 g_r
  refine Goes.pre (U' := T9.setTop (mkF m 53 #[.val (.ref a), .val (.int (1 : Int32)), .val (.ref r)] [])) (fun t k => st9 t k) ?_
  refine Goes.pre (U' := T9.setTop (mkF m 54 #[.val (.ref a), .val (.int (1 : Int32)), .val (.ref r)] [(.ref r)])) (fun t k => XS.aloadN X9.here hx rfl (hb hby d4_53) rfl rfl k) ?_
  refine Goes.ret X9 (v := (some (.ref r))) (fun h => by rw [Bd.returns] at h; cases h) Bd.notSynchronized (by decide) (by decide) e9 (fun fs hr => retOut X9 hx Bd.returns rfl (Or.inr (Or.inr (Or.inr (Or.inr ⟨rfl, rfl, rfl⟩)))) (hb hby d4_54) hr) ?_
  exact ⟨r, kr, rfl, N9, K9, V_r, g_r, sz_r⟩
theorem ef_rm_end20 (m : MethodId) (x0 : Addr) : entryFrame m #[(.ref x0)] 3 = mkF m 0 #[.val (.ref x0), .unset, .unset] [] := by first | (simp [entryFrame, mkF, argsToLocals, Value.category]; done) | rfl
def Q_rm_end20 (Z : State) (a la : Addr) (kc : ClassId) (b0 b1 : Int32) (h0 : Heap) (n0 : Nat) (v : Option Value) (h : Heap) (L : List Loc) : Prop := v = some .null ∧ Fr n0 L ∧ Keep h0 h []
set_option maxRecDepth 65536 in
set_option maxHeartbeats 40000000 in
theorem rm_end20 (l : Launch) (Z : State) (a0 : Array Value) (hw : ∀ d ∈ tables_1, d.before a0 Z = true) (ws : List Jvm.Cond) (a la : Addr) (kc : ClassId) (b0 b1 : Int32) (h0 : Heap) (n0 : Nat) (Z0 : n0 ≤ h0.size) (F_last_a : Fld Z h0 a "com/example/known_paths/knownpaths/key/KeyRange" "last" "[B" (.ref la)) (E_la : Exa Z h0 la "[B") (V_la : Arv Z h0 la kc .byte (2 : Int32) [(.int b0), (.int b1)] (.int (0 : Int32))) (hq0 : b0 = (-1 : Int32)) (hq1 : b1 = (-1 : Int32)) :
    MetFree l (⟨"com/example/known_paths/knownpaths/key/KeyRange", "end", "()[B"⟩ : MethodName) (head1 (Jvm.Cond.code (⟨"com/example/known_paths/knownpaths/key/KeyRange", "end", "()[B"⟩ : MethodName) prog_10_method_4_code 3 (some (.array .byte)) :: ws) ({ frames := 0, cells := 0, slots := 0, locals := 0 } : Room)) (fun argv U => argv = #[(.ref a)] ∧ Z.Warmed39 U.vm ∧ U.heap = h0) (fun _ _ _ _ _ => True) (fun _ U o U' => ∃ v L, o = .returned v ∧ Q_rm_end20 Z a la kc b0 b1 h0 n0 v U'.heap L ∧ FrameEnd U o U' L ({ frames := 0, cells := 0, slots := 0, locals := 0 } : Room).cells ({ frames := 0, cells := 0, slots := 0, locals := 0 } : Room).slots) := by
  refine MetFree.of_bodySF (plainFor_of_name pn_com_example_known_paths_knownpaths_key_KeyRange) hisR ?_
  intro p e s m args below meth c s₁ Bd hml0 hP hK
  obtain ⟨rfl, hZ, hh⟩ := hP
  have hx := Bd.exec
  have hby := Bd.bytes
  have hml : c.maxLocals = 3 := hml0
  have hown : s.vm.findClass "com/example/known_paths/knownpaths/key/KeyRange" = some m.cls := findClass_of_methodNamed Bd.named
  have hnm := (name_of_methodNamed Bd.named Bd.method).1
  have X0 : Stand p l e ({ frames := 0, cells := 0, slots := 0, locals := 0 } : Room) s m #[(.ref a)] below meth c s₁ [] 0 0 := Stand.of_body Bd
  have e0 : s₁.heap = h0 := by rw [← hh, Bd.state]; rfl
  have N0 := Fr.nil n0
  have K0 := Keep.refl h0 []
  refine Goes.enter (Q := fun v h L => Q_rm_end20 Z a la kc b0 b1 h0 n0 v h L) (C := ({ frames := 0, cells := 0, slots := 0, locals := 0 } : Room).cells) (S := ({ frames := 0, cells := 0, slots := 0, locals := 0 } : Room).slots) (ef_rm_end20 m a) ?_
  show Goes p e below s _ _ _ (s₁.setTop (mkF m 0 #[.val (.ref a), .unset, .unset] []))
  refine Goes.pre (U' := s₁.setTop (mkF m 1 #[.val (.ref a), .unset, .unset] [(.ref a)])) (fun t k => XS.aloadN X0.here hx rfl (hb hby d4_0) rfl rfl k) ?_
  obtain ⟨T1, X1, e1, st1⟩ := getF X0 hx hZ hown (host := "") (Or.inl (hw _ (List.mem_of_getElem? (i := 17) rfl))) Via.refl e0 F_last_a (g := (mkF m 1 #[.val (.ref a), .unset, .unset] [(.ref a)])) rfl rfl (hb hby d4_1)
  refine Goes.pre (U' := T1.setTop (mkF m 4 #[.val (.ref a), .unset, .unset] [(.ref la)])) (fun t k => st1 t k) ?_
  obtain ⟨cl2, Ar2, q2, Sz2, Ng2, -, -⟩ := id V_la
  have ln2 := len_of Sz2 Ng2
  refine Goes.pre (U' := T1.setTop (mkF m 5 #[.val (.ref a), .unset, .unset] [(.int (2 : Int32))])) (fun t k => X1.arraylength hx (by rw [e1]; exact Ar2.1) (State.isArrayOf_alike hZ.alike Ar2.2.1) (g := (mkF m 4 #[.val (.ref a), .unset, .unset] [(.ref la)])) rfl rfl (hb hby d4_4) _ (by rw [ln2]; exact k)) ?_
  refine Goes.pre (U' := T1.setTop (mkF m 6 #[.val (.ref a), .val (.int (2 : Int32)), .unset] [])) (fun t k => XS.istoreN X1.here hx rfl (hb hby d4_5) rfl (l' := #[.val (.ref a), .val (.int (2 : Int32)), .unset]) rfl k) ?_
  refine Goes.pre (U' := T1.setTop (mkF m 7 #[.val (.ref a), .val (.int (2 : Int32)), .unset] [(.int (2 : Int32))])) (fun t k => XS.iloadN X1.here hx rfl (hb hby d4_6) rfl k) ?_
  have hc7 : (0 : Int32) < (2 : Int32) := by decide
  refine Goes.pre (U' := T1.setTop (mkF m 10 #[.val (.ref a), .val (.int (2 : Int32)), .unset] [])) (fun t k => XS.ifNo X1.here hx rfl (hb hby d4_7) rfl ((if0 _ _).trans (tlt hc7).2.2.2) k) ?_
  refine Goes.pre (U' := T1.setTop (mkF m 11 #[.val (.ref a), .val (.int (2 : Int32)), .unset] [(.ref a)])) (fun t k => XS.aloadN X1.here hx rfl (hb hby d4_10) rfl rfl k) ?_
  obtain ⟨T3, X3, e3, st3⟩ := getF X1 hx hZ hown (host := "") (Or.inl (hw _ (List.mem_of_getElem? (i := 17) rfl))) Via.refl e1 F_last_a (g := (mkF m 11 #[.val (.ref a), .val (.int (2 : Int32)), .unset] [(.ref a)])) rfl rfl (hb hby d4_11)
  refine Goes.pre (U' := T3.setTop (mkF m 14 #[.val (.ref a), .val (.int (2 : Int32)), .unset] [(.ref la)])) (fun t k => st3 t k) ?_
  refine Goes.pre (U' := T3.setTop (mkF m 15 #[.val (.ref a), .val (.int (2 : Int32)), .unset] [(.int (2 : Int32)), (.ref la)])) (fun t k => XS.iloadN X3.here hx rfl (hb hby d4_14) rfl k) ?_
  refine Goes.pre (U' := T3.setTop (mkF m 16 #[.val (.ref a), .val (.int (2 : Int32)), .unset] [(.int (1 : Int32)), (.int (2 : Int32)), (.ref la)])) (fun t k => XS.iconst X3.here hx rfl (hb hby d4_15) k) ?_
  refine Goes.pre (U' := T3.setTop (mkF m 17 #[.val (.ref a), .val (.int (2 : Int32)), .unset] [(.int ((2 : Int32) - (1 : Int32))), (.ref la)])) (fun t k => XS.isub X3.here hx rfl (hb hby d4_16) rfl k) ?_
  rw [(by decide : ((2 : Int32) - (1 : Int32)) = (1 : Int32))]
  obtain ⟨cl4, Ar4, q4, Sz4, Ng4, Hs4, Ft4⟩ := id V_la
  have hin4 := inb_of (j := (1 : Int32)) Sz4 ⟨by decide, by decide⟩
  refine Goes.pre (U' := T3.setTop (mkF m 18 #[.val (.ref a), .val (.int (2 : Int32)), .unset] [(.int b1)])) (fun t k => X3.baloadBytes hx (j := (1 : Int32)) (v := (.int b1)) (by rw [e3]; exact Ar4.1) (State.isArrayOf_alike hZ.alike Ar4.2.1) Ar4.2.2 hin4 (Has.at Hs4 hin4 rfl) (g := (mkF m 17 #[.val (.ref a), .val (.int (2 : Int32)), .unset] [(.int (1 : Int32)), (.ref la)])) rfl rfl (hb hby d4_17) _ k) ?_
  refine Goes.pre (U' := T3.setTop (mkF m 19 #[.val (.ref a), .val (.int (2 : Int32)), .unset] [(.int (-1 : Int32)), (.int b1)])) (fun t k => XS.iconst X3.here hx rfl (hb hby d4_18) k) ?_
  have hc19 : b1 = (-1 : Int32) := hq1
  refine Goes.pre (U' := T3.setTop (mkF m 22 #[.val (.ref a), .val (.int (2 : Int32)), .unset] [])) (fun t k => XS.icmpNo X3.here hx rfl (hb hby d4_19) rfl (teq hc19).2 k) ?_
  refine Goes.pre (U' := T3.setTop (mkF m 25 #[.val (.ref a), .val (.int ((2 : Int32) + (-1 : Int32))), .unset] [])) (fun t k => XT.iincV X3.here hx rfl (-1 : Int32) (hb hby d4_22) (by decide) rfl (l' := #[.val (.ref a), .val (.int ((2 : Int32) + (-1 : Int32))), .unset]) rfl k) ?_
  rw [(by decide : ((2 : Int32) + (-1 : Int32)) = (1 : Int32))]
  refine Goes.pre (U' := T3.setTop (mkF m 6 #[.val (.ref a), .val (.int (1 : Int32)), .unset] [])) (fun t k => XS.goto X3.here hx rfl (pc0 := 25) (pc' := 6) rfl (hb hby d4_25) (by decide) (by decide) k) ?_
  refine Goes.pre (U' := T3.setTop (mkF m 7 #[.val (.ref a), .val (.int (1 : Int32)), .unset] [(.int (1 : Int32))])) (fun t k => XS.iloadN X3.here hx rfl (hb hby d4_6) rfl k) ?_
  have hc7 : (0 : Int32) < (1 : Int32) := by decide
  refine Goes.pre (U' := T3.setTop (mkF m 10 #[.val (.ref a), .val (.int (1 : Int32)), .unset] [])) (fun t k => XS.ifNo X3.here hx rfl (hb hby d4_7) rfl ((if0 _ _).trans (tlt hc7).2.2.2) k) ?_
  refine Goes.pre (U' := T3.setTop (mkF m 11 #[.val (.ref a), .val (.int (1 : Int32)), .unset] [(.ref a)])) (fun t k => XS.aloadN X3.here hx rfl (hb hby d4_10) rfl rfl k) ?_
  obtain ⟨T5, X5, e5, st5⟩ := getF X3 hx hZ hown (host := "") (Or.inl (hw _ (List.mem_of_getElem? (i := 17) rfl))) Via.refl e3 F_last_a (g := (mkF m 11 #[.val (.ref a), .val (.int (1 : Int32)), .unset] [(.ref a)])) rfl rfl (hb hby d4_11)
  refine Goes.pre (U' := T5.setTop (mkF m 14 #[.val (.ref a), .val (.int (1 : Int32)), .unset] [(.ref la)])) (fun t k => st5 t k) ?_
  refine Goes.pre (U' := T5.setTop (mkF m 15 #[.val (.ref a), .val (.int (1 : Int32)), .unset] [(.int (1 : Int32)), (.ref la)])) (fun t k => XS.iloadN X5.here hx rfl (hb hby d4_14) rfl k) ?_
  refine Goes.pre (U' := T5.setTop (mkF m 16 #[.val (.ref a), .val (.int (1 : Int32)), .unset] [(.int (1 : Int32)), (.int (1 : Int32)), (.ref la)])) (fun t k => XS.iconst X5.here hx rfl (hb hby d4_15) k) ?_
  refine Goes.pre (U' := T5.setTop (mkF m 17 #[.val (.ref a), .val (.int (1 : Int32)), .unset] [(.int ((1 : Int32) - (1 : Int32))), (.ref la)])) (fun t k => XS.isub X5.here hx rfl (hb hby d4_16) rfl k) ?_
  rw [(by decide : ((1 : Int32) - (1 : Int32)) = (0 : Int32))]
  obtain ⟨cl6, Ar6, q6, Sz6, Ng6, Hs6, Ft6⟩ := id V_la
  have hin6 := inb_of (j := (0 : Int32)) Sz6 ⟨by decide, by decide⟩
  refine Goes.pre (U' := T5.setTop (mkF m 18 #[.val (.ref a), .val (.int (1 : Int32)), .unset] [(.int b0)])) (fun t k => X5.baloadBytes hx (j := (0 : Int32)) (v := (.int b0)) (by rw [e5]; exact Ar6.1) (State.isArrayOf_alike hZ.alike Ar6.2.1) Ar6.2.2 hin6 (Has.at Hs6 hin6 rfl) (g := (mkF m 17 #[.val (.ref a), .val (.int (1 : Int32)), .unset] [(.int (0 : Int32)), (.ref la)])) rfl rfl (hb hby d4_17) _ k) ?_
  refine Goes.pre (U' := T5.setTop (mkF m 19 #[.val (.ref a), .val (.int (1 : Int32)), .unset] [(.int (-1 : Int32)), (.int b0)])) (fun t k => XS.iconst X5.here hx rfl (hb hby d4_18) k) ?_
  have hc19 : b0 = (-1 : Int32) := hq0
  refine Goes.pre (U' := T5.setTop (mkF m 22 #[.val (.ref a), .val (.int (1 : Int32)), .unset] [])) (fun t k => XS.icmpNo X5.here hx rfl (hb hby d4_19) rfl (teq hc19).2 k) ?_
  refine Goes.pre (U' := T5.setTop (mkF m 25 #[.val (.ref a), .val (.int ((1 : Int32) + (-1 : Int32))), .unset] [])) (fun t k => XT.iincV X5.here hx rfl (-1 : Int32) (hb hby d4_22) (by decide) rfl (l' := #[.val (.ref a), .val (.int ((1 : Int32) + (-1 : Int32))), .unset]) rfl k) ?_
  rw [(by decide : ((1 : Int32) + (-1 : Int32)) = (0 : Int32))]
  refine Goes.pre (U' := T5.setTop (mkF m 6 #[.val (.ref a), .val (.int (0 : Int32)), .unset] [])) (fun t k => XS.goto X5.here hx rfl (pc0 := 25) (pc' := 6) rfl (hb hby d4_25) (by decide) (by decide) k) ?_
  refine Goes.pre (U' := T5.setTop (mkF m 7 #[.val (.ref a), .val (.int (0 : Int32)), .unset] [(.int (0 : Int32))])) (fun t k => XS.iloadN X5.here hx rfl (hb hby d4_6) rfl k) ?_
  have hc7 : ¬ ((0 : Int32) < (0 : Int32)) := by decide
  refine Goes.pre (U' := T5.setTop (mkF m 28 #[.val (.ref a), .val (.int (0 : Int32)), .unset] [])) (fun t k => XS.ifYes X5.here hx rfl (pc0 := 7) (pc' := 28) rfl (hb hby d4_7) rfl ((if0 _ _).trans (flt hc7).2.2.2) (by decide) (by decide) k) ?_
  refine Goes.pre (U' := T5.setTop (mkF m 29 #[.val (.ref a), .val (.int (0 : Int32)), .unset] [(.int (0 : Int32))])) (fun t k => XS.iloadN X5.here hx rfl (hb hby d4_28) rfl k) ?_
  have hc29 : (0 : Int32) = (0 : Int32) := rfl
  refine Goes.pre (U' := T5.setTop (mkF m 32 #[.val (.ref a), .val (.int (0 : Int32)), .unset] [])) (fun t k => XS.ifNo X5.here hx rfl (hb hby d4_29) rfl ((if0 _ _).trans (teq hc29).2) k) ?_
  refine Goes.pre (U' := T5.setTop (mkF m 33 #[.val (.ref a), .val (.int (0 : Int32)), .unset] [.null])) (fun t k => XS.aconstNull X5.here hx rfl (hb hby d4_32) k) ?_
  refine Goes.ret X5 (v := (some .null)) (fun h => by rw [Bd.returns] at h; cases h) Bd.notSynchronized (by decide) (by decide) e5 (fun fs hr => retOut X5 hx Bd.returns rfl (Or.inr (Or.inr (Or.inr (Or.inr ⟨rfl, rfl, rfl⟩)))) (hb hby d4_33) hr) ?_
  exact ⟨rfl, N0, K0⟩
theorem ef_rm_end21 (m : MethodId) (x0 : Addr) : entryFrame m #[(.ref x0)] 3 = mkF m 0 #[.val (.ref x0), .unset, .unset] [] := by first | (simp [entryFrame, mkF, argsToLocals, Value.category]; done) | rfl
def Q_rm_end21 (Z : State) (a la : Addr) (kc : ClassId) (b0 b1 : Int32) (h0 : Heap) (n0 : Nat) (v : Option Value) (h : Heap) (L : List Loc) : Prop := ∃ (r : Addr) (kr : ClassId), v = some (.ref r) ∧ Fr n0 L ∧ Keep h0 h [] ∧ Arv Z h r kr .byte (1 : Int32) [(.int ((b0 + (1 : Int32)).toInt8.toInt32))] (.int (0 : Int32)) ∧ n0 ≤ r ∧ h0.size ≤ r
set_option maxRecDepth 65536 in
set_option maxHeartbeats 40000000 in
theorem rm_end21 (l : Launch) (Z : State) (a0 : Array Value) (hw : ∀ d ∈ tables_1, d.before a0 Z = true) (ws : List Jvm.Cond) (a la : Addr) (kc : ClassId) (b0 b1 : Int32) (h0 : Heap) (n0 : Nat) (Z0 : n0 ≤ h0.size) (F_last_a : Fld Z h0 a "com/example/known_paths/knownpaths/key/KeyRange" "last" "[B" (.ref la)) (E_la : Exa Z h0 la "[B") (V_la : Arv Z h0 la kc .byte (2 : Int32) [(.int b0), (.int b1)] (.int (0 : Int32))) (hq1 : b1 = (-1 : Int32)) (hk : ¬ (b0 = (-1 : Int32))) :
    MetFree l (⟨"com/example/known_paths/knownpaths/key/KeyRange", "end", "()[B"⟩ : MethodName) (head1 (Jvm.Cond.code (⟨"com/example/known_paths/knownpaths/key/KeyRange", "end", "()[B"⟩ : MethodName) prog_10_method_4_code 3 (some (.array .byte)) :: ws) ({ frames := 2, cells := 1, slots := 1, locals := 32 } : Room)) (fun argv U => argv = #[(.ref a)] ∧ Z.Warmed39 U.vm ∧ U.heap = h0) (fun _ _ _ _ _ => True) (fun _ U o U' => ∃ v L, o = .returned v ∧ Q_rm_end21 Z a la kc b0 b1 h0 n0 v U'.heap L ∧ FrameEnd U o U' L ({ frames := 2, cells := 1, slots := 1, locals := 32 } : Room).cells ({ frames := 2, cells := 1, slots := 1, locals := 32 } : Room).slots) := by
  refine MetFree.of_bodySF (plainFor_of_name pn_com_example_known_paths_knownpaths_key_KeyRange) hisR ?_
  intro p e s m args below meth c s₁ Bd hml0 hP hK
  obtain ⟨rfl, hZ, hh⟩ := hP
  have hx := Bd.exec
  have hby := Bd.bytes
  have hml : c.maxLocals = 3 := hml0
  have hown : s.vm.findClass "com/example/known_paths/knownpaths/key/KeyRange" = some m.cls := findClass_of_methodNamed Bd.named
  have hnm := (name_of_methodNamed Bd.named Bd.method).1
  have X0 : Stand p l e ({ frames := 2, cells := 1, slots := 1, locals := 32 } : Room) s m #[(.ref a)] below meth c s₁ [] 0 0 := Stand.of_body Bd
  have e0 : s₁.heap = h0 := by rw [← hh, Bd.state]; rfl
  have N0 := Fr.nil n0
  have K0 := Keep.refl h0 []
  refine Goes.enter (Q := fun v h L => Q_rm_end21 Z a la kc b0 b1 h0 n0 v h L) (C := ({ frames := 2, cells := 1, slots := 1, locals := 32 } : Room).cells) (S := ({ frames := 2, cells := 1, slots := 1, locals := 32 } : Room).slots) (ef_rm_end21 m a) ?_
  show Goes p e below s _ _ _ (s₁.setTop (mkF m 0 #[.val (.ref a), .unset, .unset] []))
  refine Goes.pre (U' := s₁.setTop (mkF m 1 #[.val (.ref a), .unset, .unset] [(.ref a)])) (fun t k => XS.aloadN X0.here hx rfl (hb hby d4_0) rfl rfl k) ?_
  obtain ⟨T1, X1, e1, st1⟩ := getF X0 hx hZ hown (host := "") (Or.inl (hw _ (List.mem_of_getElem? (i := 17) rfl))) Via.refl e0 F_last_a (g := (mkF m 1 #[.val (.ref a), .unset, .unset] [(.ref a)])) rfl rfl (hb hby d4_1)
  refine Goes.pre (U' := T1.setTop (mkF m 4 #[.val (.ref a), .unset, .unset] [(.ref la)])) (fun t k => st1 t k) ?_
  obtain ⟨cl2, Ar2, q2, Sz2, Ng2, -, -⟩ := id V_la
  have ln2 := len_of Sz2 Ng2
  refine Goes.pre (U' := T1.setTop (mkF m 5 #[.val (.ref a), .unset, .unset] [(.int (2 : Int32))])) (fun t k => X1.arraylength hx (by rw [e1]; exact Ar2.1) (State.isArrayOf_alike hZ.alike Ar2.2.1) (g := (mkF m 4 #[.val (.ref a), .unset, .unset] [(.ref la)])) rfl rfl (hb hby d4_4) _ (by rw [ln2]; exact k)) ?_
  refine Goes.pre (U' := T1.setTop (mkF m 6 #[.val (.ref a), .val (.int (2 : Int32)), .unset] [])) (fun t k => XS.istoreN X1.here hx rfl (hb hby d4_5) rfl (l' := #[.val (.ref a), .val (.int (2 : Int32)), .unset]) rfl k) ?_
  refine Goes.pre (U' := T1.setTop (mkF m 7 #[.val (.ref a), .val (.int (2 : Int32)), .unset] [(.int (2 : Int32))])) (fun t k => XS.iloadN X1.here hx rfl (hb hby d4_6) rfl k) ?_
  have hc7 : (0 : Int32) < (2 : Int32) := by decide
  refine Goes.pre (U' := T1.setTop (mkF m 10 #[.val (.ref a), .val (.int (2 : Int32)), .unset] [])) (fun t k => XS.ifNo X1.here hx rfl (hb hby d4_7) rfl ((if0 _ _).trans (tlt hc7).2.2.2) k) ?_
  refine Goes.pre (U' := T1.setTop (mkF m 11 #[.val (.ref a), .val (.int (2 : Int32)), .unset] [(.ref a)])) (fun t k => XS.aloadN X1.here hx rfl (hb hby d4_10) rfl rfl k) ?_
  obtain ⟨T3, X3, e3, st3⟩ := getF X1 hx hZ hown (host := "") (Or.inl (hw _ (List.mem_of_getElem? (i := 17) rfl))) Via.refl e1 F_last_a (g := (mkF m 11 #[.val (.ref a), .val (.int (2 : Int32)), .unset] [(.ref a)])) rfl rfl (hb hby d4_11)
  refine Goes.pre (U' := T3.setTop (mkF m 14 #[.val (.ref a), .val (.int (2 : Int32)), .unset] [(.ref la)])) (fun t k => st3 t k) ?_
  refine Goes.pre (U' := T3.setTop (mkF m 15 #[.val (.ref a), .val (.int (2 : Int32)), .unset] [(.int (2 : Int32)), (.ref la)])) (fun t k => XS.iloadN X3.here hx rfl (hb hby d4_14) rfl k) ?_
  refine Goes.pre (U' := T3.setTop (mkF m 16 #[.val (.ref a), .val (.int (2 : Int32)), .unset] [(.int (1 : Int32)), (.int (2 : Int32)), (.ref la)])) (fun t k => XS.iconst X3.here hx rfl (hb hby d4_15) k) ?_
  refine Goes.pre (U' := T3.setTop (mkF m 17 #[.val (.ref a), .val (.int (2 : Int32)), .unset] [(.int ((2 : Int32) - (1 : Int32))), (.ref la)])) (fun t k => XS.isub X3.here hx rfl (hb hby d4_16) rfl k) ?_
  rw [(by decide : ((2 : Int32) - (1 : Int32)) = (1 : Int32))]
  obtain ⟨cl4, Ar4, q4, Sz4, Ng4, Hs4, Ft4⟩ := id V_la
  have hin4 := inb_of (j := (1 : Int32)) Sz4 ⟨by decide, by decide⟩
  refine Goes.pre (U' := T3.setTop (mkF m 18 #[.val (.ref a), .val (.int (2 : Int32)), .unset] [(.int b1)])) (fun t k => X3.baloadBytes hx (j := (1 : Int32)) (v := (.int b1)) (by rw [e3]; exact Ar4.1) (State.isArrayOf_alike hZ.alike Ar4.2.1) Ar4.2.2 hin4 (Has.at Hs4 hin4 rfl) (g := (mkF m 17 #[.val (.ref a), .val (.int (2 : Int32)), .unset] [(.int (1 : Int32)), (.ref la)])) rfl rfl (hb hby d4_17) _ k) ?_
  refine Goes.pre (U' := T3.setTop (mkF m 19 #[.val (.ref a), .val (.int (2 : Int32)), .unset] [(.int (-1 : Int32)), (.int b1)])) (fun t k => XS.iconst X3.here hx rfl (hb hby d4_18) k) ?_
  have hc19 : b1 = (-1 : Int32) := hq1
  refine Goes.pre (U' := T3.setTop (mkF m 22 #[.val (.ref a), .val (.int (2 : Int32)), .unset] [])) (fun t k => XS.icmpNo X3.here hx rfl (hb hby d4_19) rfl (teq hc19).2 k) ?_
  refine Goes.pre (U' := T3.setTop (mkF m 25 #[.val (.ref a), .val (.int ((2 : Int32) + (-1 : Int32))), .unset] [])) (fun t k => XT.iincV X3.here hx rfl (-1 : Int32) (hb hby d4_22) (by decide) rfl (l' := #[.val (.ref a), .val (.int ((2 : Int32) + (-1 : Int32))), .unset]) rfl k) ?_
  rw [(by decide : ((2 : Int32) + (-1 : Int32)) = (1 : Int32))]
  refine Goes.pre (U' := T3.setTop (mkF m 6 #[.val (.ref a), .val (.int (1 : Int32)), .unset] [])) (fun t k => XS.goto X3.here hx rfl (pc0 := 25) (pc' := 6) rfl (hb hby d4_25) (by decide) (by decide) k) ?_
  refine Goes.pre (U' := T3.setTop (mkF m 7 #[.val (.ref a), .val (.int (1 : Int32)), .unset] [(.int (1 : Int32))])) (fun t k => XS.iloadN X3.here hx rfl (hb hby d4_6) rfl k) ?_
  have hc7 : (0 : Int32) < (1 : Int32) := by decide
  refine Goes.pre (U' := T3.setTop (mkF m 10 #[.val (.ref a), .val (.int (1 : Int32)), .unset] [])) (fun t k => XS.ifNo X3.here hx rfl (hb hby d4_7) rfl ((if0 _ _).trans (tlt hc7).2.2.2) k) ?_
  refine Goes.pre (U' := T3.setTop (mkF m 11 #[.val (.ref a), .val (.int (1 : Int32)), .unset] [(.ref a)])) (fun t k => XS.aloadN X3.here hx rfl (hb hby d4_10) rfl rfl k) ?_
  obtain ⟨T5, X5, e5, st5⟩ := getF X3 hx hZ hown (host := "") (Or.inl (hw _ (List.mem_of_getElem? (i := 17) rfl))) Via.refl e3 F_last_a (g := (mkF m 11 #[.val (.ref a), .val (.int (1 : Int32)), .unset] [(.ref a)])) rfl rfl (hb hby d4_11)
  refine Goes.pre (U' := T5.setTop (mkF m 14 #[.val (.ref a), .val (.int (1 : Int32)), .unset] [(.ref la)])) (fun t k => st5 t k) ?_
  refine Goes.pre (U' := T5.setTop (mkF m 15 #[.val (.ref a), .val (.int (1 : Int32)), .unset] [(.int (1 : Int32)), (.ref la)])) (fun t k => XS.iloadN X5.here hx rfl (hb hby d4_14) rfl k) ?_
  refine Goes.pre (U' := T5.setTop (mkF m 16 #[.val (.ref a), .val (.int (1 : Int32)), .unset] [(.int (1 : Int32)), (.int (1 : Int32)), (.ref la)])) (fun t k => XS.iconst X5.here hx rfl (hb hby d4_15) k) ?_
  refine Goes.pre (U' := T5.setTop (mkF m 17 #[.val (.ref a), .val (.int (1 : Int32)), .unset] [(.int ((1 : Int32) - (1 : Int32))), (.ref la)])) (fun t k => XS.isub X5.here hx rfl (hb hby d4_16) rfl k) ?_
  rw [(by decide : ((1 : Int32) - (1 : Int32)) = (0 : Int32))]
  obtain ⟨cl6, Ar6, q6, Sz6, Ng6, Hs6, Ft6⟩ := id V_la
  have hin6 := inb_of (j := (0 : Int32)) Sz6 ⟨by decide, by decide⟩
  refine Goes.pre (U' := T5.setTop (mkF m 18 #[.val (.ref a), .val (.int (1 : Int32)), .unset] [(.int b0)])) (fun t k => X5.baloadBytes hx (j := (0 : Int32)) (v := (.int b0)) (by rw [e5]; exact Ar6.1) (State.isArrayOf_alike hZ.alike Ar6.2.1) Ar6.2.2 hin6 (Has.at Hs6 hin6 rfl) (g := (mkF m 17 #[.val (.ref a), .val (.int (1 : Int32)), .unset] [(.int (0 : Int32)), (.ref la)])) rfl rfl (hb hby d4_17) _ k) ?_
  refine Goes.pre (U' := T5.setTop (mkF m 19 #[.val (.ref a), .val (.int (1 : Int32)), .unset] [(.int (-1 : Int32)), (.int b0)])) (fun t k => XS.iconst X5.here hx rfl (hb hby d4_18) k) ?_
  have hc19 : ¬ (b0 = (-1 : Int32)) := hk
  refine Goes.pre (U' := T5.setTop (mkF m 28 #[.val (.ref a), .val (.int (1 : Int32)), .unset] [])) (fun t k => XS.icmpYes X5.here hx rfl (pc0 := 19) (pc' := 28) rfl (hb hby d4_19) rfl (feq hc19).2 (by decide) (by decide) k) ?_
  refine Goes.pre (U' := T5.setTop (mkF m 29 #[.val (.ref a), .val (.int (1 : Int32)), .unset] [(.int (1 : Int32))])) (fun t k => XS.iloadN X5.here hx rfl (hb hby d4_28) rfl k) ?_
  have hc29 : ¬ ((1 : Int32) = (0 : Int32)) := by decide
  refine Goes.pre (U' := T5.setTop (mkF m 34 #[.val (.ref a), .val (.int (1 : Int32)), .unset] [])) (fun t k => XS.ifYes X5.here hx rfl (pc0 := 29) (pc' := 34) rfl (hb hby d4_29) rfl ((if0 _ _).trans (feq hc29).2) (by decide) (by decide) k) ?_
  refine Goes.pre (U' := T5.setTop (mkF m 35 #[.val (.ref a), .val (.int (1 : Int32)), .unset] [(.ref a)])) (fun t k => XS.aloadN X5.here hx rfl (hb hby d4_34) rfl rfl k) ?_
  obtain ⟨T7, X7, e7, st7⟩ := getF X5 hx hZ hown (host := "") (Or.inl (hw _ (List.mem_of_getElem? (i := 17) rfl))) Via.refl e5 F_last_a (g := (mkF m 35 #[.val (.ref a), .val (.int (1 : Int32)), .unset] [(.ref a)])) rfl rfl (hb hby d4_35)
  refine Goes.pre (U' := T7.setTop (mkF m 38 #[.val (.ref a), .val (.int (1 : Int32)), .unset] [(.ref la)])) (fun t k => st7 t k) ?_
  refine Goes.pre (U' := T7.setTop (mkF m 39 #[.val (.ref a), .val (.int (1 : Int32)), .unset] [(.int (1 : Int32)), (.ref la)])) (fun t k => XS.iloadN X7.here hx rfl (hb hby d4_38) rfl k) ?_
  have lt_a := F_last_a.lt
  have lt_la := E_la.lt
  obtain ⟨_, _, ⟨T8, L8, k8, n8⟩, -, X8, ⟨Lc8, hQ8, l8, y8, z8⟩, st8⟩ := Jvm.LawKit.callS X7 hx (y := (⟨"java/util/Arrays", "copyOf", "([BI)[B"⟩ : MethodName)) hown (mvT hZ (hw _ (List.mem_of_getElem? (i := 24) rfl))) (mvT hZ (hw _ (List.mem_of_getElem? (i := 25) rfl))) (mvT hZ (hw _ (List.mem_of_getElem? (i := 26) rfl))) (mvT hZ (hw _ (List.mem_of_getElem? (i := 27) rfl))) (by decide) (backOf (W := 0) (rm_copy21 l Z a0 hw [] la kc b0 b1 h0 n0 Z0 E_la V_la) hZ (hw _ (List.mem_of_getElem? (i := 27) rfl)) (hw _ (List.mem_of_getElem? (i := 26) rfl)) (by decide) (by decide)) (g := (mkF m 39 #[.val (.ref a), .val (.int (1 : Int32)), .unset] [(.int (1 : Int32)), (.ref la)])) rfl (by rw [hml]; rfl) (argsL := [(.ref la), (.int (1 : Int32))]) (rest := []) (lenOf pd__28_5bBI_29_5bB rfl) rfl (by show 2 * 0 + _ ≤ _; exact Nat.le_of_eq rfl) (hb hby d4_39) (fun _ _ => ⟨rfl, e7, (by decide : 0 + 1 ≤ _), (by decide : 0 + 1 ≤ _)⟩)
  dsimp only [Pt.U, Pt.locs, Pt.cells, Pt.slots] at X8 l8 y8 z8 st8 hQ8
  subst l8 y8 z8
  obtain ⟨r, kr, rfl, N8q, KQ8, E_r, V_r, g_r, sz_r0⟩ := hQ8
  have N8 := Fr.app N0 N8q
  have F_last_a := F_last_a.keep KQ8 nin0
  have E_la := E_la.keep KQ8
  have V_la := V_la.keep KQ8 nin0
  have Z9 : n0 ≤ T8.heap.size := Nat.le_trans Z0 KQ8.1
  have K9 := K0.trans KQ8 all0
  have ne_a_r : a ≠ r := Nat.ne_of_lt (Nat.lt_of_lt_of_le lt_a (by exact sz_r0))
  have ne_r_a := ne_a_r.symm
  have ne_la_r : la ≠ r := Nat.ne_of_lt (Nat.lt_of_lt_of_le lt_la (by exact sz_r0))
  have ne_r_la := ne_la_r.symm
  have sz_r : h0.size ≤ r := Nat.le_trans K0.1 sz_r0
  refine Goes.pre (U' := T8.setTop (mkF m 42 #[.val (.ref a), .val (.int (1 : Int32)), .unset] [(.ref r)])) (fun t k => st8 t k) ?_
  refine Goes.pre (U' := T8.setTop (mkF m 43 #[.val (.ref a), .val (.int (1 : Int32)), .val (.ref r)] [])) (fun t k => XS.astoreN X8.here hx rfl (hb hby d4_42) rfl rfl (l' := #[.val (.ref a), .val (.int (1 : Int32)), .val (.ref r)]) rfl k) ?_
  refine Goes.pre (U' := T8.setTop (mkF m 44 #[.val (.ref a), .val (.int (1 : Int32)), .val (.ref r)] [(.ref r)])) (fun t k => XS.aloadN X8.here hx rfl (hb hby d4_43) rfl rfl k) ?_
  refine Goes.pre (U' := T8.setTop (mkF m 45 #[.val (.ref a), .val (.int (1 : Int32)), .val (.ref r)] [(.int (1 : Int32)), (.ref r)])) (fun t k => XS.iloadN X8.here hx rfl (hb hby d4_44) rfl k) ?_
  refine Goes.pre (U' := T8.setTop (mkF m 46 #[.val (.ref a), .val (.int (1 : Int32)), .val (.ref r)] [(.int (1 : Int32)), (.int (1 : Int32)), (.ref r)])) (fun t k => XS.iconst X8.here hx rfl (hb hby d4_45) k) ?_
  refine Goes.pre (U' := T8.setTop (mkF m 47 #[.val (.ref a), .val (.int (1 : Int32)), .val (.ref r)] [(.int ((1 : Int32) - (1 : Int32))), (.ref r)])) (fun t k => XS.isub X8.here hx rfl (hb hby d4_46) rfl k) ?_
  rw [(by decide : ((1 : Int32) - (1 : Int32)) = (0 : Int32))]
  refine Goes.pre (U' := T8.setTop (mkF m 48 #[.val (.ref a), .val (.int (1 : Int32)), .val (.ref r)] [(.int (0 : Int32)), (.ref r), (.int (0 : Int32)), (.ref r)])) (fun t k => XT.dup2 X8.here hx rfl (hb hby d4_47) rfl rfl rfl k) ?_
  obtain ⟨cl10, Ar10, q10, Sz10, Ng10, Hs10, Ft10⟩ := id V_r
  have hin10 := inb_of (j := (0 : Int32)) Sz10 ⟨by decide, by decide⟩
  refine Goes.pre (U' := T8.setTop (mkF m 49 #[.val (.ref a), .val (.int (1 : Int32)), .val (.ref r)] [(.int b0), (.int (0 : Int32)), (.ref r)])) (fun t k => X8.baloadBytes hx (j := (0 : Int32)) (v := (.int b0)) Ar10.1 (State.isArrayOf_alike hZ.alike Ar10.2.1) Ar10.2.2 hin10 (Has.at Hs10 hin10 rfl) (g := (mkF m 48 #[.val (.ref a), .val (.int (1 : Int32)), .val (.ref r)] [(.int (0 : Int32)), (.ref r), (.int (0 : Int32)), (.ref r)])) rfl rfl (hb hby d4_48) _ k) ?_
  refine Goes.pre (U' := T8.setTop (mkF m 50 #[.val (.ref a), .val (.int (1 : Int32)), .val (.ref r)] [(.int (1 : Int32)), (.int b0), (.int (0 : Int32)), (.ref r)])) (fun t k => XS.iconst X8.here hx rfl (hb hby d4_49) k) ?_
  refine Goes.pre (U' := T8.setTop (mkF m 51 #[.val (.ref a), .val (.int (1 : Int32)), .val (.ref r)] [(.int (b0 + (1 : Int32))), (.int (0 : Int32)), (.ref r)])) (fun t k => XS.iadd X8.here hx rfl (hb hby d4_50) rfl k) ?_
  refine Goes.pre (U' := T8.setTop (mkF m 52 #[.val (.ref a), .val (.int (1 : Int32)), .val (.ref r)] [(.int ((b0 + (1 : Int32)).toInt8.toInt32)), (.int (0 : Int32)), (.ref r)])) (fun t k => XS.i2b X8.here hx rfl (hb hby d4_51) rfl k) ?_
  obtain ⟨cl11, Ar11, q11, Sz11, Ng11, Hs11, Ft11⟩ := id V_r
  obtain ⟨T11, h11, X11, e11, W11, st11⟩ := stB X8 hx hZ rfl Ar11 (j := (0 : Int32)) (inb_of Sz11 ⟨by decide, by decide⟩) (g := (mkF m 52 #[.val (.ref a), .val (.int (1 : Int32)), .val (.ref r)] [(.int ((b0 + (1 : Int32)).toInt8.toInt32)), (.int (0 : Int32)), (.ref r)])) rfl rfl (hb hby d4_52)
  have nr11 : nar .byte ((b0 + (1 : Int32)).toInt8.toInt32) = ((b0 + (1 : Int32)).toInt8.toInt32) := own_bb _
  have ft11 : fits .byte (.int ((b0 + (1 : Int32)).toInt8.toInt32)) = true := nr11 ▸ (fits_nar_byte ((b0 + (1 : Int32)).toInt8.toInt32) : fits .byte (.int (nar .byte ((b0 + (1 : Int32)).toInt8.toInt32))) = true)
  rw [nr11] at W11
  have F_last_a := F_last_a.other W11 (Or.inl ne_a_r)
  have E_la := E_la.wr W11
  have V_la := V_la.other W11 ne_la_r
  have E_r := E_r.wr W11
  have Z11 : n0 ≤ h11.size := Nat.le_trans Z9 (Keep.of_wr W11).1
  have V_r : Arv Z h11 r kr .byte (1 : Int32) [(.int ((b0 + (1 : Int32)).toInt8.toInt32))] (.int (0 : Int32)) := Arv.set Ar11 q11 Sz11 Ng11 Hs11 Ft11 ft11 W11 0 rfl (Nat.le_of_ble_eq_true rfl)
  have K11 := K9.wr W11 (Or.inr sz_r)
  have N11 := Fr.snoc X11 N8 g_r
  refine Goes.pre (U' := T11.setTop (mkF m 53 #[.val (.ref a), .val (.int (1 : Int32)), .val (.ref r)] [])) (fun t k => st11 t k) ?_
  refine Goes.pre (U' := T11.setTop (mkF m 54 #[.val (.ref a), .val (.int (1 : Int32)), .val (.ref r)] [(.ref r)])) (fun t k => XS.aloadN X11.here hx rfl (hb hby d4_53) rfl rfl k) ?_
  refine Goes.ret X11 (v := (some (.ref r))) (fun h => by rw [Bd.returns] at h; cases h) Bd.notSynchronized (by decide) (by decide) e11 (fun fs hr => retOut X11 hx Bd.returns rfl (Or.inr (Or.inr (Or.inr (Or.inr ⟨rfl, rfl, rfl⟩)))) (hb hby d4_54) hr) ?_
  exact ⟨r, kr, rfl, N11, K11, V_r, g_r, sz_r⟩
theorem ef_rm_end22 (m : MethodId) (x0 : Addr) : entryFrame m #[(.ref x0)] 3 = mkF m 0 #[.val (.ref x0), .unset, .unset] [] := by first | (simp [entryFrame, mkF, argsToLocals, Value.category]; done) | rfl
def Q_rm_end22 (Z : State) (a la : Addr) (kc : ClassId) (b0 b1 : Int32) (h0 : Heap) (n0 : Nat) (v : Option Value) (h : Heap) (L : List Loc) : Prop := ∃ (r : Addr) (kr : ClassId), v = some (.ref r) ∧ Fr n0 L ∧ Keep h0 h [] ∧ Arv Z h r kr .byte (2 : Int32) [(.int b0), (.int ((b1 + (1 : Int32)).toInt8.toInt32))] (.int (0 : Int32)) ∧ n0 ≤ r ∧ h0.size ≤ r
set_option maxRecDepth 65536 in
set_option maxHeartbeats 40000000 in
theorem rm_end22 (l : Launch) (Z : State) (a0 : Array Value) (hw : ∀ d ∈ tables_1, d.before a0 Z = true) (ws : List Jvm.Cond) (a la : Addr) (kc : ClassId) (b0 b1 : Int32) (h0 : Heap) (n0 : Nat) (Z0 : n0 ≤ h0.size) (F_last_a : Fld Z h0 a "com/example/known_paths/knownpaths/key/KeyRange" "last" "[B" (.ref la)) (E_la : Exa Z h0 la "[B") (V_la : Arv Z h0 la kc .byte (2 : Int32) [(.int b0), (.int b1)] (.int (0 : Int32))) (hk : ¬ (b1 = (-1 : Int32))) :
    MetFree l (⟨"com/example/known_paths/knownpaths/key/KeyRange", "end", "()[B"⟩ : MethodName) (head1 (Jvm.Cond.code (⟨"com/example/known_paths/knownpaths/key/KeyRange", "end", "()[B"⟩ : MethodName) prog_10_method_4_code 3 (some (.array .byte)) :: ws) ({ frames := 2, cells := 1, slots := 2, locals := 28 } : Room)) (fun argv U => argv = #[(.ref a)] ∧ Z.Warmed39 U.vm ∧ U.heap = h0) (fun _ _ _ _ _ => True) (fun _ U o U' => ∃ v L, o = .returned v ∧ Q_rm_end22 Z a la kc b0 b1 h0 n0 v U'.heap L ∧ FrameEnd U o U' L ({ frames := 2, cells := 1, slots := 2, locals := 28 } : Room).cells ({ frames := 2, cells := 1, slots := 2, locals := 28 } : Room).slots) := by
  refine MetFree.of_bodySF (plainFor_of_name pn_com_example_known_paths_knownpaths_key_KeyRange) hisR ?_
  intro p e s m args below meth c s₁ Bd hml0 hP hK
  obtain ⟨rfl, hZ, hh⟩ := hP
  have hx := Bd.exec
  have hby := Bd.bytes
  have hml : c.maxLocals = 3 := hml0
  have hown : s.vm.findClass "com/example/known_paths/knownpaths/key/KeyRange" = some m.cls := findClass_of_methodNamed Bd.named
  have hnm := (name_of_methodNamed Bd.named Bd.method).1
  have X0 : Stand p l e ({ frames := 2, cells := 1, slots := 2, locals := 28 } : Room) s m #[(.ref a)] below meth c s₁ [] 0 0 := Stand.of_body Bd
  have e0 : s₁.heap = h0 := by rw [← hh, Bd.state]; rfl
  have N0 := Fr.nil n0
  have K0 := Keep.refl h0 []
  refine Goes.enter (Q := fun v h L => Q_rm_end22 Z a la kc b0 b1 h0 n0 v h L) (C := ({ frames := 2, cells := 1, slots := 2, locals := 28 } : Room).cells) (S := ({ frames := 2, cells := 1, slots := 2, locals := 28 } : Room).slots) (ef_rm_end22 m a) ?_
  show Goes p e below s _ _ _ (s₁.setTop (mkF m 0 #[.val (.ref a), .unset, .unset] []))
  refine Goes.pre (U' := s₁.setTop (mkF m 1 #[.val (.ref a), .unset, .unset] [(.ref a)])) (fun t k => XS.aloadN X0.here hx rfl (hb hby d4_0) rfl rfl k) ?_
  obtain ⟨T1, X1, e1, st1⟩ := getF X0 hx hZ hown (host := "") (Or.inl (hw _ (List.mem_of_getElem? (i := 17) rfl))) Via.refl e0 F_last_a (g := (mkF m 1 #[.val (.ref a), .unset, .unset] [(.ref a)])) rfl rfl (hb hby d4_1)
  refine Goes.pre (U' := T1.setTop (mkF m 4 #[.val (.ref a), .unset, .unset] [(.ref la)])) (fun t k => st1 t k) ?_
  obtain ⟨cl2, Ar2, q2, Sz2, Ng2, -, -⟩ := id V_la
  have ln2 := len_of Sz2 Ng2
  refine Goes.pre (U' := T1.setTop (mkF m 5 #[.val (.ref a), .unset, .unset] [(.int (2 : Int32))])) (fun t k => X1.arraylength hx (by rw [e1]; exact Ar2.1) (State.isArrayOf_alike hZ.alike Ar2.2.1) (g := (mkF m 4 #[.val (.ref a), .unset, .unset] [(.ref la)])) rfl rfl (hb hby d4_4) _ (by rw [ln2]; exact k)) ?_
  refine Goes.pre (U' := T1.setTop (mkF m 6 #[.val (.ref a), .val (.int (2 : Int32)), .unset] [])) (fun t k => XS.istoreN X1.here hx rfl (hb hby d4_5) rfl (l' := #[.val (.ref a), .val (.int (2 : Int32)), .unset]) rfl k) ?_
  refine Goes.pre (U' := T1.setTop (mkF m 7 #[.val (.ref a), .val (.int (2 : Int32)), .unset] [(.int (2 : Int32))])) (fun t k => XS.iloadN X1.here hx rfl (hb hby d4_6) rfl k) ?_
  have hc7 : (0 : Int32) < (2 : Int32) := by decide
  refine Goes.pre (U' := T1.setTop (mkF m 10 #[.val (.ref a), .val (.int (2 : Int32)), .unset] [])) (fun t k => XS.ifNo X1.here hx rfl (hb hby d4_7) rfl ((if0 _ _).trans (tlt hc7).2.2.2) k) ?_
  refine Goes.pre (U' := T1.setTop (mkF m 11 #[.val (.ref a), .val (.int (2 : Int32)), .unset] [(.ref a)])) (fun t k => XS.aloadN X1.here hx rfl (hb hby d4_10) rfl rfl k) ?_
  obtain ⟨T3, X3, e3, st3⟩ := getF X1 hx hZ hown (host := "") (Or.inl (hw _ (List.mem_of_getElem? (i := 17) rfl))) Via.refl e1 F_last_a (g := (mkF m 11 #[.val (.ref a), .val (.int (2 : Int32)), .unset] [(.ref a)])) rfl rfl (hb hby d4_11)
  refine Goes.pre (U' := T3.setTop (mkF m 14 #[.val (.ref a), .val (.int (2 : Int32)), .unset] [(.ref la)])) (fun t k => st3 t k) ?_
  refine Goes.pre (U' := T3.setTop (mkF m 15 #[.val (.ref a), .val (.int (2 : Int32)), .unset] [(.int (2 : Int32)), (.ref la)])) (fun t k => XS.iloadN X3.here hx rfl (hb hby d4_14) rfl k) ?_
  refine Goes.pre (U' := T3.setTop (mkF m 16 #[.val (.ref a), .val (.int (2 : Int32)), .unset] [(.int (1 : Int32)), (.int (2 : Int32)), (.ref la)])) (fun t k => XS.iconst X3.here hx rfl (hb hby d4_15) k) ?_
  refine Goes.pre (U' := T3.setTop (mkF m 17 #[.val (.ref a), .val (.int (2 : Int32)), .unset] [(.int ((2 : Int32) - (1 : Int32))), (.ref la)])) (fun t k => XS.isub X3.here hx rfl (hb hby d4_16) rfl k) ?_
  rw [(by decide : ((2 : Int32) - (1 : Int32)) = (1 : Int32))]
  obtain ⟨cl4, Ar4, q4, Sz4, Ng4, Hs4, Ft4⟩ := id V_la
  have hin4 := inb_of (j := (1 : Int32)) Sz4 ⟨by decide, by decide⟩
  refine Goes.pre (U' := T3.setTop (mkF m 18 #[.val (.ref a), .val (.int (2 : Int32)), .unset] [(.int b1)])) (fun t k => X3.baloadBytes hx (j := (1 : Int32)) (v := (.int b1)) (by rw [e3]; exact Ar4.1) (State.isArrayOf_alike hZ.alike Ar4.2.1) Ar4.2.2 hin4 (Has.at Hs4 hin4 rfl) (g := (mkF m 17 #[.val (.ref a), .val (.int (2 : Int32)), .unset] [(.int (1 : Int32)), (.ref la)])) rfl rfl (hb hby d4_17) _ k) ?_
  refine Goes.pre (U' := T3.setTop (mkF m 19 #[.val (.ref a), .val (.int (2 : Int32)), .unset] [(.int (-1 : Int32)), (.int b1)])) (fun t k => XS.iconst X3.here hx rfl (hb hby d4_18) k) ?_
  have hc19 : ¬ (b1 = (-1 : Int32)) := hk
  refine Goes.pre (U' := T3.setTop (mkF m 28 #[.val (.ref a), .val (.int (2 : Int32)), .unset] [])) (fun t k => XS.icmpYes X3.here hx rfl (pc0 := 19) (pc' := 28) rfl (hb hby d4_19) rfl (feq hc19).2 (by decide) (by decide) k) ?_
  refine Goes.pre (U' := T3.setTop (mkF m 29 #[.val (.ref a), .val (.int (2 : Int32)), .unset] [(.int (2 : Int32))])) (fun t k => XS.iloadN X3.here hx rfl (hb hby d4_28) rfl k) ?_
  have hc29 : ¬ ((2 : Int32) = (0 : Int32)) := by decide
  refine Goes.pre (U' := T3.setTop (mkF m 34 #[.val (.ref a), .val (.int (2 : Int32)), .unset] [])) (fun t k => XS.ifYes X3.here hx rfl (pc0 := 29) (pc' := 34) rfl (hb hby d4_29) rfl ((if0 _ _).trans (feq hc29).2) (by decide) (by decide) k) ?_
  refine Goes.pre (U' := T3.setTop (mkF m 35 #[.val (.ref a), .val (.int (2 : Int32)), .unset] [(.ref a)])) (fun t k => XS.aloadN X3.here hx rfl (hb hby d4_34) rfl rfl k) ?_
  obtain ⟨T5, X5, e5, st5⟩ := getF X3 hx hZ hown (host := "") (Or.inl (hw _ (List.mem_of_getElem? (i := 17) rfl))) Via.refl e3 F_last_a (g := (mkF m 35 #[.val (.ref a), .val (.int (2 : Int32)), .unset] [(.ref a)])) rfl rfl (hb hby d4_35)
  refine Goes.pre (U' := T5.setTop (mkF m 38 #[.val (.ref a), .val (.int (2 : Int32)), .unset] [(.ref la)])) (fun t k => st5 t k) ?_
  refine Goes.pre (U' := T5.setTop (mkF m 39 #[.val (.ref a), .val (.int (2 : Int32)), .unset] [(.int (2 : Int32)), (.ref la)])) (fun t k => XS.iloadN X5.here hx rfl (hb hby d4_38) rfl k) ?_
  have lt_a := F_last_a.lt
  have lt_la := E_la.lt
  obtain ⟨_, _, ⟨T6, L6, k6, n6⟩, -, X6, ⟨Lc6, hQ6, l6, y6, z6⟩, st6⟩ := Jvm.LawKit.callS X5 hx (y := (⟨"java/util/Arrays", "copyOf", "([BI)[B"⟩ : MethodName)) hown (mvT hZ (hw _ (List.mem_of_getElem? (i := 24) rfl))) (mvT hZ (hw _ (List.mem_of_getElem? (i := 25) rfl))) (mvT hZ (hw _ (List.mem_of_getElem? (i := 26) rfl))) (mvT hZ (hw _ (List.mem_of_getElem? (i := 27) rfl))) (by decide) (backOf (W := 0) (rm_copy22 l Z a0 hw [] la kc b0 b1 h0 n0 Z0 E_la V_la) hZ (hw _ (List.mem_of_getElem? (i := 27) rfl)) (hw _ (List.mem_of_getElem? (i := 26) rfl)) (by decide) (by decide)) (g := (mkF m 39 #[.val (.ref a), .val (.int (2 : Int32)), .unset] [(.int (2 : Int32)), (.ref la)])) rfl (by rw [hml]; rfl) (argsL := [(.ref la), (.int (2 : Int32))]) (rest := []) (lenOf pd__28_5bBI_29_5bB rfl) rfl (by show 2 * 0 + _ ≤ _; exact Nat.le_of_eq rfl) (hb hby d4_39) (fun _ _ => ⟨rfl, e5, (by decide : 0 + 1 ≤ _), (by decide : 0 + 2 ≤ _)⟩)
  dsimp only [Pt.U, Pt.locs, Pt.cells, Pt.slots] at X6 l6 y6 z6 st6 hQ6
  subst l6 y6 z6
  obtain ⟨r, kr, rfl, N6q, KQ6, E_r, V_r, g_r, sz_r0⟩ := hQ6
  have N6 := Fr.app N0 N6q
  have F_last_a := F_last_a.keep KQ6 nin0
  have E_la := E_la.keep KQ6
  have V_la := V_la.keep KQ6 nin0
  have Z7 : n0 ≤ T6.heap.size := Nat.le_trans Z0 KQ6.1
  have K7 := K0.trans KQ6 all0
  have ne_a_r : a ≠ r := Nat.ne_of_lt (Nat.lt_of_lt_of_le lt_a (by exact sz_r0))
  have ne_r_a := ne_a_r.symm
  have ne_la_r : la ≠ r := Nat.ne_of_lt (Nat.lt_of_lt_of_le lt_la (by exact sz_r0))
  have ne_r_la := ne_la_r.symm
  have sz_r : h0.size ≤ r := Nat.le_trans K0.1 sz_r0
  refine Goes.pre (U' := T6.setTop (mkF m 42 #[.val (.ref a), .val (.int (2 : Int32)), .unset] [(.ref r)])) (fun t k => st6 t k) ?_
  refine Goes.pre (U' := T6.setTop (mkF m 43 #[.val (.ref a), .val (.int (2 : Int32)), .val (.ref r)] [])) (fun t k => XS.astoreN X6.here hx rfl (hb hby d4_42) rfl rfl (l' := #[.val (.ref a), .val (.int (2 : Int32)), .val (.ref r)]) rfl k) ?_
  refine Goes.pre (U' := T6.setTop (mkF m 44 #[.val (.ref a), .val (.int (2 : Int32)), .val (.ref r)] [(.ref r)])) (fun t k => XS.aloadN X6.here hx rfl (hb hby d4_43) rfl rfl k) ?_
  refine Goes.pre (U' := T6.setTop (mkF m 45 #[.val (.ref a), .val (.int (2 : Int32)), .val (.ref r)] [(.int (2 : Int32)), (.ref r)])) (fun t k => XS.iloadN X6.here hx rfl (hb hby d4_44) rfl k) ?_
  refine Goes.pre (U' := T6.setTop (mkF m 46 #[.val (.ref a), .val (.int (2 : Int32)), .val (.ref r)] [(.int (1 : Int32)), (.int (2 : Int32)), (.ref r)])) (fun t k => XS.iconst X6.here hx rfl (hb hby d4_45) k) ?_
  refine Goes.pre (U' := T6.setTop (mkF m 47 #[.val (.ref a), .val (.int (2 : Int32)), .val (.ref r)] [(.int ((2 : Int32) - (1 : Int32))), (.ref r)])) (fun t k => XS.isub X6.here hx rfl (hb hby d4_46) rfl k) ?_
  rw [(by decide : ((2 : Int32) - (1 : Int32)) = (1 : Int32))]
  refine Goes.pre (U' := T6.setTop (mkF m 48 #[.val (.ref a), .val (.int (2 : Int32)), .val (.ref r)] [(.int (1 : Int32)), (.ref r), (.int (1 : Int32)), (.ref r)])) (fun t k => XT.dup2 X6.here hx rfl (hb hby d4_47) rfl rfl rfl k) ?_
  obtain ⟨cl8, Ar8, q8, Sz8, Ng8, Hs8, Ft8⟩ := id V_r
  have hin8 := inb_of (j := (1 : Int32)) Sz8 ⟨by decide, by decide⟩
  refine Goes.pre (U' := T6.setTop (mkF m 49 #[.val (.ref a), .val (.int (2 : Int32)), .val (.ref r)] [(.int b1), (.int (1 : Int32)), (.ref r)])) (fun t k => X6.baloadBytes hx (j := (1 : Int32)) (v := (.int b1)) Ar8.1 (State.isArrayOf_alike hZ.alike Ar8.2.1) Ar8.2.2 hin8 (Has.at Hs8 hin8 rfl) (g := (mkF m 48 #[.val (.ref a), .val (.int (2 : Int32)), .val (.ref r)] [(.int (1 : Int32)), (.ref r), (.int (1 : Int32)), (.ref r)])) rfl rfl (hb hby d4_48) _ k) ?_
  refine Goes.pre (U' := T6.setTop (mkF m 50 #[.val (.ref a), .val (.int (2 : Int32)), .val (.ref r)] [(.int (1 : Int32)), (.int b1), (.int (1 : Int32)), (.ref r)])) (fun t k => XS.iconst X6.here hx rfl (hb hby d4_49) k) ?_
  refine Goes.pre (U' := T6.setTop (mkF m 51 #[.val (.ref a), .val (.int (2 : Int32)), .val (.ref r)] [(.int (b1 + (1 : Int32))), (.int (1 : Int32)), (.ref r)])) (fun t k => XS.iadd X6.here hx rfl (hb hby d4_50) rfl k) ?_
  refine Goes.pre (U' := T6.setTop (mkF m 52 #[.val (.ref a), .val (.int (2 : Int32)), .val (.ref r)] [(.int ((b1 + (1 : Int32)).toInt8.toInt32)), (.int (1 : Int32)), (.ref r)])) (fun t k => XS.i2b X6.here hx rfl (hb hby d4_51) rfl k) ?_
  obtain ⟨cl9, Ar9, q9, Sz9, Ng9, Hs9, Ft9⟩ := id V_r
  obtain ⟨T9, h9, X9, e9, W9, st9⟩ := stB X6 hx hZ rfl Ar9 (j := (1 : Int32)) (inb_of Sz9 ⟨by decide, by decide⟩) (g := (mkF m 52 #[.val (.ref a), .val (.int (2 : Int32)), .val (.ref r)] [(.int ((b1 + (1 : Int32)).toInt8.toInt32)), (.int (1 : Int32)), (.ref r)])) rfl rfl (hb hby d4_52)
  have nr9 : nar .byte ((b1 + (1 : Int32)).toInt8.toInt32) = ((b1 + (1 : Int32)).toInt8.toInt32) := own_bb _
  have ft9 : fits .byte (.int ((b1 + (1 : Int32)).toInt8.toInt32)) = true := nr9 ▸ (fits_nar_byte ((b1 + (1 : Int32)).toInt8.toInt32) : fits .byte (.int (nar .byte ((b1 + (1 : Int32)).toInt8.toInt32))) = true)
  rw [nr9] at W9
  have F_last_a := F_last_a.other W9 (Or.inl ne_a_r)
  have E_la := E_la.wr W9
  have V_la := V_la.other W9 ne_la_r
  have E_r := E_r.wr W9
  have Z9 : n0 ≤ h9.size := Nat.le_trans Z7 (Keep.of_wr W9).1
  have V_r : Arv Z h9 r kr .byte (2 : Int32) [(.int b0), (.int ((b1 + (1 : Int32)).toInt8.toInt32))] (.int (0 : Int32)) := Arv.set Ar9 q9 Sz9 Ng9 Hs9 Ft9 ft9 W9 1 rfl (Nat.le_of_ble_eq_true rfl)
  have K9 := K7.wr W9 (Or.inr sz_r)
  have N9 := Fr.snoc X9 N6 g_r
  refine Goes.pre (U' := T9.setTop (mkF m 53 #[.val (.ref a), .val (.int (2 : Int32)), .val (.ref r)] [])) (fun t k => st9 t k) ?_
  refine Goes.pre (U' := T9.setTop (mkF m 54 #[.val (.ref a), .val (.int (2 : Int32)), .val (.ref r)] [(.ref r)])) (fun t k => XS.aloadN X9.here hx rfl (hb hby d4_53) rfl rfl k) ?_
  refine Goes.ret X9 (v := (some (.ref r))) (fun h => by rw [Bd.returns] at h; cases h) Bd.notSynchronized (by decide) (by decide) e9 (fun fs hr => retOut X9 hx Bd.returns rfl (Or.inr (Or.inr (Or.inr (Or.inr ⟨rfl, rfl, rfl⟩)))) (hb hby d4_54) hr) ?_
  exact ⟨r, kr, rfl, N9, K9, V_r, g_r, sz_r⟩
theorem ef_rm_end30 (m : MethodId) (x0 : Addr) : entryFrame m #[(.ref x0)] 3 = mkF m 0 #[.val (.ref x0), .unset, .unset] [] := by first | (simp [entryFrame, mkF, argsToLocals, Value.category]; done) | rfl
def Q_rm_end30 (Z : State) (a la : Addr) (kc : ClassId) (b0 b1 b2 : Int32) (h0 : Heap) (n0 : Nat) (v : Option Value) (h : Heap) (L : List Loc) : Prop := v = some .null ∧ Fr n0 L ∧ Keep h0 h []
set_option maxRecDepth 65536 in
set_option maxHeartbeats 40000000 in
theorem rm_end30 (l : Launch) (Z : State) (a0 : Array Value) (hw : ∀ d ∈ tables_1, d.before a0 Z = true) (ws : List Jvm.Cond) (a la : Addr) (kc : ClassId) (b0 b1 b2 : Int32) (h0 : Heap) (n0 : Nat) (Z0 : n0 ≤ h0.size) (F_last_a : Fld Z h0 a "com/example/known_paths/knownpaths/key/KeyRange" "last" "[B" (.ref la)) (E_la : Exa Z h0 la "[B") (V_la : Arv Z h0 la kc .byte (3 : Int32) [(.int b0), (.int b1), (.int b2)] (.int (0 : Int32))) (hq0 : b0 = (-1 : Int32)) (hq1 : b1 = (-1 : Int32)) (hq2 : b2 = (-1 : Int32)) :
    MetFree l (⟨"com/example/known_paths/knownpaths/key/KeyRange", "end", "()[B"⟩ : MethodName) (head1 (Jvm.Cond.code (⟨"com/example/known_paths/knownpaths/key/KeyRange", "end", "()[B"⟩ : MethodName) prog_10_method_4_code 3 (some (.array .byte)) :: ws) ({ frames := 0, cells := 0, slots := 0, locals := 0 } : Room)) (fun argv U => argv = #[(.ref a)] ∧ Z.Warmed39 U.vm ∧ U.heap = h0) (fun _ _ _ _ _ => True) (fun _ U o U' => ∃ v L, o = .returned v ∧ Q_rm_end30 Z a la kc b0 b1 b2 h0 n0 v U'.heap L ∧ FrameEnd U o U' L ({ frames := 0, cells := 0, slots := 0, locals := 0 } : Room).cells ({ frames := 0, cells := 0, slots := 0, locals := 0 } : Room).slots) := by
  refine MetFree.of_bodySF (plainFor_of_name pn_com_example_known_paths_knownpaths_key_KeyRange) hisR ?_
  intro p e s m args below meth c s₁ Bd hml0 hP hK
  obtain ⟨rfl, hZ, hh⟩ := hP
  have hx := Bd.exec
  have hby := Bd.bytes
  have hml : c.maxLocals = 3 := hml0
  have hown : s.vm.findClass "com/example/known_paths/knownpaths/key/KeyRange" = some m.cls := findClass_of_methodNamed Bd.named
  have hnm := (name_of_methodNamed Bd.named Bd.method).1
  have X0 : Stand p l e ({ frames := 0, cells := 0, slots := 0, locals := 0 } : Room) s m #[(.ref a)] below meth c s₁ [] 0 0 := Stand.of_body Bd
  have e0 : s₁.heap = h0 := by rw [← hh, Bd.state]; rfl
  have N0 := Fr.nil n0
  have K0 := Keep.refl h0 []
  refine Goes.enter (Q := fun v h L => Q_rm_end30 Z a la kc b0 b1 b2 h0 n0 v h L) (C := ({ frames := 0, cells := 0, slots := 0, locals := 0 } : Room).cells) (S := ({ frames := 0, cells := 0, slots := 0, locals := 0 } : Room).slots) (ef_rm_end30 m a) ?_
  show Goes p e below s _ _ _ (s₁.setTop (mkF m 0 #[.val (.ref a), .unset, .unset] []))
  refine Goes.pre (U' := s₁.setTop (mkF m 1 #[.val (.ref a), .unset, .unset] [(.ref a)])) (fun t k => XS.aloadN X0.here hx rfl (hb hby d4_0) rfl rfl k) ?_
  obtain ⟨T1, X1, e1, st1⟩ := getF X0 hx hZ hown (host := "") (Or.inl (hw _ (List.mem_of_getElem? (i := 17) rfl))) Via.refl e0 F_last_a (g := (mkF m 1 #[.val (.ref a), .unset, .unset] [(.ref a)])) rfl rfl (hb hby d4_1)
  refine Goes.pre (U' := T1.setTop (mkF m 4 #[.val (.ref a), .unset, .unset] [(.ref la)])) (fun t k => st1 t k) ?_
  obtain ⟨cl2, Ar2, q2, Sz2, Ng2, -, -⟩ := id V_la
  have ln2 := len_of Sz2 Ng2
  refine Goes.pre (U' := T1.setTop (mkF m 5 #[.val (.ref a), .unset, .unset] [(.int (3 : Int32))])) (fun t k => X1.arraylength hx (by rw [e1]; exact Ar2.1) (State.isArrayOf_alike hZ.alike Ar2.2.1) (g := (mkF m 4 #[.val (.ref a), .unset, .unset] [(.ref la)])) rfl rfl (hb hby d4_4) _ (by rw [ln2]; exact k)) ?_
  refine Goes.pre (U' := T1.setTop (mkF m 6 #[.val (.ref a), .val (.int (3 : Int32)), .unset] [])) (fun t k => XS.istoreN X1.here hx rfl (hb hby d4_5) rfl (l' := #[.val (.ref a), .val (.int (3 : Int32)), .unset]) rfl k) ?_
  refine Goes.pre (U' := T1.setTop (mkF m 7 #[.val (.ref a), .val (.int (3 : Int32)), .unset] [(.int (3 : Int32))])) (fun t k => XS.iloadN X1.here hx rfl (hb hby d4_6) rfl k) ?_
  have hc7 : (0 : Int32) < (3 : Int32) := by decide
  refine Goes.pre (U' := T1.setTop (mkF m 10 #[.val (.ref a), .val (.int (3 : Int32)), .unset] [])) (fun t k => XS.ifNo X1.here hx rfl (hb hby d4_7) rfl ((if0 _ _).trans (tlt hc7).2.2.2) k) ?_
  refine Goes.pre (U' := T1.setTop (mkF m 11 #[.val (.ref a), .val (.int (3 : Int32)), .unset] [(.ref a)])) (fun t k => XS.aloadN X1.here hx rfl (hb hby d4_10) rfl rfl k) ?_
  obtain ⟨T3, X3, e3, st3⟩ := getF X1 hx hZ hown (host := "") (Or.inl (hw _ (List.mem_of_getElem? (i := 17) rfl))) Via.refl e1 F_last_a (g := (mkF m 11 #[.val (.ref a), .val (.int (3 : Int32)), .unset] [(.ref a)])) rfl rfl (hb hby d4_11)
  refine Goes.pre (U' := T3.setTop (mkF m 14 #[.val (.ref a), .val (.int (3 : Int32)), .unset] [(.ref la)])) (fun t k => st3 t k) ?_
  refine Goes.pre (U' := T3.setTop (mkF m 15 #[.val (.ref a), .val (.int (3 : Int32)), .unset] [(.int (3 : Int32)), (.ref la)])) (fun t k => XS.iloadN X3.here hx rfl (hb hby d4_14) rfl k) ?_
  refine Goes.pre (U' := T3.setTop (mkF m 16 #[.val (.ref a), .val (.int (3 : Int32)), .unset] [(.int (1 : Int32)), (.int (3 : Int32)), (.ref la)])) (fun t k => XS.iconst X3.here hx rfl (hb hby d4_15) k) ?_
  refine Goes.pre (U' := T3.setTop (mkF m 17 #[.val (.ref a), .val (.int (3 : Int32)), .unset] [(.int ((3 : Int32) - (1 : Int32))), (.ref la)])) (fun t k => XS.isub X3.here hx rfl (hb hby d4_16) rfl k) ?_
  rw [(by decide : ((3 : Int32) - (1 : Int32)) = (2 : Int32))]
  obtain ⟨cl4, Ar4, q4, Sz4, Ng4, Hs4, Ft4⟩ := id V_la
  have hin4 := inb_of (j := (2 : Int32)) Sz4 ⟨by decide, by decide⟩
  refine Goes.pre (U' := T3.setTop (mkF m 18 #[.val (.ref a), .val (.int (3 : Int32)), .unset] [(.int b2)])) (fun t k => X3.baloadBytes hx (j := (2 : Int32)) (v := (.int b2)) (by rw [e3]; exact Ar4.1) (State.isArrayOf_alike hZ.alike Ar4.2.1) Ar4.2.2 hin4 (Has.at Hs4 hin4 rfl) (g := (mkF m 17 #[.val (.ref a), .val (.int (3 : Int32)), .unset] [(.int (2 : Int32)), (.ref la)])) rfl rfl (hb hby d4_17) _ k) ?_
  refine Goes.pre (U' := T3.setTop (mkF m 19 #[.val (.ref a), .val (.int (3 : Int32)), .unset] [(.int (-1 : Int32)), (.int b2)])) (fun t k => XS.iconst X3.here hx rfl (hb hby d4_18) k) ?_
  have hc19 : b2 = (-1 : Int32) := hq2
  refine Goes.pre (U' := T3.setTop (mkF m 22 #[.val (.ref a), .val (.int (3 : Int32)), .unset] [])) (fun t k => XS.icmpNo X3.here hx rfl (hb hby d4_19) rfl (teq hc19).2 k) ?_
  refine Goes.pre (U' := T3.setTop (mkF m 25 #[.val (.ref a), .val (.int ((3 : Int32) + (-1 : Int32))), .unset] [])) (fun t k => XT.iincV X3.here hx rfl (-1 : Int32) (hb hby d4_22) (by decide) rfl (l' := #[.val (.ref a), .val (.int ((3 : Int32) + (-1 : Int32))), .unset]) rfl k) ?_
  rw [(by decide : ((3 : Int32) + (-1 : Int32)) = (2 : Int32))]
  refine Goes.pre (U' := T3.setTop (mkF m 6 #[.val (.ref a), .val (.int (2 : Int32)), .unset] [])) (fun t k => XS.goto X3.here hx rfl (pc0 := 25) (pc' := 6) rfl (hb hby d4_25) (by decide) (by decide) k) ?_
  refine Goes.pre (U' := T3.setTop (mkF m 7 #[.val (.ref a), .val (.int (2 : Int32)), .unset] [(.int (2 : Int32))])) (fun t k => XS.iloadN X3.here hx rfl (hb hby d4_6) rfl k) ?_
  have hc7 : (0 : Int32) < (2 : Int32) := by decide
  refine Goes.pre (U' := T3.setTop (mkF m 10 #[.val (.ref a), .val (.int (2 : Int32)), .unset] [])) (fun t k => XS.ifNo X3.here hx rfl (hb hby d4_7) rfl ((if0 _ _).trans (tlt hc7).2.2.2) k) ?_
  refine Goes.pre (U' := T3.setTop (mkF m 11 #[.val (.ref a), .val (.int (2 : Int32)), .unset] [(.ref a)])) (fun t k => XS.aloadN X3.here hx rfl (hb hby d4_10) rfl rfl k) ?_
  obtain ⟨T5, X5, e5, st5⟩ := getF X3 hx hZ hown (host := "") (Or.inl (hw _ (List.mem_of_getElem? (i := 17) rfl))) Via.refl e3 F_last_a (g := (mkF m 11 #[.val (.ref a), .val (.int (2 : Int32)), .unset] [(.ref a)])) rfl rfl (hb hby d4_11)
  refine Goes.pre (U' := T5.setTop (mkF m 14 #[.val (.ref a), .val (.int (2 : Int32)), .unset] [(.ref la)])) (fun t k => st5 t k) ?_
  refine Goes.pre (U' := T5.setTop (mkF m 15 #[.val (.ref a), .val (.int (2 : Int32)), .unset] [(.int (2 : Int32)), (.ref la)])) (fun t k => XS.iloadN X5.here hx rfl (hb hby d4_14) rfl k) ?_
  refine Goes.pre (U' := T5.setTop (mkF m 16 #[.val (.ref a), .val (.int (2 : Int32)), .unset] [(.int (1 : Int32)), (.int (2 : Int32)), (.ref la)])) (fun t k => XS.iconst X5.here hx rfl (hb hby d4_15) k) ?_
  refine Goes.pre (U' := T5.setTop (mkF m 17 #[.val (.ref a), .val (.int (2 : Int32)), .unset] [(.int ((2 : Int32) - (1 : Int32))), (.ref la)])) (fun t k => XS.isub X5.here hx rfl (hb hby d4_16) rfl k) ?_
  rw [(by decide : ((2 : Int32) - (1 : Int32)) = (1 : Int32))]
  obtain ⟨cl6, Ar6, q6, Sz6, Ng6, Hs6, Ft6⟩ := id V_la
  have hin6 := inb_of (j := (1 : Int32)) Sz6 ⟨by decide, by decide⟩
  refine Goes.pre (U' := T5.setTop (mkF m 18 #[.val (.ref a), .val (.int (2 : Int32)), .unset] [(.int b1)])) (fun t k => X5.baloadBytes hx (j := (1 : Int32)) (v := (.int b1)) (by rw [e5]; exact Ar6.1) (State.isArrayOf_alike hZ.alike Ar6.2.1) Ar6.2.2 hin6 (Has.at Hs6 hin6 rfl) (g := (mkF m 17 #[.val (.ref a), .val (.int (2 : Int32)), .unset] [(.int (1 : Int32)), (.ref la)])) rfl rfl (hb hby d4_17) _ k) ?_
  refine Goes.pre (U' := T5.setTop (mkF m 19 #[.val (.ref a), .val (.int (2 : Int32)), .unset] [(.int (-1 : Int32)), (.int b1)])) (fun t k => XS.iconst X5.here hx rfl (hb hby d4_18) k) ?_
  have hc19 : b1 = (-1 : Int32) := hq1
  refine Goes.pre (U' := T5.setTop (mkF m 22 #[.val (.ref a), .val (.int (2 : Int32)), .unset] [])) (fun t k => XS.icmpNo X5.here hx rfl (hb hby d4_19) rfl (teq hc19).2 k) ?_
  refine Goes.pre (U' := T5.setTop (mkF m 25 #[.val (.ref a), .val (.int ((2 : Int32) + (-1 : Int32))), .unset] [])) (fun t k => XT.iincV X5.here hx rfl (-1 : Int32) (hb hby d4_22) (by decide) rfl (l' := #[.val (.ref a), .val (.int ((2 : Int32) + (-1 : Int32))), .unset]) rfl k) ?_
  rw [(by decide : ((2 : Int32) + (-1 : Int32)) = (1 : Int32))]
  refine Goes.pre (U' := T5.setTop (mkF m 6 #[.val (.ref a), .val (.int (1 : Int32)), .unset] [])) (fun t k => XS.goto X5.here hx rfl (pc0 := 25) (pc' := 6) rfl (hb hby d4_25) (by decide) (by decide) k) ?_
  refine Goes.pre (U' := T5.setTop (mkF m 7 #[.val (.ref a), .val (.int (1 : Int32)), .unset] [(.int (1 : Int32))])) (fun t k => XS.iloadN X5.here hx rfl (hb hby d4_6) rfl k) ?_
  have hc7 : (0 : Int32) < (1 : Int32) := by decide
  refine Goes.pre (U' := T5.setTop (mkF m 10 #[.val (.ref a), .val (.int (1 : Int32)), .unset] [])) (fun t k => XS.ifNo X5.here hx rfl (hb hby d4_7) rfl ((if0 _ _).trans (tlt hc7).2.2.2) k) ?_
  refine Goes.pre (U' := T5.setTop (mkF m 11 #[.val (.ref a), .val (.int (1 : Int32)), .unset] [(.ref a)])) (fun t k => XS.aloadN X5.here hx rfl (hb hby d4_10) rfl rfl k) ?_
  obtain ⟨T7, X7, e7, st7⟩ := getF X5 hx hZ hown (host := "") (Or.inl (hw _ (List.mem_of_getElem? (i := 17) rfl))) Via.refl e5 F_last_a (g := (mkF m 11 #[.val (.ref a), .val (.int (1 : Int32)), .unset] [(.ref a)])) rfl rfl (hb hby d4_11)
  refine Goes.pre (U' := T7.setTop (mkF m 14 #[.val (.ref a), .val (.int (1 : Int32)), .unset] [(.ref la)])) (fun t k => st7 t k) ?_
  refine Goes.pre (U' := T7.setTop (mkF m 15 #[.val (.ref a), .val (.int (1 : Int32)), .unset] [(.int (1 : Int32)), (.ref la)])) (fun t k => XS.iloadN X7.here hx rfl (hb hby d4_14) rfl k) ?_
  refine Goes.pre (U' := T7.setTop (mkF m 16 #[.val (.ref a), .val (.int (1 : Int32)), .unset] [(.int (1 : Int32)), (.int (1 : Int32)), (.ref la)])) (fun t k => XS.iconst X7.here hx rfl (hb hby d4_15) k) ?_
  refine Goes.pre (U' := T7.setTop (mkF m 17 #[.val (.ref a), .val (.int (1 : Int32)), .unset] [(.int ((1 : Int32) - (1 : Int32))), (.ref la)])) (fun t k => XS.isub X7.here hx rfl (hb hby d4_16) rfl k) ?_
  rw [(by decide : ((1 : Int32) - (1 : Int32)) = (0 : Int32))]
  obtain ⟨cl8, Ar8, q8, Sz8, Ng8, Hs8, Ft8⟩ := id V_la
  have hin8 := inb_of (j := (0 : Int32)) Sz8 ⟨by decide, by decide⟩
  refine Goes.pre (U' := T7.setTop (mkF m 18 #[.val (.ref a), .val (.int (1 : Int32)), .unset] [(.int b0)])) (fun t k => X7.baloadBytes hx (j := (0 : Int32)) (v := (.int b0)) (by rw [e7]; exact Ar8.1) (State.isArrayOf_alike hZ.alike Ar8.2.1) Ar8.2.2 hin8 (Has.at Hs8 hin8 rfl) (g := (mkF m 17 #[.val (.ref a), .val (.int (1 : Int32)), .unset] [(.int (0 : Int32)), (.ref la)])) rfl rfl (hb hby d4_17) _ k) ?_
  refine Goes.pre (U' := T7.setTop (mkF m 19 #[.val (.ref a), .val (.int (1 : Int32)), .unset] [(.int (-1 : Int32)), (.int b0)])) (fun t k => XS.iconst X7.here hx rfl (hb hby d4_18) k) ?_
  have hc19 : b0 = (-1 : Int32) := hq0
  refine Goes.pre (U' := T7.setTop (mkF m 22 #[.val (.ref a), .val (.int (1 : Int32)), .unset] [])) (fun t k => XS.icmpNo X7.here hx rfl (hb hby d4_19) rfl (teq hc19).2 k) ?_
  refine Goes.pre (U' := T7.setTop (mkF m 25 #[.val (.ref a), .val (.int ((1 : Int32) + (-1 : Int32))), .unset] [])) (fun t k => XT.iincV X7.here hx rfl (-1 : Int32) (hb hby d4_22) (by decide) rfl (l' := #[.val (.ref a), .val (.int ((1 : Int32) + (-1 : Int32))), .unset]) rfl k) ?_
  rw [(by decide : ((1 : Int32) + (-1 : Int32)) = (0 : Int32))]
  refine Goes.pre (U' := T7.setTop (mkF m 6 #[.val (.ref a), .val (.int (0 : Int32)), .unset] [])) (fun t k => XS.goto X7.here hx rfl (pc0 := 25) (pc' := 6) rfl (hb hby d4_25) (by decide) (by decide) k) ?_
  refine Goes.pre (U' := T7.setTop (mkF m 7 #[.val (.ref a), .val (.int (0 : Int32)), .unset] [(.int (0 : Int32))])) (fun t k => XS.iloadN X7.here hx rfl (hb hby d4_6) rfl k) ?_
  have hc7 : ¬ ((0 : Int32) < (0 : Int32)) := by decide
  refine Goes.pre (U' := T7.setTop (mkF m 28 #[.val (.ref a), .val (.int (0 : Int32)), .unset] [])) (fun t k => XS.ifYes X7.here hx rfl (pc0 := 7) (pc' := 28) rfl (hb hby d4_7) rfl ((if0 _ _).trans (flt hc7).2.2.2) (by decide) (by decide) k) ?_
  refine Goes.pre (U' := T7.setTop (mkF m 29 #[.val (.ref a), .val (.int (0 : Int32)), .unset] [(.int (0 : Int32))])) (fun t k => XS.iloadN X7.here hx rfl (hb hby d4_28) rfl k) ?_
  have hc29 : (0 : Int32) = (0 : Int32) := rfl
  refine Goes.pre (U' := T7.setTop (mkF m 32 #[.val (.ref a), .val (.int (0 : Int32)), .unset] [])) (fun t k => XS.ifNo X7.here hx rfl (hb hby d4_29) rfl ((if0 _ _).trans (teq hc29).2) k) ?_
  refine Goes.pre (U' := T7.setTop (mkF m 33 #[.val (.ref a), .val (.int (0 : Int32)), .unset] [.null])) (fun t k => XS.aconstNull X7.here hx rfl (hb hby d4_32) k) ?_
  refine Goes.ret X7 (v := (some .null)) (fun h => by rw [Bd.returns] at h; cases h) Bd.notSynchronized (by decide) (by decide) e7 (fun fs hr => retOut X7 hx Bd.returns rfl (Or.inr (Or.inr (Or.inr (Or.inr ⟨rfl, rfl, rfl⟩)))) (hb hby d4_33) hr) ?_
  exact ⟨rfl, N0, K0⟩
theorem ef_rm_end31 (m : MethodId) (x0 : Addr) : entryFrame m #[(.ref x0)] 3 = mkF m 0 #[.val (.ref x0), .unset, .unset] [] := by first | (simp [entryFrame, mkF, argsToLocals, Value.category]; done) | rfl
def Q_rm_end31 (Z : State) (a la : Addr) (kc : ClassId) (b0 b1 b2 : Int32) (h0 : Heap) (n0 : Nat) (v : Option Value) (h : Heap) (L : List Loc) : Prop := ∃ (r : Addr) (kr : ClassId), v = some (.ref r) ∧ Fr n0 L ∧ Keep h0 h [] ∧ Arv Z h r kr .byte (1 : Int32) [(.int ((b0 + (1 : Int32)).toInt8.toInt32))] (.int (0 : Int32)) ∧ n0 ≤ r ∧ h0.size ≤ r
set_option maxRecDepth 65536 in
set_option maxHeartbeats 40000000 in
theorem rm_end31 (l : Launch) (Z : State) (a0 : Array Value) (hw : ∀ d ∈ tables_1, d.before a0 Z = true) (ws : List Jvm.Cond) (a la : Addr) (kc : ClassId) (b0 b1 b2 : Int32) (h0 : Heap) (n0 : Nat) (Z0 : n0 ≤ h0.size) (F_last_a : Fld Z h0 a "com/example/known_paths/knownpaths/key/KeyRange" "last" "[B" (.ref la)) (E_la : Exa Z h0 la "[B") (V_la : Arv Z h0 la kc .byte (3 : Int32) [(.int b0), (.int b1), (.int b2)] (.int (0 : Int32))) (hq1 : b1 = (-1 : Int32)) (hq2 : b2 = (-1 : Int32)) (hk : ¬ (b0 = (-1 : Int32))) :
    MetFree l (⟨"com/example/known_paths/knownpaths/key/KeyRange", "end", "()[B"⟩ : MethodName) (head1 (Jvm.Cond.code (⟨"com/example/known_paths/knownpaths/key/KeyRange", "end", "()[B"⟩ : MethodName) prog_10_method_4_code 3 (some (.array .byte)) :: ws) ({ frames := 2, cells := 1, slots := 1, locals := 32 } : Room)) (fun argv U => argv = #[(.ref a)] ∧ Z.Warmed39 U.vm ∧ U.heap = h0) (fun _ _ _ _ _ => True) (fun _ U o U' => ∃ v L, o = .returned v ∧ Q_rm_end31 Z a la kc b0 b1 b2 h0 n0 v U'.heap L ∧ FrameEnd U o U' L ({ frames := 2, cells := 1, slots := 1, locals := 32 } : Room).cells ({ frames := 2, cells := 1, slots := 1, locals := 32 } : Room).slots) := by
  refine MetFree.of_bodySF (plainFor_of_name pn_com_example_known_paths_knownpaths_key_KeyRange) hisR ?_
  intro p e s m args below meth c s₁ Bd hml0 hP hK
  obtain ⟨rfl, hZ, hh⟩ := hP
  have hx := Bd.exec
  have hby := Bd.bytes
  have hml : c.maxLocals = 3 := hml0
  have hown : s.vm.findClass "com/example/known_paths/knownpaths/key/KeyRange" = some m.cls := findClass_of_methodNamed Bd.named
  have hnm := (name_of_methodNamed Bd.named Bd.method).1
  have X0 : Stand p l e ({ frames := 2, cells := 1, slots := 1, locals := 32 } : Room) s m #[(.ref a)] below meth c s₁ [] 0 0 := Stand.of_body Bd
  have e0 : s₁.heap = h0 := by rw [← hh, Bd.state]; rfl
  have N0 := Fr.nil n0
  have K0 := Keep.refl h0 []
  refine Goes.enter (Q := fun v h L => Q_rm_end31 Z a la kc b0 b1 b2 h0 n0 v h L) (C := ({ frames := 2, cells := 1, slots := 1, locals := 32 } : Room).cells) (S := ({ frames := 2, cells := 1, slots := 1, locals := 32 } : Room).slots) (ef_rm_end31 m a) ?_
  show Goes p e below s _ _ _ (s₁.setTop (mkF m 0 #[.val (.ref a), .unset, .unset] []))
  refine Goes.pre (U' := s₁.setTop (mkF m 1 #[.val (.ref a), .unset, .unset] [(.ref a)])) (fun t k => XS.aloadN X0.here hx rfl (hb hby d4_0) rfl rfl k) ?_
  obtain ⟨T1, X1, e1, st1⟩ := getF X0 hx hZ hown (host := "") (Or.inl (hw _ (List.mem_of_getElem? (i := 17) rfl))) Via.refl e0 F_last_a (g := (mkF m 1 #[.val (.ref a), .unset, .unset] [(.ref a)])) rfl rfl (hb hby d4_1)
  refine Goes.pre (U' := T1.setTop (mkF m 4 #[.val (.ref a), .unset, .unset] [(.ref la)])) (fun t k => st1 t k) ?_
  obtain ⟨cl2, Ar2, q2, Sz2, Ng2, -, -⟩ := id V_la
  have ln2 := len_of Sz2 Ng2
  refine Goes.pre (U' := T1.setTop (mkF m 5 #[.val (.ref a), .unset, .unset] [(.int (3 : Int32))])) (fun t k => X1.arraylength hx (by rw [e1]; exact Ar2.1) (State.isArrayOf_alike hZ.alike Ar2.2.1) (g := (mkF m 4 #[.val (.ref a), .unset, .unset] [(.ref la)])) rfl rfl (hb hby d4_4) _ (by rw [ln2]; exact k)) ?_
  refine Goes.pre (U' := T1.setTop (mkF m 6 #[.val (.ref a), .val (.int (3 : Int32)), .unset] [])) (fun t k => XS.istoreN X1.here hx rfl (hb hby d4_5) rfl (l' := #[.val (.ref a), .val (.int (3 : Int32)), .unset]) rfl k) ?_
  refine Goes.pre (U' := T1.setTop (mkF m 7 #[.val (.ref a), .val (.int (3 : Int32)), .unset] [(.int (3 : Int32))])) (fun t k => XS.iloadN X1.here hx rfl (hb hby d4_6) rfl k) ?_
  have hc7 : (0 : Int32) < (3 : Int32) := by decide
  refine Goes.pre (U' := T1.setTop (mkF m 10 #[.val (.ref a), .val (.int (3 : Int32)), .unset] [])) (fun t k => XS.ifNo X1.here hx rfl (hb hby d4_7) rfl ((if0 _ _).trans (tlt hc7).2.2.2) k) ?_
  refine Goes.pre (U' := T1.setTop (mkF m 11 #[.val (.ref a), .val (.int (3 : Int32)), .unset] [(.ref a)])) (fun t k => XS.aloadN X1.here hx rfl (hb hby d4_10) rfl rfl k) ?_
  obtain ⟨T3, X3, e3, st3⟩ := getF X1 hx hZ hown (host := "") (Or.inl (hw _ (List.mem_of_getElem? (i := 17) rfl))) Via.refl e1 F_last_a (g := (mkF m 11 #[.val (.ref a), .val (.int (3 : Int32)), .unset] [(.ref a)])) rfl rfl (hb hby d4_11)
  refine Goes.pre (U' := T3.setTop (mkF m 14 #[.val (.ref a), .val (.int (3 : Int32)), .unset] [(.ref la)])) (fun t k => st3 t k) ?_
  refine Goes.pre (U' := T3.setTop (mkF m 15 #[.val (.ref a), .val (.int (3 : Int32)), .unset] [(.int (3 : Int32)), (.ref la)])) (fun t k => XS.iloadN X3.here hx rfl (hb hby d4_14) rfl k) ?_
  refine Goes.pre (U' := T3.setTop (mkF m 16 #[.val (.ref a), .val (.int (3 : Int32)), .unset] [(.int (1 : Int32)), (.int (3 : Int32)), (.ref la)])) (fun t k => XS.iconst X3.here hx rfl (hb hby d4_15) k) ?_
  refine Goes.pre (U' := T3.setTop (mkF m 17 #[.val (.ref a), .val (.int (3 : Int32)), .unset] [(.int ((3 : Int32) - (1 : Int32))), (.ref la)])) (fun t k => XS.isub X3.here hx rfl (hb hby d4_16) rfl k) ?_
  rw [(by decide : ((3 : Int32) - (1 : Int32)) = (2 : Int32))]
  obtain ⟨cl4, Ar4, q4, Sz4, Ng4, Hs4, Ft4⟩ := id V_la
  have hin4 := inb_of (j := (2 : Int32)) Sz4 ⟨by decide, by decide⟩
  refine Goes.pre (U' := T3.setTop (mkF m 18 #[.val (.ref a), .val (.int (3 : Int32)), .unset] [(.int b2)])) (fun t k => X3.baloadBytes hx (j := (2 : Int32)) (v := (.int b2)) (by rw [e3]; exact Ar4.1) (State.isArrayOf_alike hZ.alike Ar4.2.1) Ar4.2.2 hin4 (Has.at Hs4 hin4 rfl) (g := (mkF m 17 #[.val (.ref a), .val (.int (3 : Int32)), .unset] [(.int (2 : Int32)), (.ref la)])) rfl rfl (hb hby d4_17) _ k) ?_
  refine Goes.pre (U' := T3.setTop (mkF m 19 #[.val (.ref a), .val (.int (3 : Int32)), .unset] [(.int (-1 : Int32)), (.int b2)])) (fun t k => XS.iconst X3.here hx rfl (hb hby d4_18) k) ?_
  have hc19 : b2 = (-1 : Int32) := hq2
  refine Goes.pre (U' := T3.setTop (mkF m 22 #[.val (.ref a), .val (.int (3 : Int32)), .unset] [])) (fun t k => XS.icmpNo X3.here hx rfl (hb hby d4_19) rfl (teq hc19).2 k) ?_
  refine Goes.pre (U' := T3.setTop (mkF m 25 #[.val (.ref a), .val (.int ((3 : Int32) + (-1 : Int32))), .unset] [])) (fun t k => XT.iincV X3.here hx rfl (-1 : Int32) (hb hby d4_22) (by decide) rfl (l' := #[.val (.ref a), .val (.int ((3 : Int32) + (-1 : Int32))), .unset]) rfl k) ?_
  rw [(by decide : ((3 : Int32) + (-1 : Int32)) = (2 : Int32))]
  refine Goes.pre (U' := T3.setTop (mkF m 6 #[.val (.ref a), .val (.int (2 : Int32)), .unset] [])) (fun t k => XS.goto X3.here hx rfl (pc0 := 25) (pc' := 6) rfl (hb hby d4_25) (by decide) (by decide) k) ?_
  refine Goes.pre (U' := T3.setTop (mkF m 7 #[.val (.ref a), .val (.int (2 : Int32)), .unset] [(.int (2 : Int32))])) (fun t k => XS.iloadN X3.here hx rfl (hb hby d4_6) rfl k) ?_
  have hc7 : (0 : Int32) < (2 : Int32) := by decide
  refine Goes.pre (U' := T3.setTop (mkF m 10 #[.val (.ref a), .val (.int (2 : Int32)), .unset] [])) (fun t k => XS.ifNo X3.here hx rfl (hb hby d4_7) rfl ((if0 _ _).trans (tlt hc7).2.2.2) k) ?_
  refine Goes.pre (U' := T3.setTop (mkF m 11 #[.val (.ref a), .val (.int (2 : Int32)), .unset] [(.ref a)])) (fun t k => XS.aloadN X3.here hx rfl (hb hby d4_10) rfl rfl k) ?_
  obtain ⟨T5, X5, e5, st5⟩ := getF X3 hx hZ hown (host := "") (Or.inl (hw _ (List.mem_of_getElem? (i := 17) rfl))) Via.refl e3 F_last_a (g := (mkF m 11 #[.val (.ref a), .val (.int (2 : Int32)), .unset] [(.ref a)])) rfl rfl (hb hby d4_11)
  refine Goes.pre (U' := T5.setTop (mkF m 14 #[.val (.ref a), .val (.int (2 : Int32)), .unset] [(.ref la)])) (fun t k => st5 t k) ?_
  refine Goes.pre (U' := T5.setTop (mkF m 15 #[.val (.ref a), .val (.int (2 : Int32)), .unset] [(.int (2 : Int32)), (.ref la)])) (fun t k => XS.iloadN X5.here hx rfl (hb hby d4_14) rfl k) ?_
  refine Goes.pre (U' := T5.setTop (mkF m 16 #[.val (.ref a), .val (.int (2 : Int32)), .unset] [(.int (1 : Int32)), (.int (2 : Int32)), (.ref la)])) (fun t k => XS.iconst X5.here hx rfl (hb hby d4_15) k) ?_
  refine Goes.pre (U' := T5.setTop (mkF m 17 #[.val (.ref a), .val (.int (2 : Int32)), .unset] [(.int ((2 : Int32) - (1 : Int32))), (.ref la)])) (fun t k => XS.isub X5.here hx rfl (hb hby d4_16) rfl k) ?_
  rw [(by decide : ((2 : Int32) - (1 : Int32)) = (1 : Int32))]
  obtain ⟨cl6, Ar6, q6, Sz6, Ng6, Hs6, Ft6⟩ := id V_la
  have hin6 := inb_of (j := (1 : Int32)) Sz6 ⟨by decide, by decide⟩
  refine Goes.pre (U' := T5.setTop (mkF m 18 #[.val (.ref a), .val (.int (2 : Int32)), .unset] [(.int b1)])) (fun t k => X5.baloadBytes hx (j := (1 : Int32)) (v := (.int b1)) (by rw [e5]; exact Ar6.1) (State.isArrayOf_alike hZ.alike Ar6.2.1) Ar6.2.2 hin6 (Has.at Hs6 hin6 rfl) (g := (mkF m 17 #[.val (.ref a), .val (.int (2 : Int32)), .unset] [(.int (1 : Int32)), (.ref la)])) rfl rfl (hb hby d4_17) _ k) ?_
  refine Goes.pre (U' := T5.setTop (mkF m 19 #[.val (.ref a), .val (.int (2 : Int32)), .unset] [(.int (-1 : Int32)), (.int b1)])) (fun t k => XS.iconst X5.here hx rfl (hb hby d4_18) k) ?_
  have hc19 : b1 = (-1 : Int32) := hq1
  refine Goes.pre (U' := T5.setTop (mkF m 22 #[.val (.ref a), .val (.int (2 : Int32)), .unset] [])) (fun t k => XS.icmpNo X5.here hx rfl (hb hby d4_19) rfl (teq hc19).2 k) ?_
  refine Goes.pre (U' := T5.setTop (mkF m 25 #[.val (.ref a), .val (.int ((2 : Int32) + (-1 : Int32))), .unset] [])) (fun t k => XT.iincV X5.here hx rfl (-1 : Int32) (hb hby d4_22) (by decide) rfl (l' := #[.val (.ref a), .val (.int ((2 : Int32) + (-1 : Int32))), .unset]) rfl k) ?_
  rw [(by decide : ((2 : Int32) + (-1 : Int32)) = (1 : Int32))]
  refine Goes.pre (U' := T5.setTop (mkF m 6 #[.val (.ref a), .val (.int (1 : Int32)), .unset] [])) (fun t k => XS.goto X5.here hx rfl (pc0 := 25) (pc' := 6) rfl (hb hby d4_25) (by decide) (by decide) k) ?_
  refine Goes.pre (U' := T5.setTop (mkF m 7 #[.val (.ref a), .val (.int (1 : Int32)), .unset] [(.int (1 : Int32))])) (fun t k => XS.iloadN X5.here hx rfl (hb hby d4_6) rfl k) ?_
  have hc7 : (0 : Int32) < (1 : Int32) := by decide
  refine Goes.pre (U' := T5.setTop (mkF m 10 #[.val (.ref a), .val (.int (1 : Int32)), .unset] [])) (fun t k => XS.ifNo X5.here hx rfl (hb hby d4_7) rfl ((if0 _ _).trans (tlt hc7).2.2.2) k) ?_
  refine Goes.pre (U' := T5.setTop (mkF m 11 #[.val (.ref a), .val (.int (1 : Int32)), .unset] [(.ref a)])) (fun t k => XS.aloadN X5.here hx rfl (hb hby d4_10) rfl rfl k) ?_
  obtain ⟨T7, X7, e7, st7⟩ := getF X5 hx hZ hown (host := "") (Or.inl (hw _ (List.mem_of_getElem? (i := 17) rfl))) Via.refl e5 F_last_a (g := (mkF m 11 #[.val (.ref a), .val (.int (1 : Int32)), .unset] [(.ref a)])) rfl rfl (hb hby d4_11)
  refine Goes.pre (U' := T7.setTop (mkF m 14 #[.val (.ref a), .val (.int (1 : Int32)), .unset] [(.ref la)])) (fun t k => st7 t k) ?_
  refine Goes.pre (U' := T7.setTop (mkF m 15 #[.val (.ref a), .val (.int (1 : Int32)), .unset] [(.int (1 : Int32)), (.ref la)])) (fun t k => XS.iloadN X7.here hx rfl (hb hby d4_14) rfl k) ?_
  refine Goes.pre (U' := T7.setTop (mkF m 16 #[.val (.ref a), .val (.int (1 : Int32)), .unset] [(.int (1 : Int32)), (.int (1 : Int32)), (.ref la)])) (fun t k => XS.iconst X7.here hx rfl (hb hby d4_15) k) ?_
  refine Goes.pre (U' := T7.setTop (mkF m 17 #[.val (.ref a), .val (.int (1 : Int32)), .unset] [(.int ((1 : Int32) - (1 : Int32))), (.ref la)])) (fun t k => XS.isub X7.here hx rfl (hb hby d4_16) rfl k) ?_
  rw [(by decide : ((1 : Int32) - (1 : Int32)) = (0 : Int32))]
  obtain ⟨cl8, Ar8, q8, Sz8, Ng8, Hs8, Ft8⟩ := id V_la
  have hin8 := inb_of (j := (0 : Int32)) Sz8 ⟨by decide, by decide⟩
  refine Goes.pre (U' := T7.setTop (mkF m 18 #[.val (.ref a), .val (.int (1 : Int32)), .unset] [(.int b0)])) (fun t k => X7.baloadBytes hx (j := (0 : Int32)) (v := (.int b0)) (by rw [e7]; exact Ar8.1) (State.isArrayOf_alike hZ.alike Ar8.2.1) Ar8.2.2 hin8 (Has.at Hs8 hin8 rfl) (g := (mkF m 17 #[.val (.ref a), .val (.int (1 : Int32)), .unset] [(.int (0 : Int32)), (.ref la)])) rfl rfl (hb hby d4_17) _ k) ?_
  refine Goes.pre (U' := T7.setTop (mkF m 19 #[.val (.ref a), .val (.int (1 : Int32)), .unset] [(.int (-1 : Int32)), (.int b0)])) (fun t k => XS.iconst X7.here hx rfl (hb hby d4_18) k) ?_
  have hc19 : ¬ (b0 = (-1 : Int32)) := hk
  refine Goes.pre (U' := T7.setTop (mkF m 28 #[.val (.ref a), .val (.int (1 : Int32)), .unset] [])) (fun t k => XS.icmpYes X7.here hx rfl (pc0 := 19) (pc' := 28) rfl (hb hby d4_19) rfl (feq hc19).2 (by decide) (by decide) k) ?_
  refine Goes.pre (U' := T7.setTop (mkF m 29 #[.val (.ref a), .val (.int (1 : Int32)), .unset] [(.int (1 : Int32))])) (fun t k => XS.iloadN X7.here hx rfl (hb hby d4_28) rfl k) ?_
  have hc29 : ¬ ((1 : Int32) = (0 : Int32)) := by decide
  refine Goes.pre (U' := T7.setTop (mkF m 34 #[.val (.ref a), .val (.int (1 : Int32)), .unset] [])) (fun t k => XS.ifYes X7.here hx rfl (pc0 := 29) (pc' := 34) rfl (hb hby d4_29) rfl ((if0 _ _).trans (feq hc29).2) (by decide) (by decide) k) ?_
  refine Goes.pre (U' := T7.setTop (mkF m 35 #[.val (.ref a), .val (.int (1 : Int32)), .unset] [(.ref a)])) (fun t k => XS.aloadN X7.here hx rfl (hb hby d4_34) rfl rfl k) ?_
  obtain ⟨T9, X9, e9, st9⟩ := getF X7 hx hZ hown (host := "") (Or.inl (hw _ (List.mem_of_getElem? (i := 17) rfl))) Via.refl e7 F_last_a (g := (mkF m 35 #[.val (.ref a), .val (.int (1 : Int32)), .unset] [(.ref a)])) rfl rfl (hb hby d4_35)
  refine Goes.pre (U' := T9.setTop (mkF m 38 #[.val (.ref a), .val (.int (1 : Int32)), .unset] [(.ref la)])) (fun t k => st9 t k) ?_
  refine Goes.pre (U' := T9.setTop (mkF m 39 #[.val (.ref a), .val (.int (1 : Int32)), .unset] [(.int (1 : Int32)), (.ref la)])) (fun t k => XS.iloadN X9.here hx rfl (hb hby d4_38) rfl k) ?_
  have lt_a := F_last_a.lt
  have lt_la := E_la.lt
  obtain ⟨_, _, ⟨T10, L10, k10, n10⟩, -, X10, ⟨Lc10, hQ10, l10, y10, z10⟩, st10⟩ := Jvm.LawKit.callS X9 hx (y := (⟨"java/util/Arrays", "copyOf", "([BI)[B"⟩ : MethodName)) hown (mvT hZ (hw _ (List.mem_of_getElem? (i := 24) rfl))) (mvT hZ (hw _ (List.mem_of_getElem? (i := 25) rfl))) (mvT hZ (hw _ (List.mem_of_getElem? (i := 26) rfl))) (mvT hZ (hw _ (List.mem_of_getElem? (i := 27) rfl))) (by decide) (backOf (W := 0) (rm_copy31 l Z a0 hw [] la kc b0 b1 b2 h0 n0 Z0 E_la V_la) hZ (hw _ (List.mem_of_getElem? (i := 27) rfl)) (hw _ (List.mem_of_getElem? (i := 26) rfl)) (by decide) (by decide)) (g := (mkF m 39 #[.val (.ref a), .val (.int (1 : Int32)), .unset] [(.int (1 : Int32)), (.ref la)])) rfl (by rw [hml]; rfl) (argsL := [(.ref la), (.int (1 : Int32))]) (rest := []) (lenOf pd__28_5bBI_29_5bB rfl) rfl (by show 2 * 0 + _ ≤ _; exact Nat.le_of_eq rfl) (hb hby d4_39) (fun _ _ => ⟨rfl, e9, (by decide : 0 + 1 ≤ _), (by decide : 0 + 1 ≤ _)⟩)
  dsimp only [Pt.U, Pt.locs, Pt.cells, Pt.slots] at X10 l10 y10 z10 st10 hQ10
  subst l10 y10 z10
  obtain ⟨r, kr, rfl, N10q, KQ10, E_r, V_r, g_r, sz_r0⟩ := hQ10
  have N10 := Fr.app N0 N10q
  have F_last_a := F_last_a.keep KQ10 nin0
  have E_la := E_la.keep KQ10
  have V_la := V_la.keep KQ10 nin0
  have Z11 : n0 ≤ T10.heap.size := Nat.le_trans Z0 KQ10.1
  have K11 := K0.trans KQ10 all0
  have ne_a_r : a ≠ r := Nat.ne_of_lt (Nat.lt_of_lt_of_le lt_a (by exact sz_r0))
  have ne_r_a := ne_a_r.symm
  have ne_la_r : la ≠ r := Nat.ne_of_lt (Nat.lt_of_lt_of_le lt_la (by exact sz_r0))
  have ne_r_la := ne_la_r.symm
  have sz_r : h0.size ≤ r := Nat.le_trans K0.1 sz_r0
  refine Goes.pre (U' := T10.setTop (mkF m 42 #[.val (.ref a), .val (.int (1 : Int32)), .unset] [(.ref r)])) (fun t k => st10 t k) ?_
  refine Goes.pre (U' := T10.setTop (mkF m 43 #[.val (.ref a), .val (.int (1 : Int32)), .val (.ref r)] [])) (fun t k => XS.astoreN X10.here hx rfl (hb hby d4_42) rfl rfl (l' := #[.val (.ref a), .val (.int (1 : Int32)), .val (.ref r)]) rfl k) ?_
  refine Goes.pre (U' := T10.setTop (mkF m 44 #[.val (.ref a), .val (.int (1 : Int32)), .val (.ref r)] [(.ref r)])) (fun t k => XS.aloadN X10.here hx rfl (hb hby d4_43) rfl rfl k) ?_
  refine Goes.pre (U' := T10.setTop (mkF m 45 #[.val (.ref a), .val (.int (1 : Int32)), .val (.ref r)] [(.int (1 : Int32)), (.ref r)])) (fun t k => XS.iloadN X10.here hx rfl (hb hby d4_44) rfl k) ?_
  refine Goes.pre (U' := T10.setTop (mkF m 46 #[.val (.ref a), .val (.int (1 : Int32)), .val (.ref r)] [(.int (1 : Int32)), (.int (1 : Int32)), (.ref r)])) (fun t k => XS.iconst X10.here hx rfl (hb hby d4_45) k) ?_
  refine Goes.pre (U' := T10.setTop (mkF m 47 #[.val (.ref a), .val (.int (1 : Int32)), .val (.ref r)] [(.int ((1 : Int32) - (1 : Int32))), (.ref r)])) (fun t k => XS.isub X10.here hx rfl (hb hby d4_46) rfl k) ?_
  rw [(by decide : ((1 : Int32) - (1 : Int32)) = (0 : Int32))]
  refine Goes.pre (U' := T10.setTop (mkF m 48 #[.val (.ref a), .val (.int (1 : Int32)), .val (.ref r)] [(.int (0 : Int32)), (.ref r), (.int (0 : Int32)), (.ref r)])) (fun t k => XT.dup2 X10.here hx rfl (hb hby d4_47) rfl rfl rfl k) ?_
  obtain ⟨cl12, Ar12, q12, Sz12, Ng12, Hs12, Ft12⟩ := id V_r
  have hin12 := inb_of (j := (0 : Int32)) Sz12 ⟨by decide, by decide⟩
  refine Goes.pre (U' := T10.setTop (mkF m 49 #[.val (.ref a), .val (.int (1 : Int32)), .val (.ref r)] [(.int b0), (.int (0 : Int32)), (.ref r)])) (fun t k => X10.baloadBytes hx (j := (0 : Int32)) (v := (.int b0)) Ar12.1 (State.isArrayOf_alike hZ.alike Ar12.2.1) Ar12.2.2 hin12 (Has.at Hs12 hin12 rfl) (g := (mkF m 48 #[.val (.ref a), .val (.int (1 : Int32)), .val (.ref r)] [(.int (0 : Int32)), (.ref r), (.int (0 : Int32)), (.ref r)])) rfl rfl (hb hby d4_48) _ k) ?_
  refine Goes.pre (U' := T10.setTop (mkF m 50 #[.val (.ref a), .val (.int (1 : Int32)), .val (.ref r)] [(.int (1 : Int32)), (.int b0), (.int (0 : Int32)), (.ref r)])) (fun t k => XS.iconst X10.here hx rfl (hb hby d4_49) k) ?_
  refine Goes.pre (U' := T10.setTop (mkF m 51 #[.val (.ref a), .val (.int (1 : Int32)), .val (.ref r)] [(.int (b0 + (1 : Int32))), (.int (0 : Int32)), (.ref r)])) (fun t k => XS.iadd X10.here hx rfl (hb hby d4_50) rfl k) ?_
  refine Goes.pre (U' := T10.setTop (mkF m 52 #[.val (.ref a), .val (.int (1 : Int32)), .val (.ref r)] [(.int ((b0 + (1 : Int32)).toInt8.toInt32)), (.int (0 : Int32)), (.ref r)])) (fun t k => XS.i2b X10.here hx rfl (hb hby d4_51) rfl k) ?_
  obtain ⟨cl13, Ar13, q13, Sz13, Ng13, Hs13, Ft13⟩ := id V_r
  obtain ⟨T13, h13, X13, e13, W13, st13⟩ := stB X10 hx hZ rfl Ar13 (j := (0 : Int32)) (inb_of Sz13 ⟨by decide, by decide⟩) (g := (mkF m 52 #[.val (.ref a), .val (.int (1 : Int32)), .val (.ref r)] [(.int ((b0 + (1 : Int32)).toInt8.toInt32)), (.int (0 : Int32)), (.ref r)])) rfl rfl (hb hby d4_52)
  have nr13 : nar .byte ((b0 + (1 : Int32)).toInt8.toInt32) = ((b0 + (1 : Int32)).toInt8.toInt32) := own_bb _
  have ft13 : fits .byte (.int ((b0 + (1 : Int32)).toInt8.toInt32)) = true := nr13 ▸ (fits_nar_byte ((b0 + (1 : Int32)).toInt8.toInt32) : fits .byte (.int (nar .byte ((b0 + (1 : Int32)).toInt8.toInt32))) = true)
  rw [nr13] at W13
  have F_last_a := F_last_a.other W13 (Or.inl ne_a_r)
  have E_la := E_la.wr W13
  have V_la := V_la.other W13 ne_la_r
  have E_r := E_r.wr W13
  have Z13 : n0 ≤ h13.size := Nat.le_trans Z11 (Keep.of_wr W13).1
  have V_r : Arv Z h13 r kr .byte (1 : Int32) [(.int ((b0 + (1 : Int32)).toInt8.toInt32))] (.int (0 : Int32)) := Arv.set Ar13 q13 Sz13 Ng13 Hs13 Ft13 ft13 W13 0 rfl (Nat.le_of_ble_eq_true rfl)
  have K13 := K11.wr W13 (Or.inr sz_r)
  have N13 := Fr.snoc X13 N10 g_r
  refine Goes.pre (U' := T13.setTop (mkF m 53 #[.val (.ref a), .val (.int (1 : Int32)), .val (.ref r)] [])) (fun t k => st13 t k) ?_
  refine Goes.pre (U' := T13.setTop (mkF m 54 #[.val (.ref a), .val (.int (1 : Int32)), .val (.ref r)] [(.ref r)])) (fun t k => XS.aloadN X13.here hx rfl (hb hby d4_53) rfl rfl k) ?_
  refine Goes.ret X13 (v := (some (.ref r))) (fun h => by rw [Bd.returns] at h; cases h) Bd.notSynchronized (by decide) (by decide) e13 (fun fs hr => retOut X13 hx Bd.returns rfl (Or.inr (Or.inr (Or.inr (Or.inr ⟨rfl, rfl, rfl⟩)))) (hb hby d4_54) hr) ?_
  exact ⟨r, kr, rfl, N13, K13, V_r, g_r, sz_r⟩
theorem ef_rm_end32 (m : MethodId) (x0 : Addr) : entryFrame m #[(.ref x0)] 3 = mkF m 0 #[.val (.ref x0), .unset, .unset] [] := by first | (simp [entryFrame, mkF, argsToLocals, Value.category]; done) | rfl
def Q_rm_end32 (Z : State) (a la : Addr) (kc : ClassId) (b0 b1 b2 : Int32) (h0 : Heap) (n0 : Nat) (v : Option Value) (h : Heap) (L : List Loc) : Prop := ∃ (r : Addr) (kr : ClassId), v = some (.ref r) ∧ Fr n0 L ∧ Keep h0 h [] ∧ Arv Z h r kr .byte (2 : Int32) [(.int b0), (.int ((b1 + (1 : Int32)).toInt8.toInt32))] (.int (0 : Int32)) ∧ n0 ≤ r ∧ h0.size ≤ r
set_option maxRecDepth 65536 in
set_option maxHeartbeats 40000000 in
theorem rm_end32 (l : Launch) (Z : State) (a0 : Array Value) (hw : ∀ d ∈ tables_1, d.before a0 Z = true) (ws : List Jvm.Cond) (a la : Addr) (kc : ClassId) (b0 b1 b2 : Int32) (h0 : Heap) (n0 : Nat) (Z0 : n0 ≤ h0.size) (F_last_a : Fld Z h0 a "com/example/known_paths/knownpaths/key/KeyRange" "last" "[B" (.ref la)) (E_la : Exa Z h0 la "[B") (V_la : Arv Z h0 la kc .byte (3 : Int32) [(.int b0), (.int b1), (.int b2)] (.int (0 : Int32))) (hq2 : b2 = (-1 : Int32)) (hk : ¬ (b1 = (-1 : Int32))) :
    MetFree l (⟨"com/example/known_paths/knownpaths/key/KeyRange", "end", "()[B"⟩ : MethodName) (head1 (Jvm.Cond.code (⟨"com/example/known_paths/knownpaths/key/KeyRange", "end", "()[B"⟩ : MethodName) prog_10_method_4_code 3 (some (.array .byte)) :: ws) ({ frames := 2, cells := 1, slots := 2, locals := 32 } : Room)) (fun argv U => argv = #[(.ref a)] ∧ Z.Warmed39 U.vm ∧ U.heap = h0) (fun _ _ _ _ _ => True) (fun _ U o U' => ∃ v L, o = .returned v ∧ Q_rm_end32 Z a la kc b0 b1 b2 h0 n0 v U'.heap L ∧ FrameEnd U o U' L ({ frames := 2, cells := 1, slots := 2, locals := 32 } : Room).cells ({ frames := 2, cells := 1, slots := 2, locals := 32 } : Room).slots) := by
  refine MetFree.of_bodySF (plainFor_of_name pn_com_example_known_paths_knownpaths_key_KeyRange) hisR ?_
  intro p e s m args below meth c s₁ Bd hml0 hP hK
  obtain ⟨rfl, hZ, hh⟩ := hP
  have hx := Bd.exec
  have hby := Bd.bytes
  have hml : c.maxLocals = 3 := hml0
  have hown : s.vm.findClass "com/example/known_paths/knownpaths/key/KeyRange" = some m.cls := findClass_of_methodNamed Bd.named
  have hnm := (name_of_methodNamed Bd.named Bd.method).1
  have X0 : Stand p l e ({ frames := 2, cells := 1, slots := 2, locals := 32 } : Room) s m #[(.ref a)] below meth c s₁ [] 0 0 := Stand.of_body Bd
  have e0 : s₁.heap = h0 := by rw [← hh, Bd.state]; rfl
  have N0 := Fr.nil n0
  have K0 := Keep.refl h0 []
  refine Goes.enter (Q := fun v h L => Q_rm_end32 Z a la kc b0 b1 b2 h0 n0 v h L) (C := ({ frames := 2, cells := 1, slots := 2, locals := 32 } : Room).cells) (S := ({ frames := 2, cells := 1, slots := 2, locals := 32 } : Room).slots) (ef_rm_end32 m a) ?_
  show Goes p e below s _ _ _ (s₁.setTop (mkF m 0 #[.val (.ref a), .unset, .unset] []))
  refine Goes.pre (U' := s₁.setTop (mkF m 1 #[.val (.ref a), .unset, .unset] [(.ref a)])) (fun t k => XS.aloadN X0.here hx rfl (hb hby d4_0) rfl rfl k) ?_
  obtain ⟨T1, X1, e1, st1⟩ := getF X0 hx hZ hown (host := "") (Or.inl (hw _ (List.mem_of_getElem? (i := 17) rfl))) Via.refl e0 F_last_a (g := (mkF m 1 #[.val (.ref a), .unset, .unset] [(.ref a)])) rfl rfl (hb hby d4_1)
  refine Goes.pre (U' := T1.setTop (mkF m 4 #[.val (.ref a), .unset, .unset] [(.ref la)])) (fun t k => st1 t k) ?_
  obtain ⟨cl2, Ar2, q2, Sz2, Ng2, -, -⟩ := id V_la
  have ln2 := len_of Sz2 Ng2
  refine Goes.pre (U' := T1.setTop (mkF m 5 #[.val (.ref a), .unset, .unset] [(.int (3 : Int32))])) (fun t k => X1.arraylength hx (by rw [e1]; exact Ar2.1) (State.isArrayOf_alike hZ.alike Ar2.2.1) (g := (mkF m 4 #[.val (.ref a), .unset, .unset] [(.ref la)])) rfl rfl (hb hby d4_4) _ (by rw [ln2]; exact k)) ?_
  refine Goes.pre (U' := T1.setTop (mkF m 6 #[.val (.ref a), .val (.int (3 : Int32)), .unset] [])) (fun t k => XS.istoreN X1.here hx rfl (hb hby d4_5) rfl (l' := #[.val (.ref a), .val (.int (3 : Int32)), .unset]) rfl k) ?_
  refine Goes.pre (U' := T1.setTop (mkF m 7 #[.val (.ref a), .val (.int (3 : Int32)), .unset] [(.int (3 : Int32))])) (fun t k => XS.iloadN X1.here hx rfl (hb hby d4_6) rfl k) ?_
  have hc7 : (0 : Int32) < (3 : Int32) := by decide
  refine Goes.pre (U' := T1.setTop (mkF m 10 #[.val (.ref a), .val (.int (3 : Int32)), .unset] [])) (fun t k => XS.ifNo X1.here hx rfl (hb hby d4_7) rfl ((if0 _ _).trans (tlt hc7).2.2.2) k) ?_
  refine Goes.pre (U' := T1.setTop (mkF m 11 #[.val (.ref a), .val (.int (3 : Int32)), .unset] [(.ref a)])) (fun t k => XS.aloadN X1.here hx rfl (hb hby d4_10) rfl rfl k) ?_
  obtain ⟨T3, X3, e3, st3⟩ := getF X1 hx hZ hown (host := "") (Or.inl (hw _ (List.mem_of_getElem? (i := 17) rfl))) Via.refl e1 F_last_a (g := (mkF m 11 #[.val (.ref a), .val (.int (3 : Int32)), .unset] [(.ref a)])) rfl rfl (hb hby d4_11)
  refine Goes.pre (U' := T3.setTop (mkF m 14 #[.val (.ref a), .val (.int (3 : Int32)), .unset] [(.ref la)])) (fun t k => st3 t k) ?_
  refine Goes.pre (U' := T3.setTop (mkF m 15 #[.val (.ref a), .val (.int (3 : Int32)), .unset] [(.int (3 : Int32)), (.ref la)])) (fun t k => XS.iloadN X3.here hx rfl (hb hby d4_14) rfl k) ?_
  refine Goes.pre (U' := T3.setTop (mkF m 16 #[.val (.ref a), .val (.int (3 : Int32)), .unset] [(.int (1 : Int32)), (.int (3 : Int32)), (.ref la)])) (fun t k => XS.iconst X3.here hx rfl (hb hby d4_15) k) ?_
  refine Goes.pre (U' := T3.setTop (mkF m 17 #[.val (.ref a), .val (.int (3 : Int32)), .unset] [(.int ((3 : Int32) - (1 : Int32))), (.ref la)])) (fun t k => XS.isub X3.here hx rfl (hb hby d4_16) rfl k) ?_
  rw [(by decide : ((3 : Int32) - (1 : Int32)) = (2 : Int32))]
  obtain ⟨cl4, Ar4, q4, Sz4, Ng4, Hs4, Ft4⟩ := id V_la
  have hin4 := inb_of (j := (2 : Int32)) Sz4 ⟨by decide, by decide⟩
  refine Goes.pre (U' := T3.setTop (mkF m 18 #[.val (.ref a), .val (.int (3 : Int32)), .unset] [(.int b2)])) (fun t k => X3.baloadBytes hx (j := (2 : Int32)) (v := (.int b2)) (by rw [e3]; exact Ar4.1) (State.isArrayOf_alike hZ.alike Ar4.2.1) Ar4.2.2 hin4 (Has.at Hs4 hin4 rfl) (g := (mkF m 17 #[.val (.ref a), .val (.int (3 : Int32)), .unset] [(.int (2 : Int32)), (.ref la)])) rfl rfl (hb hby d4_17) _ k) ?_
  refine Goes.pre (U' := T3.setTop (mkF m 19 #[.val (.ref a), .val (.int (3 : Int32)), .unset] [(.int (-1 : Int32)), (.int b2)])) (fun t k => XS.iconst X3.here hx rfl (hb hby d4_18) k) ?_
  have hc19 : b2 = (-1 : Int32) := hq2
  refine Goes.pre (U' := T3.setTop (mkF m 22 #[.val (.ref a), .val (.int (3 : Int32)), .unset] [])) (fun t k => XS.icmpNo X3.here hx rfl (hb hby d4_19) rfl (teq hc19).2 k) ?_
  refine Goes.pre (U' := T3.setTop (mkF m 25 #[.val (.ref a), .val (.int ((3 : Int32) + (-1 : Int32))), .unset] [])) (fun t k => XT.iincV X3.here hx rfl (-1 : Int32) (hb hby d4_22) (by decide) rfl (l' := #[.val (.ref a), .val (.int ((3 : Int32) + (-1 : Int32))), .unset]) rfl k) ?_
  rw [(by decide : ((3 : Int32) + (-1 : Int32)) = (2 : Int32))]
  refine Goes.pre (U' := T3.setTop (mkF m 6 #[.val (.ref a), .val (.int (2 : Int32)), .unset] [])) (fun t k => XS.goto X3.here hx rfl (pc0 := 25) (pc' := 6) rfl (hb hby d4_25) (by decide) (by decide) k) ?_
  refine Goes.pre (U' := T3.setTop (mkF m 7 #[.val (.ref a), .val (.int (2 : Int32)), .unset] [(.int (2 : Int32))])) (fun t k => XS.iloadN X3.here hx rfl (hb hby d4_6) rfl k) ?_
  have hc7 : (0 : Int32) < (2 : Int32) := by decide
  refine Goes.pre (U' := T3.setTop (mkF m 10 #[.val (.ref a), .val (.int (2 : Int32)), .unset] [])) (fun t k => XS.ifNo X3.here hx rfl (hb hby d4_7) rfl ((if0 _ _).trans (tlt hc7).2.2.2) k) ?_
  refine Goes.pre (U' := T3.setTop (mkF m 11 #[.val (.ref a), .val (.int (2 : Int32)), .unset] [(.ref a)])) (fun t k => XS.aloadN X3.here hx rfl (hb hby d4_10) rfl rfl k) ?_
  obtain ⟨T5, X5, e5, st5⟩ := getF X3 hx hZ hown (host := "") (Or.inl (hw _ (List.mem_of_getElem? (i := 17) rfl))) Via.refl e3 F_last_a (g := (mkF m 11 #[.val (.ref a), .val (.int (2 : Int32)), .unset] [(.ref a)])) rfl rfl (hb hby d4_11)
  refine Goes.pre (U' := T5.setTop (mkF m 14 #[.val (.ref a), .val (.int (2 : Int32)), .unset] [(.ref la)])) (fun t k => st5 t k) ?_
  refine Goes.pre (U' := T5.setTop (mkF m 15 #[.val (.ref a), .val (.int (2 : Int32)), .unset] [(.int (2 : Int32)), (.ref la)])) (fun t k => XS.iloadN X5.here hx rfl (hb hby d4_14) rfl k) ?_
  refine Goes.pre (U' := T5.setTop (mkF m 16 #[.val (.ref a), .val (.int (2 : Int32)), .unset] [(.int (1 : Int32)), (.int (2 : Int32)), (.ref la)])) (fun t k => XS.iconst X5.here hx rfl (hb hby d4_15) k) ?_
  refine Goes.pre (U' := T5.setTop (mkF m 17 #[.val (.ref a), .val (.int (2 : Int32)), .unset] [(.int ((2 : Int32) - (1 : Int32))), (.ref la)])) (fun t k => XS.isub X5.here hx rfl (hb hby d4_16) rfl k) ?_
  rw [(by decide : ((2 : Int32) - (1 : Int32)) = (1 : Int32))]
  obtain ⟨cl6, Ar6, q6, Sz6, Ng6, Hs6, Ft6⟩ := id V_la
  have hin6 := inb_of (j := (1 : Int32)) Sz6 ⟨by decide, by decide⟩
  refine Goes.pre (U' := T5.setTop (mkF m 18 #[.val (.ref a), .val (.int (2 : Int32)), .unset] [(.int b1)])) (fun t k => X5.baloadBytes hx (j := (1 : Int32)) (v := (.int b1)) (by rw [e5]; exact Ar6.1) (State.isArrayOf_alike hZ.alike Ar6.2.1) Ar6.2.2 hin6 (Has.at Hs6 hin6 rfl) (g := (mkF m 17 #[.val (.ref a), .val (.int (2 : Int32)), .unset] [(.int (1 : Int32)), (.ref la)])) rfl rfl (hb hby d4_17) _ k) ?_
  refine Goes.pre (U' := T5.setTop (mkF m 19 #[.val (.ref a), .val (.int (2 : Int32)), .unset] [(.int (-1 : Int32)), (.int b1)])) (fun t k => XS.iconst X5.here hx rfl (hb hby d4_18) k) ?_
  have hc19 : ¬ (b1 = (-1 : Int32)) := hk
  refine Goes.pre (U' := T5.setTop (mkF m 28 #[.val (.ref a), .val (.int (2 : Int32)), .unset] [])) (fun t k => XS.icmpYes X5.here hx rfl (pc0 := 19) (pc' := 28) rfl (hb hby d4_19) rfl (feq hc19).2 (by decide) (by decide) k) ?_
  refine Goes.pre (U' := T5.setTop (mkF m 29 #[.val (.ref a), .val (.int (2 : Int32)), .unset] [(.int (2 : Int32))])) (fun t k => XS.iloadN X5.here hx rfl (hb hby d4_28) rfl k) ?_
  have hc29 : ¬ ((2 : Int32) = (0 : Int32)) := by decide
  refine Goes.pre (U' := T5.setTop (mkF m 34 #[.val (.ref a), .val (.int (2 : Int32)), .unset] [])) (fun t k => XS.ifYes X5.here hx rfl (pc0 := 29) (pc' := 34) rfl (hb hby d4_29) rfl ((if0 _ _).trans (feq hc29).2) (by decide) (by decide) k) ?_
  refine Goes.pre (U' := T5.setTop (mkF m 35 #[.val (.ref a), .val (.int (2 : Int32)), .unset] [(.ref a)])) (fun t k => XS.aloadN X5.here hx rfl (hb hby d4_34) rfl rfl k) ?_
  obtain ⟨T7, X7, e7, st7⟩ := getF X5 hx hZ hown (host := "") (Or.inl (hw _ (List.mem_of_getElem? (i := 17) rfl))) Via.refl e5 F_last_a (g := (mkF m 35 #[.val (.ref a), .val (.int (2 : Int32)), .unset] [(.ref a)])) rfl rfl (hb hby d4_35)
  refine Goes.pre (U' := T7.setTop (mkF m 38 #[.val (.ref a), .val (.int (2 : Int32)), .unset] [(.ref la)])) (fun t k => st7 t k) ?_
  refine Goes.pre (U' := T7.setTop (mkF m 39 #[.val (.ref a), .val (.int (2 : Int32)), .unset] [(.int (2 : Int32)), (.ref la)])) (fun t k => XS.iloadN X7.here hx rfl (hb hby d4_38) rfl k) ?_
  have lt_a := F_last_a.lt
  have lt_la := E_la.lt
  obtain ⟨_, _, ⟨T8, L8, k8, n8⟩, -, X8, ⟨Lc8, hQ8, l8, y8, z8⟩, st8⟩ := Jvm.LawKit.callS X7 hx (y := (⟨"java/util/Arrays", "copyOf", "([BI)[B"⟩ : MethodName)) hown (mvT hZ (hw _ (List.mem_of_getElem? (i := 24) rfl))) (mvT hZ (hw _ (List.mem_of_getElem? (i := 25) rfl))) (mvT hZ (hw _ (List.mem_of_getElem? (i := 26) rfl))) (mvT hZ (hw _ (List.mem_of_getElem? (i := 27) rfl))) (by decide) (backOf (W := 0) (rm_copy32 l Z a0 hw [] la kc b0 b1 b2 h0 n0 Z0 E_la V_la) hZ (hw _ (List.mem_of_getElem? (i := 27) rfl)) (hw _ (List.mem_of_getElem? (i := 26) rfl)) (by decide) (by decide)) (g := (mkF m 39 #[.val (.ref a), .val (.int (2 : Int32)), .unset] [(.int (2 : Int32)), (.ref la)])) rfl (by rw [hml]; rfl) (argsL := [(.ref la), (.int (2 : Int32))]) (rest := []) (lenOf pd__28_5bBI_29_5bB rfl) rfl (by show 2 * 0 + _ ≤ _; exact Nat.le_of_eq rfl) (hb hby d4_39) (fun _ _ => ⟨rfl, e7, (by decide : 0 + 1 ≤ _), (by decide : 0 + 2 ≤ _)⟩)
  dsimp only [Pt.U, Pt.locs, Pt.cells, Pt.slots] at X8 l8 y8 z8 st8 hQ8
  subst l8 y8 z8
  obtain ⟨r, kr, rfl, N8q, KQ8, E_r, V_r, g_r, sz_r0⟩ := hQ8
  have N8 := Fr.app N0 N8q
  have F_last_a := F_last_a.keep KQ8 nin0
  have E_la := E_la.keep KQ8
  have V_la := V_la.keep KQ8 nin0
  have Z9 : n0 ≤ T8.heap.size := Nat.le_trans Z0 KQ8.1
  have K9 := K0.trans KQ8 all0
  have ne_a_r : a ≠ r := Nat.ne_of_lt (Nat.lt_of_lt_of_le lt_a (by exact sz_r0))
  have ne_r_a := ne_a_r.symm
  have ne_la_r : la ≠ r := Nat.ne_of_lt (Nat.lt_of_lt_of_le lt_la (by exact sz_r0))
  have ne_r_la := ne_la_r.symm
  have sz_r : h0.size ≤ r := Nat.le_trans K0.1 sz_r0
  refine Goes.pre (U' := T8.setTop (mkF m 42 #[.val (.ref a), .val (.int (2 : Int32)), .unset] [(.ref r)])) (fun t k => st8 t k) ?_
  refine Goes.pre (U' := T8.setTop (mkF m 43 #[.val (.ref a), .val (.int (2 : Int32)), .val (.ref r)] [])) (fun t k => XS.astoreN X8.here hx rfl (hb hby d4_42) rfl rfl (l' := #[.val (.ref a), .val (.int (2 : Int32)), .val (.ref r)]) rfl k) ?_
  refine Goes.pre (U' := T8.setTop (mkF m 44 #[.val (.ref a), .val (.int (2 : Int32)), .val (.ref r)] [(.ref r)])) (fun t k => XS.aloadN X8.here hx rfl (hb hby d4_43) rfl rfl k) ?_
  refine Goes.pre (U' := T8.setTop (mkF m 45 #[.val (.ref a), .val (.int (2 : Int32)), .val (.ref r)] [(.int (2 : Int32)), (.ref r)])) (fun t k => XS.iloadN X8.here hx rfl (hb hby d4_44) rfl k) ?_
  refine Goes.pre (U' := T8.setTop (mkF m 46 #[.val (.ref a), .val (.int (2 : Int32)), .val (.ref r)] [(.int (1 : Int32)), (.int (2 : Int32)), (.ref r)])) (fun t k => XS.iconst X8.here hx rfl (hb hby d4_45) k) ?_
  refine Goes.pre (U' := T8.setTop (mkF m 47 #[.val (.ref a), .val (.int (2 : Int32)), .val (.ref r)] [(.int ((2 : Int32) - (1 : Int32))), (.ref r)])) (fun t k => XS.isub X8.here hx rfl (hb hby d4_46) rfl k) ?_
  rw [(by decide : ((2 : Int32) - (1 : Int32)) = (1 : Int32))]
  refine Goes.pre (U' := T8.setTop (mkF m 48 #[.val (.ref a), .val (.int (2 : Int32)), .val (.ref r)] [(.int (1 : Int32)), (.ref r), (.int (1 : Int32)), (.ref r)])) (fun t k => XT.dup2 X8.here hx rfl (hb hby d4_47) rfl rfl rfl k) ?_
  obtain ⟨cl10, Ar10, q10, Sz10, Ng10, Hs10, Ft10⟩ := id V_r
  have hin10 := inb_of (j := (1 : Int32)) Sz10 ⟨by decide, by decide⟩
  refine Goes.pre (U' := T8.setTop (mkF m 49 #[.val (.ref a), .val (.int (2 : Int32)), .val (.ref r)] [(.int b1), (.int (1 : Int32)), (.ref r)])) (fun t k => X8.baloadBytes hx (j := (1 : Int32)) (v := (.int b1)) Ar10.1 (State.isArrayOf_alike hZ.alike Ar10.2.1) Ar10.2.2 hin10 (Has.at Hs10 hin10 rfl) (g := (mkF m 48 #[.val (.ref a), .val (.int (2 : Int32)), .val (.ref r)] [(.int (1 : Int32)), (.ref r), (.int (1 : Int32)), (.ref r)])) rfl rfl (hb hby d4_48) _ k) ?_
  refine Goes.pre (U' := T8.setTop (mkF m 50 #[.val (.ref a), .val (.int (2 : Int32)), .val (.ref r)] [(.int (1 : Int32)), (.int b1), (.int (1 : Int32)), (.ref r)])) (fun t k => XS.iconst X8.here hx rfl (hb hby d4_49) k) ?_
  refine Goes.pre (U' := T8.setTop (mkF m 51 #[.val (.ref a), .val (.int (2 : Int32)), .val (.ref r)] [(.int (b1 + (1 : Int32))), (.int (1 : Int32)), (.ref r)])) (fun t k => XS.iadd X8.here hx rfl (hb hby d4_50) rfl k) ?_
  refine Goes.pre (U' := T8.setTop (mkF m 52 #[.val (.ref a), .val (.int (2 : Int32)), .val (.ref r)] [(.int ((b1 + (1 : Int32)).toInt8.toInt32)), (.int (1 : Int32)), (.ref r)])) (fun t k => XS.i2b X8.here hx rfl (hb hby d4_51) rfl k) ?_
  obtain ⟨cl11, Ar11, q11, Sz11, Ng11, Hs11, Ft11⟩ := id V_r
  obtain ⟨T11, h11, X11, e11, W11, st11⟩ := stB X8 hx hZ rfl Ar11 (j := (1 : Int32)) (inb_of Sz11 ⟨by decide, by decide⟩) (g := (mkF m 52 #[.val (.ref a), .val (.int (2 : Int32)), .val (.ref r)] [(.int ((b1 + (1 : Int32)).toInt8.toInt32)), (.int (1 : Int32)), (.ref r)])) rfl rfl (hb hby d4_52)
  have nr11 : nar .byte ((b1 + (1 : Int32)).toInt8.toInt32) = ((b1 + (1 : Int32)).toInt8.toInt32) := own_bb _
  have ft11 : fits .byte (.int ((b1 + (1 : Int32)).toInt8.toInt32)) = true := nr11 ▸ (fits_nar_byte ((b1 + (1 : Int32)).toInt8.toInt32) : fits .byte (.int (nar .byte ((b1 + (1 : Int32)).toInt8.toInt32))) = true)
  rw [nr11] at W11
  have F_last_a := F_last_a.other W11 (Or.inl ne_a_r)
  have E_la := E_la.wr W11
  have V_la := V_la.other W11 ne_la_r
  have E_r := E_r.wr W11
  have Z11 : n0 ≤ h11.size := Nat.le_trans Z9 (Keep.of_wr W11).1
  have V_r : Arv Z h11 r kr .byte (2 : Int32) [(.int b0), (.int ((b1 + (1 : Int32)).toInt8.toInt32))] (.int (0 : Int32)) := Arv.set Ar11 q11 Sz11 Ng11 Hs11 Ft11 ft11 W11 1 rfl (Nat.le_of_ble_eq_true rfl)
  have K11 := K9.wr W11 (Or.inr sz_r)
  have N11 := Fr.snoc X11 N8 g_r
  refine Goes.pre (U' := T11.setTop (mkF m 53 #[.val (.ref a), .val (.int (2 : Int32)), .val (.ref r)] [])) (fun t k => st11 t k) ?_
  refine Goes.pre (U' := T11.setTop (mkF m 54 #[.val (.ref a), .val (.int (2 : Int32)), .val (.ref r)] [(.ref r)])) (fun t k => XS.aloadN X11.here hx rfl (hb hby d4_53) rfl rfl k) ?_
  refine Goes.ret X11 (v := (some (.ref r))) (fun h => by rw [Bd.returns] at h; cases h) Bd.notSynchronized (by decide) (by decide) e11 (fun fs hr => retOut X11 hx Bd.returns rfl (Or.inr (Or.inr (Or.inr (Or.inr ⟨rfl, rfl, rfl⟩)))) (hb hby d4_54) hr) ?_
  exact ⟨r, kr, rfl, N11, K11, V_r, g_r, sz_r⟩
theorem ef_rm_end33 (m : MethodId) (x0 : Addr) : entryFrame m #[(.ref x0)] 3 = mkF m 0 #[.val (.ref x0), .unset, .unset] [] := by first | (simp [entryFrame, mkF, argsToLocals, Value.category]; done) | rfl
def Q_rm_end33 (Z : State) (a la : Addr) (kc : ClassId) (b0 b1 b2 : Int32) (h0 : Heap) (n0 : Nat) (v : Option Value) (h : Heap) (L : List Loc) : Prop := ∃ (r : Addr) (kr : ClassId), v = some (.ref r) ∧ Fr n0 L ∧ Keep h0 h [] ∧ Arv Z h r kr .byte (3 : Int32) [(.int b0), (.int b1), (.int ((b2 + (1 : Int32)).toInt8.toInt32))] (.int (0 : Int32)) ∧ n0 ≤ r ∧ h0.size ≤ r
set_option maxRecDepth 65536 in
set_option maxHeartbeats 40000000 in
theorem rm_end33 (l : Launch) (Z : State) (a0 : Array Value) (hw : ∀ d ∈ tables_1, d.before a0 Z = true) (ws : List Jvm.Cond) (a la : Addr) (kc : ClassId) (b0 b1 b2 : Int32) (h0 : Heap) (n0 : Nat) (Z0 : n0 ≤ h0.size) (F_last_a : Fld Z h0 a "com/example/known_paths/knownpaths/key/KeyRange" "last" "[B" (.ref la)) (E_la : Exa Z h0 la "[B") (V_la : Arv Z h0 la kc .byte (3 : Int32) [(.int b0), (.int b1), (.int b2)] (.int (0 : Int32))) (hk : ¬ (b2 = (-1 : Int32))) :
    MetFree l (⟨"com/example/known_paths/knownpaths/key/KeyRange", "end", "()[B"⟩ : MethodName) (head1 (Jvm.Cond.code (⟨"com/example/known_paths/knownpaths/key/KeyRange", "end", "()[B"⟩ : MethodName) prog_10_method_4_code 3 (some (.array .byte)) :: ws) ({ frames := 2, cells := 1, slots := 3, locals := 28 } : Room)) (fun argv U => argv = #[(.ref a)] ∧ Z.Warmed39 U.vm ∧ U.heap = h0) (fun _ _ _ _ _ => True) (fun _ U o U' => ∃ v L, o = .returned v ∧ Q_rm_end33 Z a la kc b0 b1 b2 h0 n0 v U'.heap L ∧ FrameEnd U o U' L ({ frames := 2, cells := 1, slots := 3, locals := 28 } : Room).cells ({ frames := 2, cells := 1, slots := 3, locals := 28 } : Room).slots) := by
  refine MetFree.of_bodySF (plainFor_of_name pn_com_example_known_paths_knownpaths_key_KeyRange) hisR ?_
  intro p e s m args below meth c s₁ Bd hml0 hP hK
  obtain ⟨rfl, hZ, hh⟩ := hP
  have hx := Bd.exec
  have hby := Bd.bytes
  have hml : c.maxLocals = 3 := hml0
  have hown : s.vm.findClass "com/example/known_paths/knownpaths/key/KeyRange" = some m.cls := findClass_of_methodNamed Bd.named
  have hnm := (name_of_methodNamed Bd.named Bd.method).1
  have X0 : Stand p l e ({ frames := 2, cells := 1, slots := 3, locals := 28 } : Room) s m #[(.ref a)] below meth c s₁ [] 0 0 := Stand.of_body Bd
  have e0 : s₁.heap = h0 := by rw [← hh, Bd.state]; rfl
  have N0 := Fr.nil n0
  have K0 := Keep.refl h0 []
  refine Goes.enter (Q := fun v h L => Q_rm_end33 Z a la kc b0 b1 b2 h0 n0 v h L) (C := ({ frames := 2, cells := 1, slots := 3, locals := 28 } : Room).cells) (S := ({ frames := 2, cells := 1, slots := 3, locals := 28 } : Room).slots) (ef_rm_end33 m a) ?_
  show Goes p e below s _ _ _ (s₁.setTop (mkF m 0 #[.val (.ref a), .unset, .unset] []))
  refine Goes.pre (U' := s₁.setTop (mkF m 1 #[.val (.ref a), .unset, .unset] [(.ref a)])) (fun t k => XS.aloadN X0.here hx rfl (hb hby d4_0) rfl rfl k) ?_
  obtain ⟨T1, X1, e1, st1⟩ := getF X0 hx hZ hown (host := "") (Or.inl (hw _ (List.mem_of_getElem? (i := 17) rfl))) Via.refl e0 F_last_a (g := (mkF m 1 #[.val (.ref a), .unset, .unset] [(.ref a)])) rfl rfl (hb hby d4_1)
  refine Goes.pre (U' := T1.setTop (mkF m 4 #[.val (.ref a), .unset, .unset] [(.ref la)])) (fun t k => st1 t k) ?_
  obtain ⟨cl2, Ar2, q2, Sz2, Ng2, -, -⟩ := id V_la
  have ln2 := len_of Sz2 Ng2
  refine Goes.pre (U' := T1.setTop (mkF m 5 #[.val (.ref a), .unset, .unset] [(.int (3 : Int32))])) (fun t k => X1.arraylength hx (by rw [e1]; exact Ar2.1) (State.isArrayOf_alike hZ.alike Ar2.2.1) (g := (mkF m 4 #[.val (.ref a), .unset, .unset] [(.ref la)])) rfl rfl (hb hby d4_4) _ (by rw [ln2]; exact k)) ?_
  refine Goes.pre (U' := T1.setTop (mkF m 6 #[.val (.ref a), .val (.int (3 : Int32)), .unset] [])) (fun t k => XS.istoreN X1.here hx rfl (hb hby d4_5) rfl (l' := #[.val (.ref a), .val (.int (3 : Int32)), .unset]) rfl k) ?_
  refine Goes.pre (U' := T1.setTop (mkF m 7 #[.val (.ref a), .val (.int (3 : Int32)), .unset] [(.int (3 : Int32))])) (fun t k => XS.iloadN X1.here hx rfl (hb hby d4_6) rfl k) ?_
  have hc7 : (0 : Int32) < (3 : Int32) := by decide
  refine Goes.pre (U' := T1.setTop (mkF m 10 #[.val (.ref a), .val (.int (3 : Int32)), .unset] [])) (fun t k => XS.ifNo X1.here hx rfl (hb hby d4_7) rfl ((if0 _ _).trans (tlt hc7).2.2.2) k) ?_
  refine Goes.pre (U' := T1.setTop (mkF m 11 #[.val (.ref a), .val (.int (3 : Int32)), .unset] [(.ref a)])) (fun t k => XS.aloadN X1.here hx rfl (hb hby d4_10) rfl rfl k) ?_
  obtain ⟨T3, X3, e3, st3⟩ := getF X1 hx hZ hown (host := "") (Or.inl (hw _ (List.mem_of_getElem? (i := 17) rfl))) Via.refl e1 F_last_a (g := (mkF m 11 #[.val (.ref a), .val (.int (3 : Int32)), .unset] [(.ref a)])) rfl rfl (hb hby d4_11)
  refine Goes.pre (U' := T3.setTop (mkF m 14 #[.val (.ref a), .val (.int (3 : Int32)), .unset] [(.ref la)])) (fun t k => st3 t k) ?_
  refine Goes.pre (U' := T3.setTop (mkF m 15 #[.val (.ref a), .val (.int (3 : Int32)), .unset] [(.int (3 : Int32)), (.ref la)])) (fun t k => XS.iloadN X3.here hx rfl (hb hby d4_14) rfl k) ?_
  refine Goes.pre (U' := T3.setTop (mkF m 16 #[.val (.ref a), .val (.int (3 : Int32)), .unset] [(.int (1 : Int32)), (.int (3 : Int32)), (.ref la)])) (fun t k => XS.iconst X3.here hx rfl (hb hby d4_15) k) ?_
  refine Goes.pre (U' := T3.setTop (mkF m 17 #[.val (.ref a), .val (.int (3 : Int32)), .unset] [(.int ((3 : Int32) - (1 : Int32))), (.ref la)])) (fun t k => XS.isub X3.here hx rfl (hb hby d4_16) rfl k) ?_
  rw [(by decide : ((3 : Int32) - (1 : Int32)) = (2 : Int32))]
  obtain ⟨cl4, Ar4, q4, Sz4, Ng4, Hs4, Ft4⟩ := id V_la
  have hin4 := inb_of (j := (2 : Int32)) Sz4 ⟨by decide, by decide⟩
  refine Goes.pre (U' := T3.setTop (mkF m 18 #[.val (.ref a), .val (.int (3 : Int32)), .unset] [(.int b2)])) (fun t k => X3.baloadBytes hx (j := (2 : Int32)) (v := (.int b2)) (by rw [e3]; exact Ar4.1) (State.isArrayOf_alike hZ.alike Ar4.2.1) Ar4.2.2 hin4 (Has.at Hs4 hin4 rfl) (g := (mkF m 17 #[.val (.ref a), .val (.int (3 : Int32)), .unset] [(.int (2 : Int32)), (.ref la)])) rfl rfl (hb hby d4_17) _ k) ?_
  refine Goes.pre (U' := T3.setTop (mkF m 19 #[.val (.ref a), .val (.int (3 : Int32)), .unset] [(.int (-1 : Int32)), (.int b2)])) (fun t k => XS.iconst X3.here hx rfl (hb hby d4_18) k) ?_
  have hc19 : ¬ (b2 = (-1 : Int32)) := hk
  refine Goes.pre (U' := T3.setTop (mkF m 28 #[.val (.ref a), .val (.int (3 : Int32)), .unset] [])) (fun t k => XS.icmpYes X3.here hx rfl (pc0 := 19) (pc' := 28) rfl (hb hby d4_19) rfl (feq hc19).2 (by decide) (by decide) k) ?_
  refine Goes.pre (U' := T3.setTop (mkF m 29 #[.val (.ref a), .val (.int (3 : Int32)), .unset] [(.int (3 : Int32))])) (fun t k => XS.iloadN X3.here hx rfl (hb hby d4_28) rfl k) ?_
  have hc29 : ¬ ((3 : Int32) = (0 : Int32)) := by decide
  refine Goes.pre (U' := T3.setTop (mkF m 34 #[.val (.ref a), .val (.int (3 : Int32)), .unset] [])) (fun t k => XS.ifYes X3.here hx rfl (pc0 := 29) (pc' := 34) rfl (hb hby d4_29) rfl ((if0 _ _).trans (feq hc29).2) (by decide) (by decide) k) ?_
  refine Goes.pre (U' := T3.setTop (mkF m 35 #[.val (.ref a), .val (.int (3 : Int32)), .unset] [(.ref a)])) (fun t k => XS.aloadN X3.here hx rfl (hb hby d4_34) rfl rfl k) ?_
  obtain ⟨T5, X5, e5, st5⟩ := getF X3 hx hZ hown (host := "") (Or.inl (hw _ (List.mem_of_getElem? (i := 17) rfl))) Via.refl e3 F_last_a (g := (mkF m 35 #[.val (.ref a), .val (.int (3 : Int32)), .unset] [(.ref a)])) rfl rfl (hb hby d4_35)
  refine Goes.pre (U' := T5.setTop (mkF m 38 #[.val (.ref a), .val (.int (3 : Int32)), .unset] [(.ref la)])) (fun t k => st5 t k) ?_
  refine Goes.pre (U' := T5.setTop (mkF m 39 #[.val (.ref a), .val (.int (3 : Int32)), .unset] [(.int (3 : Int32)), (.ref la)])) (fun t k => XS.iloadN X5.here hx rfl (hb hby d4_38) rfl k) ?_
  have lt_a := F_last_a.lt
  have lt_la := E_la.lt
  obtain ⟨_, _, ⟨T6, L6, k6, n6⟩, -, X6, ⟨Lc6, hQ6, l6, y6, z6⟩, st6⟩ := Jvm.LawKit.callS X5 hx (y := (⟨"java/util/Arrays", "copyOf", "([BI)[B"⟩ : MethodName)) hown (mvT hZ (hw _ (List.mem_of_getElem? (i := 24) rfl))) (mvT hZ (hw _ (List.mem_of_getElem? (i := 25) rfl))) (mvT hZ (hw _ (List.mem_of_getElem? (i := 26) rfl))) (mvT hZ (hw _ (List.mem_of_getElem? (i := 27) rfl))) (by decide) (backOf (W := 0) (rm_copy33 l Z a0 hw [] la kc b0 b1 b2 h0 n0 Z0 E_la V_la) hZ (hw _ (List.mem_of_getElem? (i := 27) rfl)) (hw _ (List.mem_of_getElem? (i := 26) rfl)) (by decide) (by decide)) (g := (mkF m 39 #[.val (.ref a), .val (.int (3 : Int32)), .unset] [(.int (3 : Int32)), (.ref la)])) rfl (by rw [hml]; rfl) (argsL := [(.ref la), (.int (3 : Int32))]) (rest := []) (lenOf pd__28_5bBI_29_5bB rfl) rfl (by show 2 * 0 + _ ≤ _; exact Nat.le_of_eq rfl) (hb hby d4_39) (fun _ _ => ⟨rfl, e5, (by decide : 0 + 1 ≤ _), (by decide : 0 + 3 ≤ _)⟩)
  dsimp only [Pt.U, Pt.locs, Pt.cells, Pt.slots] at X6 l6 y6 z6 st6 hQ6
  subst l6 y6 z6
  obtain ⟨r, kr, rfl, N6q, KQ6, E_r, V_r, g_r, sz_r0⟩ := hQ6
  have N6 := Fr.app N0 N6q
  have F_last_a := F_last_a.keep KQ6 nin0
  have E_la := E_la.keep KQ6
  have V_la := V_la.keep KQ6 nin0
  have Z7 : n0 ≤ T6.heap.size := Nat.le_trans Z0 KQ6.1
  have K7 := K0.trans KQ6 all0
  have ne_a_r : a ≠ r := Nat.ne_of_lt (Nat.lt_of_lt_of_le lt_a (by exact sz_r0))
  have ne_r_a := ne_a_r.symm
  have ne_la_r : la ≠ r := Nat.ne_of_lt (Nat.lt_of_lt_of_le lt_la (by exact sz_r0))
  have ne_r_la := ne_la_r.symm
  have sz_r : h0.size ≤ r := Nat.le_trans K0.1 sz_r0
  refine Goes.pre (U' := T6.setTop (mkF m 42 #[.val (.ref a), .val (.int (3 : Int32)), .unset] [(.ref r)])) (fun t k => st6 t k) ?_
  refine Goes.pre (U' := T6.setTop (mkF m 43 #[.val (.ref a), .val (.int (3 : Int32)), .val (.ref r)] [])) (fun t k => XS.astoreN X6.here hx rfl (hb hby d4_42) rfl rfl (l' := #[.val (.ref a), .val (.int (3 : Int32)), .val (.ref r)]) rfl k) ?_
  refine Goes.pre (U' := T6.setTop (mkF m 44 #[.val (.ref a), .val (.int (3 : Int32)), .val (.ref r)] [(.ref r)])) (fun t k => XS.aloadN X6.here hx rfl (hb hby d4_43) rfl rfl k) ?_
  refine Goes.pre (U' := T6.setTop (mkF m 45 #[.val (.ref a), .val (.int (3 : Int32)), .val (.ref r)] [(.int (3 : Int32)), (.ref r)])) (fun t k => XS.iloadN X6.here hx rfl (hb hby d4_44) rfl k) ?_
  refine Goes.pre (U' := T6.setTop (mkF m 46 #[.val (.ref a), .val (.int (3 : Int32)), .val (.ref r)] [(.int (1 : Int32)), (.int (3 : Int32)), (.ref r)])) (fun t k => XS.iconst X6.here hx rfl (hb hby d4_45) k) ?_
  refine Goes.pre (U' := T6.setTop (mkF m 47 #[.val (.ref a), .val (.int (3 : Int32)), .val (.ref r)] [(.int ((3 : Int32) - (1 : Int32))), (.ref r)])) (fun t k => XS.isub X6.here hx rfl (hb hby d4_46) rfl k) ?_
  rw [(by decide : ((3 : Int32) - (1 : Int32)) = (2 : Int32))]
  refine Goes.pre (U' := T6.setTop (mkF m 48 #[.val (.ref a), .val (.int (3 : Int32)), .val (.ref r)] [(.int (2 : Int32)), (.ref r), (.int (2 : Int32)), (.ref r)])) (fun t k => XT.dup2 X6.here hx rfl (hb hby d4_47) rfl rfl rfl k) ?_
  obtain ⟨cl8, Ar8, q8, Sz8, Ng8, Hs8, Ft8⟩ := id V_r
  have hin8 := inb_of (j := (2 : Int32)) Sz8 ⟨by decide, by decide⟩
  refine Goes.pre (U' := T6.setTop (mkF m 49 #[.val (.ref a), .val (.int (3 : Int32)), .val (.ref r)] [(.int b2), (.int (2 : Int32)), (.ref r)])) (fun t k => X6.baloadBytes hx (j := (2 : Int32)) (v := (.int b2)) Ar8.1 (State.isArrayOf_alike hZ.alike Ar8.2.1) Ar8.2.2 hin8 (Has.at Hs8 hin8 rfl) (g := (mkF m 48 #[.val (.ref a), .val (.int (3 : Int32)), .val (.ref r)] [(.int (2 : Int32)), (.ref r), (.int (2 : Int32)), (.ref r)])) rfl rfl (hb hby d4_48) _ k) ?_
  refine Goes.pre (U' := T6.setTop (mkF m 50 #[.val (.ref a), .val (.int (3 : Int32)), .val (.ref r)] [(.int (1 : Int32)), (.int b2), (.int (2 : Int32)), (.ref r)])) (fun t k => XS.iconst X6.here hx rfl (hb hby d4_49) k) ?_
  refine Goes.pre (U' := T6.setTop (mkF m 51 #[.val (.ref a), .val (.int (3 : Int32)), .val (.ref r)] [(.int (b2 + (1 : Int32))), (.int (2 : Int32)), (.ref r)])) (fun t k => XS.iadd X6.here hx rfl (hb hby d4_50) rfl k) ?_
  refine Goes.pre (U' := T6.setTop (mkF m 52 #[.val (.ref a), .val (.int (3 : Int32)), .val (.ref r)] [(.int ((b2 + (1 : Int32)).toInt8.toInt32)), (.int (2 : Int32)), (.ref r)])) (fun t k => XS.i2b X6.here hx rfl (hb hby d4_51) rfl k) ?_
  obtain ⟨cl9, Ar9, q9, Sz9, Ng9, Hs9, Ft9⟩ := id V_r
  obtain ⟨T9, h9, X9, e9, W9, st9⟩ := stB X6 hx hZ rfl Ar9 (j := (2 : Int32)) (inb_of Sz9 ⟨by decide, by decide⟩) (g := (mkF m 52 #[.val (.ref a), .val (.int (3 : Int32)), .val (.ref r)] [(.int ((b2 + (1 : Int32)).toInt8.toInt32)), (.int (2 : Int32)), (.ref r)])) rfl rfl (hb hby d4_52)
  have nr9 : nar .byte ((b2 + (1 : Int32)).toInt8.toInt32) = ((b2 + (1 : Int32)).toInt8.toInt32) := own_bb _
  have ft9 : fits .byte (.int ((b2 + (1 : Int32)).toInt8.toInt32)) = true := nr9 ▸ (fits_nar_byte ((b2 + (1 : Int32)).toInt8.toInt32) : fits .byte (.int (nar .byte ((b2 + (1 : Int32)).toInt8.toInt32))) = true)
  rw [nr9] at W9
  have F_last_a := F_last_a.other W9 (Or.inl ne_a_r)
  have E_la := E_la.wr W9
  have V_la := V_la.other W9 ne_la_r
  have E_r := E_r.wr W9
  have Z9 : n0 ≤ h9.size := Nat.le_trans Z7 (Keep.of_wr W9).1
  have V_r : Arv Z h9 r kr .byte (3 : Int32) [(.int b0), (.int b1), (.int ((b2 + (1 : Int32)).toInt8.toInt32))] (.int (0 : Int32)) := Arv.set Ar9 q9 Sz9 Ng9 Hs9 Ft9 ft9 W9 2 rfl (Nat.le_of_ble_eq_true rfl)
  have K9 := K7.wr W9 (Or.inr sz_r)
  have N9 := Fr.snoc X9 N6 g_r
  refine Goes.pre (U' := T9.setTop (mkF m 53 #[.val (.ref a), .val (.int (3 : Int32)), .val (.ref r)] [])) (fun t k => st9 t k) ?_
  refine Goes.pre (U' := T9.setTop (mkF m 54 #[.val (.ref a), .val (.int (3 : Int32)), .val (.ref r)] [(.ref r)])) (fun t k => XS.aloadN X9.here hx rfl (hb hby d4_53) rfl rfl k) ?_
  refine Goes.ret X9 (v := (some (.ref r))) (fun h => by rw [Bd.returns] at h; cases h) Bd.notSynchronized (by decide) (by decide) e9 (fun fs hr => retOut X9 hx Bd.returns rfl (Or.inr (Or.inr (Or.inr (Or.inr ⟨rfl, rfl, rfl⟩)))) (hb hby d4_54) hr) ?_
  exact ⟨r, kr, rfl, N9, K9, V_r, g_r, sz_r⟩
theorem own_i2b (x : Int32) : nar .byte x.toInt8.toInt32 = x.toInt8.toInt32 := own_bb x
theorem ef_rm0 (m : MethodId) (x0 : Int32) (x1 : Int32) (x2 : Int32) (x3 : Int32) (x4 : Int32) : entryFrame m #[(.int x0), (.int x1), (.int x2), (.int x3), (.int x4)] maxLocals = mkF m 0 #[.val (.int x0), .val (.int x1), .val (.int x2), .val (.int x3), .val (.int x4), .unset, .unset, .unset, .unset, .unset, .unset, .unset, .unset, .unset, .unset, .unset, .unset] [] := by first | (simp [entryFrame, mkF, argsToLocals, Value.category, maxLocals]; done) | rfl
theorem pn_com_example_known_paths_knownpaths_key_KeyRangeEndPinLaw : plainName "com/example/known_paths/knownpaths/key/KeyRangeEndPinLaw" = true := by first | (simp [plainName, overriddenIn]; done) | decide +kernel
theorem pd__28_5bB_5bB_29V : parseMethodDescriptor "([B[B)V" = some ⟨[(.array .byte), (.array .byte)], none⟩ := by decide +kernel
theorem pd__28_29_5bB : parseMethodDescriptor "()[B" = some ⟨[], some (.array .byte)⟩ := by decide +kernel
def Q_rm0 (Z : State) (p1 p2 p3 p4 p5 : Int32) (h0 : Heap) (n0 : Nat) (v : Option Value) (h : Heap) (L : List Loc) : Prop := v = some (.int 1) ∧ Fr n0 L
set_option maxRecDepth 65536 in
set_option maxHeartbeats 40000000 in
theorem rm0 (l : Launch) (Z : State) (a0 : Array Value) (hw : ∀ d ∈ tables_1, d.before a0 Z = true) (ws : List Jvm.Cond) (p1 p2 p3 p4 p5 : Int32) (h0 : Heap) (n0 : Nat) (Z0 : n0 ≤ h0.size)  :
    MetFree l x (head1 (Jvm.Cond.code x code maxLocals ret :: ws) room_1) (fun argv U => argv = #[(.int p1), (.int p2), (.int p3), (.int p4), (.int p5)] ∧ Z.Warmed39 U.vm ∧ U.heap = h0) (fun _ _ _ _ _ => True) (fun _ U o U' => ∃ v L, o = .returned v ∧ Q_rm0 Z p1 p2 p3 p4 p5 h0 n0 v U'.heap L ∧ FrameEnd U o U' L room_1.cells room_1.slots) := by
  refine MetFree.of_bodySF (plainFor_of_name pn_com_example_known_paths_knownpaths_key_KeyRangeEndPinLaw) hisR ?_
  intro p e s m args below meth c s₁ Bd hml0 hP hK
  obtain ⟨rfl, hZ, hh⟩ := hP
  have hx := Bd.exec
  have hby := Bd.bytes
  have hml : c.maxLocals = 17 := hml0
  have hown : s.vm.findClass "com/example/known_paths/knownpaths/key/KeyRangeEndPinLaw" = some m.cls := findClass_of_methodNamed Bd.named
  have hnm := (name_of_methodNamed Bd.named Bd.method).1
  have X0 : Stand p l e room_1 s m #[(.int p1), (.int p2), (.int p3), (.int p4), (.int p5)] below meth c s₁ [] 0 0 := Stand.of_body Bd
  have e0 : s₁.heap = h0 := by rw [← hh, Bd.state]; rfl
  have N0 := Fr.nil n0
  refine Goes.enter (Q := fun v h L => Q_rm0 Z p1 p2 p3 p4 p5 h0 n0 v h L) (C := room_1.cells) (S := room_1.slots) (ef_rm0 m p1 p2 p3 p4 p5) ?_
  show Goes p e below s _ _ _ (s₁.setTop (mkF m 0 #[.val (.int p1), .val (.int p2), .val (.int p3), .val (.int p4), .val (.int p5), .unset, .unset, .unset, .unset, .unset, .unset, .unset, .unset, .unset, .unset, .unset, .unset] []))
  refine Goes.pre (U' := s₁.setTop (mkF m 1 #[.val (.int p1), .val (.int p2), .val (.int p3), .val (.int p4), .val (.int p5), .unset, .unset, .unset, .unset, .unset, .unset, .unset, .unset, .unset, .unset, .unset, .unset] [(.int p1)])) (fun t k => XS.iloadN X0.here hx rfl (hb hby at_0) rfl k) ?_
  refine Goes.pre (U' := s₁.setTop (mkF m 2 #[.val (.int p1), .val (.int p2), .val (.int p3), .val (.int p4), .val (.int p5), .unset, .unset, .unset, .unset, .unset, .unset, .unset, .unset, .unset, .unset, .unset, .unset] [(.int (3 : Int32)), (.int p1)])) (fun t k => XS.iconst X0.here hx rfl (hb hby at_1) k) ?_
  refine Goes.pre (U' := s₁.setTop (mkF m 3 #[.val (.int p1), .val (.int p2), .val (.int p3), .val (.int p4), .val (.int p5), .unset, .unset, .unset, .unset, .unset, .unset, .unset, .unset, .unset, .unset, .unset, .unset] [(.int (p1 &&& (3 : Int32)))])) (fun t k => XS.iand X0.here hx rfl (hb hby at_2) rfl k) ?_
  refine Goes.pre (U' := s₁.setTop (mkF m 5 #[.val (.int p1), .val (.int p2), .val (.int p3), .val (.int p4), .val (.int p5), .val (.int (p1 &&& (3 : Int32))), .unset, .unset, .unset, .unset, .unset, .unset, .unset, .unset, .unset, .unset, .unset] [])) (fun t k => XS.istore X0.here hx rfl (hb hby at_3) rfl (l' := #[.val (.int p1), .val (.int p2), .val (.int p3), .val (.int p4), .val (.int p5), .val (.int (p1 &&& (3 : Int32))), .unset, .unset, .unset, .unset, .unset, .unset, .unset, .unset, .unset, .unset, .unset]) rfl k) ?_
  obtain ⟨n, hn⟩ : ∃ z : Int32, z = (p1 &&& (3 : Int32)) := ⟨_, rfl⟩
  rw [← hn]
  suffices J18_1 : ∀ (v0 : Int32) (hv0 : nar .byte v0 = v0), Goes p e below s (fun v h L => Q_rm0 Z p1 p2 p3 p4 p5 h0 n0 v h L) room_1.cells room_1.slots (s₁.setTop (mkF m 18 #[.val (.int p1), .val (.int p2), .val (.int p3), .val (.int p4), .val (.int p5), .val (.int n), .unset, .unset, .unset, .unset, .unset, .unset, .unset, .unset, .unset, .unset, .unset] [(.int v0)])) by
    refine Goes.pre (U' := s₁.setTop (mkF m 7 #[.val (.int p1), .val (.int p2), .val (.int p3), .val (.int p4), .val (.int p5), .val (.int n), .unset, .unset, .unset, .unset, .unset, .unset, .unset, .unset, .unset, .unset, .unset] [(.int p5)])) (fun t k => XS.iload X0.here hx rfl (hb hby at_5) rfl k) ?_
    refine Goes.pre (U' := s₁.setTop (mkF m 8 #[.val (.int p1), .val (.int p2), .val (.int p3), .val (.int p4), .val (.int p5), .val (.int n), .unset, .unset, .unset, .unset, .unset, .unset, .unset, .unset, .unset, .unset, .unset] [(.int (1 : Int32)), (.int p5)])) (fun t k => XS.iconst X0.here hx rfl (hb hby at_7) k) ?_
    refine Goes.pre (U' := s₁.setTop (mkF m 9 #[.val (.int p1), .val (.int p2), .val (.int p3), .val (.int p4), .val (.int p5), .val (.int n), .unset, .unset, .unset, .unset, .unset, .unset, .unset, .unset, .unset, .unset, .unset] [(.int (p5 &&& (1 : Int32)))])) (fun t k => XS.iand X0.here hx rfl (hb hby at_8) rfl k) ?_
    by_cases hc9 : (p5 &&& (1 : Int32)) = (0 : Int32)
    ·
      refine Goes.pre (U' := s₁.setTop (mkF m 16 #[.val (.int p1), .val (.int p2), .val (.int p3), .val (.int p4), .val (.int p5), .val (.int n), .unset, .unset, .unset, .unset, .unset, .unset, .unset, .unset, .unset, .unset, .unset] [])) (fun t k => XS.ifYes X0.here hx rfl (pc0 := 9) (pc' := 16) rfl (hb hby at_9) rfl ((if0 _ _).trans (teq hc9).1) (by decide) (by decide) k) ?_
      refine Goes.pre (U' := s₁.setTop (mkF m 17 #[.val (.int p1), .val (.int p2), .val (.int p3), .val (.int p4), .val (.int p5), .val (.int n), .unset, .unset, .unset, .unset, .unset, .unset, .unset, .unset, .unset, .unset, .unset] [(.int p2)])) (fun t k => XS.iloadN X0.here hx rfl (hb hby at_16) rfl k) ?_
      refine Goes.pre (U' := s₁.setTop (mkF m 18 #[.val (.int p1), .val (.int p2), .val (.int p3), .val (.int p4), .val (.int p5), .val (.int n), .unset, .unset, .unset, .unset, .unset, .unset, .unset, .unset, .unset, .unset, .unset] [(.int (p2.toInt8.toInt32))])) (fun t k => XS.i2b X0.here hx rfl (hb hby at_17) rfl k) ?_
      exact J18_1 (p2.toInt8.toInt32) (own_i2b _)
    ·
      refine Goes.pre (U' := s₁.setTop (mkF m 12 #[.val (.int p1), .val (.int p2), .val (.int p3), .val (.int p4), .val (.int p5), .val (.int n), .unset, .unset, .unset, .unset, .unset, .unset, .unset, .unset, .unset, .unset, .unset] [])) (fun t k => XS.ifNo X0.here hx rfl (hb hby at_9) rfl ((if0 _ _).trans (feq hc9).1) k) ?_
      refine Goes.pre (U' := s₁.setTop (mkF m 13 #[.val (.int p1), .val (.int p2), .val (.int p3), .val (.int p4), .val (.int p5), .val (.int n), .unset, .unset, .unset, .unset, .unset, .unset, .unset, .unset, .unset, .unset, .unset] [(.int (-1 : Int32))])) (fun t k => XS.iconst X0.here hx rfl (hb hby at_12) k) ?_
      refine Goes.pre (U' := s₁.setTop (mkF m 18 #[.val (.int p1), .val (.int p2), .val (.int p3), .val (.int p4), .val (.int p5), .val (.int n), .unset, .unset, .unset, .unset, .unset, .unset, .unset, .unset, .unset, .unset, .unset] [(.int (-1 : Int32))])) (fun t k => XS.goto X0.here hx rfl (pc0 := 13) (pc' := 18) rfl (hb hby at_13) (by decide) (by decide) k) ?_
      exact J18_1 (-1 : Int32) (by decide)
  intro v0 hv0
  refine Goes.pre (U' := s₁.setTop (mkF m 20 #[.val (.int p1), .val (.int p2), .val (.int p3), .val (.int p4), .val (.int p5), .val (.int n), .val (.int v0), .unset, .unset, .unset, .unset, .unset, .unset, .unset, .unset, .unset, .unset] [])) (fun t k => XS.istore X0.here hx rfl (hb hby at_18) rfl (l' := #[.val (.int p1), .val (.int p2), .val (.int p3), .val (.int p4), .val (.int p5), .val (.int n), .val (.int v0), .unset, .unset, .unset, .unset, .unset, .unset, .unset, .unset, .unset, .unset]) rfl k) ?_
  suffices J33_3 : ∀ (v1 : Int32) (hv1 : nar .byte v1 = v1), Goes p e below s (fun v h L => Q_rm0 Z p1 p2 p3 p4 p5 h0 n0 v h L) room_1.cells room_1.slots (s₁.setTop (mkF m 33 #[.val (.int p1), .val (.int p2), .val (.int p3), .val (.int p4), .val (.int p5), .val (.int n), .val (.int v0), .unset, .unset, .unset, .unset, .unset, .unset, .unset, .unset, .unset, .unset] [(.int v1)])) by
    refine Goes.pre (U' := s₁.setTop (mkF m 22 #[.val (.int p1), .val (.int p2), .val (.int p3), .val (.int p4), .val (.int p5), .val (.int n), .val (.int v0), .unset, .unset, .unset, .unset, .unset, .unset, .unset, .unset, .unset, .unset] [(.int p5)])) (fun t k => XS.iload X0.here hx rfl (hb hby at_20) rfl k) ?_
    refine Goes.pre (U' := s₁.setTop (mkF m 23 #[.val (.int p1), .val (.int p2), .val (.int p3), .val (.int p4), .val (.int p5), .val (.int n), .val (.int v0), .unset, .unset, .unset, .unset, .unset, .unset, .unset, .unset, .unset, .unset] [(.int (2 : Int32)), (.int p5)])) (fun t k => XS.iconst X0.here hx rfl (hb hby at_22) k) ?_
    refine Goes.pre (U' := s₁.setTop (mkF m 24 #[.val (.int p1), .val (.int p2), .val (.int p3), .val (.int p4), .val (.int p5), .val (.int n), .val (.int v0), .unset, .unset, .unset, .unset, .unset, .unset, .unset, .unset, .unset, .unset] [(.int (p5 &&& (2 : Int32)))])) (fun t k => XS.iand X0.here hx rfl (hb hby at_23) rfl k) ?_
    by_cases hc24 : (p5 &&& (2 : Int32)) = (0 : Int32)
    ·
      refine Goes.pre (U' := s₁.setTop (mkF m 31 #[.val (.int p1), .val (.int p2), .val (.int p3), .val (.int p4), .val (.int p5), .val (.int n), .val (.int v0), .unset, .unset, .unset, .unset, .unset, .unset, .unset, .unset, .unset, .unset] [])) (fun t k => XS.ifYes X0.here hx rfl (pc0 := 24) (pc' := 31) rfl (hb hby at_24) rfl ((if0 _ _).trans (teq hc24).1) (by decide) (by decide) k) ?_
      refine Goes.pre (U' := s₁.setTop (mkF m 32 #[.val (.int p1), .val (.int p2), .val (.int p3), .val (.int p4), .val (.int p5), .val (.int n), .val (.int v0), .unset, .unset, .unset, .unset, .unset, .unset, .unset, .unset, .unset, .unset] [(.int p3)])) (fun t k => XS.iloadN X0.here hx rfl (hb hby at_31) rfl k) ?_
      refine Goes.pre (U' := s₁.setTop (mkF m 33 #[.val (.int p1), .val (.int p2), .val (.int p3), .val (.int p4), .val (.int p5), .val (.int n), .val (.int v0), .unset, .unset, .unset, .unset, .unset, .unset, .unset, .unset, .unset, .unset] [(.int (p3.toInt8.toInt32))])) (fun t k => XS.i2b X0.here hx rfl (hb hby at_32) rfl k) ?_
      exact J33_3 (p3.toInt8.toInt32) (own_i2b _)
    ·
      refine Goes.pre (U' := s₁.setTop (mkF m 27 #[.val (.int p1), .val (.int p2), .val (.int p3), .val (.int p4), .val (.int p5), .val (.int n), .val (.int v0), .unset, .unset, .unset, .unset, .unset, .unset, .unset, .unset, .unset, .unset] [])) (fun t k => XS.ifNo X0.here hx rfl (hb hby at_24) rfl ((if0 _ _).trans (feq hc24).1) k) ?_
      refine Goes.pre (U' := s₁.setTop (mkF m 28 #[.val (.int p1), .val (.int p2), .val (.int p3), .val (.int p4), .val (.int p5), .val (.int n), .val (.int v0), .unset, .unset, .unset, .unset, .unset, .unset, .unset, .unset, .unset, .unset] [(.int (-1 : Int32))])) (fun t k => XS.iconst X0.here hx rfl (hb hby at_27) k) ?_
      refine Goes.pre (U' := s₁.setTop (mkF m 33 #[.val (.int p1), .val (.int p2), .val (.int p3), .val (.int p4), .val (.int p5), .val (.int n), .val (.int v0), .unset, .unset, .unset, .unset, .unset, .unset, .unset, .unset, .unset, .unset] [(.int (-1 : Int32))])) (fun t k => XS.goto X0.here hx rfl (pc0 := 28) (pc' := 33) rfl (hb hby at_28) (by decide) (by decide) k) ?_
      exact J33_3 (-1 : Int32) (by decide)
  intro v1 hv1
  refine Goes.pre (U' := s₁.setTop (mkF m 35 #[.val (.int p1), .val (.int p2), .val (.int p3), .val (.int p4), .val (.int p5), .val (.int n), .val (.int v0), .val (.int v1), .unset, .unset, .unset, .unset, .unset, .unset, .unset, .unset, .unset] [])) (fun t k => XS.istore X0.here hx rfl (hb hby at_33) rfl (l' := #[.val (.int p1), .val (.int p2), .val (.int p3), .val (.int p4), .val (.int p5), .val (.int n), .val (.int v0), .val (.int v1), .unset, .unset, .unset, .unset, .unset, .unset, .unset, .unset, .unset]) rfl k) ?_
  suffices J48_5 : ∀ (v2 : Int32) (hv2 : nar .byte v2 = v2), Goes p e below s (fun v h L => Q_rm0 Z p1 p2 p3 p4 p5 h0 n0 v h L) room_1.cells room_1.slots (s₁.setTop (mkF m 48 #[.val (.int p1), .val (.int p2), .val (.int p3), .val (.int p4), .val (.int p5), .val (.int n), .val (.int v0), .val (.int v1), .unset, .unset, .unset, .unset, .unset, .unset, .unset, .unset, .unset] [(.int v2)])) by
    refine Goes.pre (U' := s₁.setTop (mkF m 37 #[.val (.int p1), .val (.int p2), .val (.int p3), .val (.int p4), .val (.int p5), .val (.int n), .val (.int v0), .val (.int v1), .unset, .unset, .unset, .unset, .unset, .unset, .unset, .unset, .unset] [(.int p5)])) (fun t k => XS.iload X0.here hx rfl (hb hby at_35) rfl k) ?_
    refine Goes.pre (U' := s₁.setTop (mkF m 38 #[.val (.int p1), .val (.int p2), .val (.int p3), .val (.int p4), .val (.int p5), .val (.int n), .val (.int v0), .val (.int v1), .unset, .unset, .unset, .unset, .unset, .unset, .unset, .unset, .unset] [(.int (4 : Int32)), (.int p5)])) (fun t k => XS.iconst X0.here hx rfl (hb hby at_37) k) ?_
    refine Goes.pre (U' := s₁.setTop (mkF m 39 #[.val (.int p1), .val (.int p2), .val (.int p3), .val (.int p4), .val (.int p5), .val (.int n), .val (.int v0), .val (.int v1), .unset, .unset, .unset, .unset, .unset, .unset, .unset, .unset, .unset] [(.int (p5 &&& (4 : Int32)))])) (fun t k => XS.iand X0.here hx rfl (hb hby at_38) rfl k) ?_
    by_cases hc39 : (p5 &&& (4 : Int32)) = (0 : Int32)
    ·
      refine Goes.pre (U' := s₁.setTop (mkF m 46 #[.val (.int p1), .val (.int p2), .val (.int p3), .val (.int p4), .val (.int p5), .val (.int n), .val (.int v0), .val (.int v1), .unset, .unset, .unset, .unset, .unset, .unset, .unset, .unset, .unset] [])) (fun t k => XS.ifYes X0.here hx rfl (pc0 := 39) (pc' := 46) rfl (hb hby at_39) rfl ((if0 _ _).trans (teq hc39).1) (by decide) (by decide) k) ?_
      refine Goes.pre (U' := s₁.setTop (mkF m 47 #[.val (.int p1), .val (.int p2), .val (.int p3), .val (.int p4), .val (.int p5), .val (.int n), .val (.int v0), .val (.int v1), .unset, .unset, .unset, .unset, .unset, .unset, .unset, .unset, .unset] [(.int p4)])) (fun t k => XS.iloadN X0.here hx rfl (hb hby at_46) rfl k) ?_
      refine Goes.pre (U' := s₁.setTop (mkF m 48 #[.val (.int p1), .val (.int p2), .val (.int p3), .val (.int p4), .val (.int p5), .val (.int n), .val (.int v0), .val (.int v1), .unset, .unset, .unset, .unset, .unset, .unset, .unset, .unset, .unset] [(.int (p4.toInt8.toInt32))])) (fun t k => XS.i2b X0.here hx rfl (hb hby at_47) rfl k) ?_
      exact J48_5 (p4.toInt8.toInt32) (own_i2b _)
    ·
      refine Goes.pre (U' := s₁.setTop (mkF m 42 #[.val (.int p1), .val (.int p2), .val (.int p3), .val (.int p4), .val (.int p5), .val (.int n), .val (.int v0), .val (.int v1), .unset, .unset, .unset, .unset, .unset, .unset, .unset, .unset, .unset] [])) (fun t k => XS.ifNo X0.here hx rfl (hb hby at_39) rfl ((if0 _ _).trans (feq hc39).1) k) ?_
      refine Goes.pre (U' := s₁.setTop (mkF m 43 #[.val (.int p1), .val (.int p2), .val (.int p3), .val (.int p4), .val (.int p5), .val (.int n), .val (.int v0), .val (.int v1), .unset, .unset, .unset, .unset, .unset, .unset, .unset, .unset, .unset] [(.int (-1 : Int32))])) (fun t k => XS.iconst X0.here hx rfl (hb hby at_42) k) ?_
      refine Goes.pre (U' := s₁.setTop (mkF m 48 #[.val (.int p1), .val (.int p2), .val (.int p3), .val (.int p4), .val (.int p5), .val (.int n), .val (.int v0), .val (.int v1), .unset, .unset, .unset, .unset, .unset, .unset, .unset, .unset, .unset] [(.int (-1 : Int32))])) (fun t k => XS.goto X0.here hx rfl (pc0 := 43) (pc' := 48) rfl (hb hby at_43) (by decide) (by decide) k) ?_
      exact J48_5 (-1 : Int32) (by decide)
  intro v2 hv2
  refine Goes.pre (U' := s₁.setTop (mkF m 50 #[.val (.int p1), .val (.int p2), .val (.int p3), .val (.int p4), .val (.int p5), .val (.int n), .val (.int v0), .val (.int v1), .val (.int v2), .unset, .unset, .unset, .unset, .unset, .unset, .unset, .unset] [])) (fun t k => XS.istore X0.here hx rfl (hb hby at_48) rfl (l' := #[.val (.int p1), .val (.int p2), .val (.int p3), .val (.int p4), .val (.int p5), .val (.int n), .val (.int v0), .val (.int v1), .val (.int v2), .unset, .unset, .unset, .unset, .unset, .unset, .unset, .unset]) rfl k) ?_
  rcases own_n4 _ _ hn with rfl | rfl | rfl | rfl
  ·
    refine Goes.pre (U' := s₁.setTop (mkF m 52 #[.val (.int p1), .val (.int p2), .val (.int p3), .val (.int p4), .val (.int p5), .val (.int (0 : Int32)), .val (.int v0), .val (.int v1), .val (.int v2), .unset, .unset, .unset, .unset, .unset, .unset, .unset, .unset] [(.int (0 : Int32))])) (fun t k => XS.iload X0.here hx rfl (hb hby at_50) rfl k) ?_
    obtain ⟨T7, h7, k7, X7, e7, E7, A7, B7, st7⟩ := newPE X0 hx hZ (hw _ (List.mem_of_getElem? (i := 0) rfl)) e0 (g := (mkF m 52 #[.val (.int p1), .val (.int p2), .val (.int p3), .val (.int p4), .val (.int p5), .val (.int (0 : Int32)), .val (.int v0), .val (.int v1), .val (.int v2), .unset, .unset, .unset, .unset, .unset, .unset, .unset, .unset] [(.int (0 : Int32))])) rfl (hb hby at_52) rfl (by decide) (cap := 0) (by decide) (by decide) (by decide) (by decide) (ad := "[B") (by decide)
    obtain ⟨la, g7⟩ : ∃ z, z = h0.size := ⟨_, rfl⟩
    rw [← g7] at A7 B7 st7
    have g_la : n0 ≤ la := Nat.le_trans Z0 (Nat.le_of_eq g7.symm)
    have Z7 : n0 ≤ h7.size := Nat.le_trans Z0 E7.1
    have E_la := B7
    have V_la : Arv Z h7 la k7 .byte (0 : Int32) [] (.int (0 : Int32)) := (Arv.new A7 (by decide)).pad (pad_rep [] (.int (0 : Int32)) 0)
    refine Goes.pre (U' := T7.setTop (mkF m 54 #[.val (.int p1), .val (.int p2), .val (.int p3), .val (.int p4), .val (.int p5), .val (.int (0 : Int32)), .val (.int v0), .val (.int v1), .val (.int v2), .unset, .unset, .unset, .unset, .unset, .unset, .unset, .unset] [(.ref la)])) (fun t k => st7 t k) ?_
    refine Goes.pre (U' := T7.setTop (mkF m 56 #[.val (.int p1), .val (.int p2), .val (.int p3), .val (.int p4), .val (.int p5), .val (.int (0 : Int32)), .val (.int v0), .val (.int v1), .val (.int v2), .val (.ref la), .unset, .unset, .unset, .unset, .unset, .unset, .unset] [])) (fun t k => XS.astore X7.here hx rfl (hb hby at_54) rfl rfl (l' := #[.val (.int p1), .val (.int p2), .val (.int p3), .val (.int p4), .val (.int p5), .val (.int (0 : Int32)), .val (.int v0), .val (.int v1), .val (.int v2), .val (.ref la), .unset, .unset, .unset, .unset, .unset, .unset, .unset]) rfl k) ?_
    refine Goes.pre (U' := T7.setTop (mkF m 58 #[.val (.int p1), .val (.int p2), .val (.int p3), .val (.int p4), .val (.int p5), .val (.int (0 : Int32)), .val (.int v0), .val (.int v1), .val (.int v2), .val (.ref la), .unset, .unset, .unset, .unset, .unset, .unset, .unset] [(.int (0 : Int32))])) (fun t k => XS.iload X7.here hx rfl (hb hby at_56) rfl k) ?_
    have hc58 : ¬ ((0 : Int32) < (0 : Int32)) := by decide
    refine Goes.pre (U' := T7.setTop (mkF m 67 #[.val (.int p1), .val (.int p2), .val (.int p3), .val (.int p4), .val (.int p5), .val (.int (0 : Int32)), .val (.int v0), .val (.int v1), .val (.int v2), .val (.ref la), .unset, .unset, .unset, .unset, .unset, .unset, .unset] [])) (fun t k => XS.ifYes X7.here hx rfl (pc0 := 58) (pc' := 67) rfl (hb hby at_58) rfl ((if0 _ _).trans (flt hc58).2.2.2) (by decide) (by decide) k) ?_
    refine Goes.pre (U' := T7.setTop (mkF m 69 #[.val (.int p1), .val (.int p2), .val (.int p3), .val (.int p4), .val (.int p5), .val (.int (0 : Int32)), .val (.int v0), .val (.int v1), .val (.int v2), .val (.ref la), .unset, .unset, .unset, .unset, .unset, .unset, .unset] [(.int (0 : Int32))])) (fun t k => XS.iload X7.here hx rfl (hb hby at_67) rfl k) ?_
    refine Goes.pre (U' := T7.setTop (mkF m 70 #[.val (.int p1), .val (.int p2), .val (.int p3), .val (.int p4), .val (.int p5), .val (.int (0 : Int32)), .val (.int v0), .val (.int v1), .val (.int v2), .val (.ref la), .unset, .unset, .unset, .unset, .unset, .unset, .unset] [(.int (1 : Int32)), (.int (0 : Int32))])) (fun t k => XS.iconst X7.here hx rfl (hb hby at_69) k) ?_
    have hc70 : ¬ ((1 : Int32) < (0 : Int32)) := by decide
    refine Goes.pre (U' := T7.setTop (mkF m 79 #[.val (.int p1), .val (.int p2), .val (.int p3), .val (.int p4), .val (.int p5), .val (.int (0 : Int32)), .val (.int v0), .val (.int v1), .val (.int v2), .val (.ref la), .unset, .unset, .unset, .unset, .unset, .unset, .unset] [])) (fun t k => XS.icmpYes X7.here hx rfl (pc0 := 70) (pc' := 79) rfl (hb hby at_70) rfl (flt hc70).2.2.2 (by decide) (by decide) k) ?_
    refine Goes.pre (U' := T7.setTop (mkF m 81 #[.val (.int p1), .val (.int p2), .val (.int p3), .val (.int p4), .val (.int p5), .val (.int (0 : Int32)), .val (.int v0), .val (.int v1), .val (.int v2), .val (.ref la), .unset, .unset, .unset, .unset, .unset, .unset, .unset] [(.int (0 : Int32))])) (fun t k => XS.iload X7.here hx rfl (hb hby at_79) rfl k) ?_
    refine Goes.pre (U' := T7.setTop (mkF m 82 #[.val (.int p1), .val (.int p2), .val (.int p3), .val (.int p4), .val (.int p5), .val (.int (0 : Int32)), .val (.int v0), .val (.int v1), .val (.int v2), .val (.ref la), .unset, .unset, .unset, .unset, .unset, .unset, .unset] [(.int (2 : Int32)), (.int (0 : Int32))])) (fun t k => XS.iconst X7.here hx rfl (hb hby at_81) k) ?_
    have hc82 : ¬ ((2 : Int32) < (0 : Int32)) := by decide
    refine Goes.pre (U' := T7.setTop (mkF m 91 #[.val (.int p1), .val (.int p2), .val (.int p3), .val (.int p4), .val (.int p5), .val (.int (0 : Int32)), .val (.int v0), .val (.int v1), .val (.int v2), .val (.ref la), .unset, .unset, .unset, .unset, .unset, .unset, .unset] [])) (fun t k => XS.icmpYes X7.here hx rfl (pc0 := 82) (pc' := 91) rfl (hb hby at_82) rfl (flt hc82).2.2.2 (by decide) (by decide) k) ?_
    obtain ⟨T8, h8, X8, e8, E8, A8, D8, -, st8⟩ := newO X7 hx hZ hown (hw _ (List.mem_of_getElem? (i := 1) rfl)) (hw _ (List.mem_of_getElem? (i := 2) rfl)) (hw _ (List.mem_of_getElem? (i := 3) rfl)) e7 (g := (mkF m 91 #[.val (.int p1), .val (.int p2), .val (.int p3), .val (.int p4), .val (.int p5), .val (.int (0 : Int32)), .val (.int v0), .val (.int v1), .val (.int v2), .val (.ref la), .unset, .unset, .unset, .unset, .unset, .unset, .unset] [])) rfl (hb hby at_91) (by decide) (by decide)
    obtain ⟨a, g8⟩ : ∃ z, z = h7.size := ⟨_, rfl⟩
    rw [← g8] at A8 D8 st8
    have ne_la_a : la ≠ a := Nat.ne_of_lt (Nat.lt_of_lt_of_le E_la.lt (Nat.le_of_eq g8.symm))
    have ne_a_la := ne_la_a.symm
    have g_a : n0 ≤ a := Nat.le_trans Z7 (Nat.le_of_eq g8.symm)
    have E_la := E_la.ext E8
    have V_la := V_la.ext E8
    have Z8 : n0 ≤ h8.size := Nat.le_trans Z7 E8.1
    have E_a := A8
    have F_first_a : Fld Z h8 a "com/example/known_paths/knownpaths/key/KeyRange" "first" "[B" .null := D8 (Or.inr (hw _ (List.mem_of_getElem? (i := 16) rfl))) (ty := (.array .byte)) (by decide)
    have F_last_a : Fld Z h8 a "com/example/known_paths/knownpaths/key/KeyRange" "last" "[B" .null := D8 (Or.inr (hw _ (List.mem_of_getElem? (i := 18) rfl))) (ty := (.array .byte)) (by decide)
    refine Goes.pre (U' := T8.setTop (mkF m 94 #[.val (.int p1), .val (.int p2), .val (.int p3), .val (.int p4), .val (.int p5), .val (.int (0 : Int32)), .val (.int v0), .val (.int v1), .val (.int v2), .val (.ref la), .unset, .unset, .unset, .unset, .unset, .unset, .unset] [(.ref a)])) (fun t k => st8 t k) ?_
    refine Goes.pre (U' := T8.setTop (mkF m 95 #[.val (.int p1), .val (.int p2), .val (.int p3), .val (.int p4), .val (.int p5), .val (.int (0 : Int32)), .val (.int v0), .val (.int v1), .val (.int v2), .val (.ref la), .unset, .unset, .unset, .unset, .unset, .unset, .unset] [(.ref a), (.ref a)])) (fun t k => XS.dup X8.here hx rfl (hb hby at_94) rfl rfl k) ?_
    refine Goes.pre (U' := T8.setTop (mkF m 96 #[.val (.int p1), .val (.int p2), .val (.int p3), .val (.int p4), .val (.int p5), .val (.int (0 : Int32)), .val (.int v0), .val (.int v1), .val (.int v2), .val (.ref la), .unset, .unset, .unset, .unset, .unset, .unset, .unset] [(.int (0 : Int32)), (.ref a), (.ref a)])) (fun t k => XS.iconst X8.here hx rfl (hb hby at_95) k) ?_
    obtain ⟨T9, h9, k9, X9, e9, E9, A9, B9, st9⟩ := newPE X8 hx hZ (hw _ (List.mem_of_getElem? (i := 0) rfl)) e8 (g := (mkF m 96 #[.val (.int p1), .val (.int p2), .val (.int p3), .val (.int p4), .val (.int p5), .val (.int (0 : Int32)), .val (.int v0), .val (.int v1), .val (.int v2), .val (.ref la), .unset, .unset, .unset, .unset, .unset, .unset, .unset] [(.int (0 : Int32)), (.ref a), (.ref a)])) rfl (hb hby at_96) rfl (by decide) (cap := 0) (by decide) (by decide) (by decide) (by decide) (ad := "[B") (by decide)
    obtain ⟨fa, g9⟩ : ∃ z, z = h8.size := ⟨_, rfl⟩
    rw [← g9] at A9 B9 st9
    have ne_a_fa : a ≠ fa := Nat.ne_of_lt (Nat.lt_of_lt_of_le E_a.lt (Nat.le_of_eq g9.symm))
    have ne_fa_a := ne_a_fa.symm
    have ne_la_fa : la ≠ fa := Nat.ne_of_lt (Nat.lt_of_lt_of_le E_la.lt (Nat.le_of_eq g9.symm))
    have ne_fa_la := ne_la_fa.symm
    have g_fa : n0 ≤ fa := Nat.le_trans Z8 (Nat.le_of_eq g9.symm)
    have E_la := E_la.ext E9
    have V_la := V_la.ext E9
    have E_a := E_a.ext E9
    have F_first_a := F_first_a.ext E9
    have F_last_a := F_last_a.ext E9
    have Z9 : n0 ≤ h9.size := Nat.le_trans Z8 E9.1
    have E_fa := B9
    have V_fa : Arv Z h9 fa k9 .byte (0 : Int32) [] (.int (0 : Int32)) := (Arv.new A9 (by decide)).pad (pad_rep [] (.int (0 : Int32)) 0)
    refine Goes.pre (U' := T9.setTop (mkF m 98 #[.val (.int p1), .val (.int p2), .val (.int p3), .val (.int p4), .val (.int p5), .val (.int (0 : Int32)), .val (.int v0), .val (.int v1), .val (.int v2), .val (.ref la), .unset, .unset, .unset, .unset, .unset, .unset, .unset] [(.ref fa), (.ref a), (.ref a)])) (fun t k => st9 t k) ?_
    refine Goes.pre (U' := T9.setTop (mkF m 100 #[.val (.int p1), .val (.int p2), .val (.int p3), .val (.int p4), .val (.int p5), .val (.int (0 : Int32)), .val (.int v0), .val (.int v1), .val (.int v2), .val (.ref la), .unset, .unset, .unset, .unset, .unset, .unset, .unset] [(.ref la), (.ref fa), (.ref a), (.ref a)])) (fun t k => XS.aload X9.here hx rfl (hb hby at_98) rfl rfl k) ?_
    obtain ⟨_, _, ⟨T10, L10, k10, n10⟩, -, X10, ⟨Lc10, hQ10, l10, y10, z10⟩, st10⟩ := X9.specialBack hx (y := (⟨"com/example/known_paths/knownpaths/key/KeyRange", "<init>", "([B[B)V"⟩ : MethodName)) rfl hown (mvT hZ (hw _ (List.mem_of_getElem? (i := 4) rfl))) (mvT hZ (hw _ (List.mem_of_getElem? (i := 5) rfl))) (mvT hZ (hw _ (List.mem_of_getElem? (i := 6) rfl))) (by decide) (backOf (W := 1) (rm_init l Z a0 hw [] a fa la h9 n0 Z9 E_a F_first_a F_last_a g_a) hZ (hw _ (List.mem_of_getElem? (i := 6) rfl)) (hw _ (List.mem_of_getElem? (i := 3) rfl)) (by decide) (by decide)) (g := (mkF m 100 #[.val (.int p1), .val (.int p2), .val (.int p3), .val (.int p4), .val (.int p5), .val (.int (0 : Int32)), .val (.int v0), .val (.int v1), .val (.int v2), .val (.ref la), .unset, .unset, .unset, .unset, .unset, .unset, .unset] [(.ref la), (.ref fa), (.ref a), (.ref a)])) rfl (by rw [hml]; rfl) (Steps.refl _) (a := a) (argsL := [(.ref fa), (.ref la)]) (rest := [(.ref a)]) (lenOf pd__28_5bB_5bB_29V rfl) rfl (by show 2 * 0 + _ ≤ _; exact Nat.le_of_eq rfl) (hb hby at_100) (fun _ _ => ⟨rfl, e9, (by decide : 3 + 0 ≤ _), (by decide : 2 + 0 ≤ _)⟩)
    dsimp only [Pt.U, Pt.locs, Pt.cells, Pt.slots] at X10 l10 y10 z10 st10 hQ10
    subst l10 y10 z10
    obtain ⟨rfl, N10q, KQ10, fq_10⟩ := hQ10
    have N10 := Fr.app N0 N10q
    have E_la := E_la.keep KQ10
    have V_la := V_la.keep KQ10 (ninS ne_la_a nin0)
    have E_a := E_a.keep KQ10
    have E_fa := E_fa.keep KQ10
    have V_fa := V_fa.keep KQ10 (ninS ne_fa_a nin0)
    have Z11 : n0 ≤ T10.heap.size := Nat.le_trans Z9 KQ10.1
    have F_last_a := fq_10
    refine Goes.pre (U' := T10.setTop (mkF m 103 #[.val (.int p1), .val (.int p2), .val (.int p3), .val (.int p4), .val (.int p5), .val (.int (0 : Int32)), .val (.int v0), .val (.int v1), .val (.int v2), .val (.ref la), .unset, .unset, .unset, .unset, .unset, .unset, .unset] [(.ref a)])) (fun t k => st10.trans k) ?_
    refine Goes.pre (U' := T10.setTop (mkF m 105 #[.val (.int p1), .val (.int p2), .val (.int p3), .val (.int p4), .val (.int p5), .val (.int (0 : Int32)), .val (.int v0), .val (.int v1), .val (.int v2), .val (.ref la), .val (.ref a), .unset, .unset, .unset, .unset, .unset, .unset] [])) (fun t k => XS.astore X10.here hx rfl (hb hby at_103) rfl rfl (l' := #[.val (.int p1), .val (.int p2), .val (.int p3), .val (.int p4), .val (.int p5), .val (.int (0 : Int32)), .val (.int v0), .val (.int v1), .val (.int v2), .val (.ref la), .val (.ref a), .unset, .unset, .unset, .unset, .unset, .unset]) rfl k) ?_
    refine Goes.pre (U' := T10.setTop (mkF m 107 #[.val (.int p1), .val (.int p2), .val (.int p3), .val (.int p4), .val (.int p5), .val (.int (0 : Int32)), .val (.int v0), .val (.int v1), .val (.int v2), .val (.ref la), .val (.ref a), .unset, .unset, .unset, .unset, .unset, .unset] [(.ref a)])) (fun t k => XS.aload X10.here hx rfl (hb hby at_105) rfl rfl k) ?_
    have lt_a := E_a.lt
    have lt_fa := E_fa.lt
    have lt_la := E_la.lt
    obtain ⟨cq12, kq12, q12a, q12b, q12c⟩ := isOf hZ rfl E_a
    obtain ⟨_, _, ⟨T12, L12, k12, n12⟩, -, X12, ⟨Lc12, hQ12, l12, y12, z12⟩, st12⟩ := X10.virtualBack hx (y := (⟨"com/example/known_paths/knownpaths/key/KeyRange", "end", "()[B"⟩ : MethodName)) (z := (⟨"com/example/known_paths/knownpaths/key/KeyRange", "end", "()[B"⟩ : MethodName)) hown (mvT hZ (hw _ (List.mem_of_getElem? (i := 19) rfl))) (mvT hZ (hw _ (List.mem_of_getElem? (i := 20) rfl))) (notFace_of_selects (args := #[]) (mvT hZ (hw _ (List.mem_of_getElem? (i := 22) rfl)))) (mvT hZ (hw _ (List.mem_of_getElem? (i := 22) rfl))) (mvT hZ (hw _ (List.mem_of_getElem? (i := 21) rfl))) (by decide) (backOf (W := 0) (rm_end00 l Z a0 hw [] a la k7  T10.heap n0 Z11 F_last_a E_la V_la) hZ (hw _ (List.mem_of_getElem? (i := 23) rfl)) (hw _ (List.mem_of_getElem? (i := 3) rfl)) (by decide) (by decide)) q12a q12c (g := (mkF m 107 #[.val (.int p1), .val (.int p2), .val (.int p3), .val (.int p4), .val (.int p5), .val (.int (0 : Int32)), .val (.int v0), .val (.int v1), .val (.int v2), .val (.ref la), .val (.ref a), .unset, .unset, .unset, .unset, .unset, .unset] [(.ref a)])) rfl (by rw [hml]; rfl) (Steps.refl _) (argsL := []) (rest := []) (lenOf pd__28_29_5bB rfl) rfl (by show 2 * 0 + _ ≤ _; exact Nat.le_of_eq rfl) (hb hby at_107) (fun _ _ => ⟨rfl, rfl, (by decide : 3 + 0 ≤ _), (by decide : 2 + 0 ≤ _)⟩)
    dsimp only [Pt.U, Pt.locs, Pt.cells, Pt.slots] at X12 l12 y12 z12 st12 hQ12
    subst l12 y12 z12
    obtain ⟨rfl, N12q, KQ12⟩ := hQ12
    have N12 := Fr.app N10 N12q
    have E_la := E_la.keep KQ12
    have V_la := V_la.keep KQ12 nin0
    have E_a := E_a.keep KQ12
    have E_fa := E_fa.keep KQ12
    have V_fa := V_fa.keep KQ12 nin0
    have F_last_a := F_last_a.keep KQ12 nin0
    have Z13 : n0 ≤ T12.heap.size := Nat.le_trans Z11 KQ12.1
    refine Goes.pre (U' := T12.setTop (mkF m 110 #[.val (.int p1), .val (.int p2), .val (.int p3), .val (.int p4), .val (.int p5), .val (.int (0 : Int32)), .val (.int v0), .val (.int v1), .val (.int v2), .val (.ref la), .val (.ref a), .unset, .unset, .unset, .unset, .unset, .unset] [.null])) (fun t k => st12.trans k) ?_
    refine Goes.pre (U' := T12.setTop (mkF m 112 #[.val (.int p1), .val (.int p2), .val (.int p3), .val (.int p4), .val (.int p5), .val (.int (0 : Int32)), .val (.int v0), .val (.int v1), .val (.int v2), .val (.ref la), .val (.ref a), .val .null, .unset, .unset, .unset, .unset, .unset] [])) (fun t k => XS.astore X12.here hx rfl (hb hby at_110) rfl rfl (l' := #[.val (.int p1), .val (.int p2), .val (.int p3), .val (.int p4), .val (.int p5), .val (.int (0 : Int32)), .val (.int v0), .val (.int v1), .val (.int v2), .val (.ref la), .val (.ref a), .val .null, .unset, .unset, .unset, .unset, .unset]) rfl k) ?_
    refine Goes.pre (U' := T12.setTop (mkF m 114 #[.val (.int p1), .val (.int p2), .val (.int p3), .val (.int p4), .val (.int p5), .val (.int (0 : Int32)), .val (.int v0), .val (.int v1), .val (.int v2), .val (.ref la), .val (.ref a), .val .null, .unset, .unset, .unset, .unset, .unset] [(.int (0 : Int32))])) (fun t k => XS.iload X12.here hx rfl (hb hby at_112) rfl k) ?_
    refine Goes.pre (U' := T12.setTop (mkF m 115 #[.val (.int p1), .val (.int p2), .val (.int p3), .val (.int p4), .val (.int p5), .val (.int (0 : Int32)), .val (.int v0), .val (.int v1), .val (.int v2), .val (.ref la), .val (.ref a), .val .null, .unset, .unset, .unset, .unset, .unset] [(.int (1 : Int32)), (.int (0 : Int32))])) (fun t k => XS.iconst X12.here hx rfl (hb hby at_114) k) ?_
    have hc115 : (0 : Int32) < (1 : Int32) := by decide
    refine Goes.pre (U' := T12.setTop (mkF m 127 #[.val (.int p1), .val (.int p2), .val (.int p3), .val (.int p4), .val (.int p5), .val (.int (0 : Int32)), .val (.int v0), .val (.int v1), .val (.int v2), .val (.ref la), .val (.ref a), .val .null, .unset, .unset, .unset, .unset, .unset] [])) (fun t k => XS.icmpYes X12.here hx rfl (pc0 := 115) (pc' := 127) rfl (hb hby at_115) rfl (tlt hc115).1 (by decide) (by decide) k) ?_
    refine Goes.pre (U' := T12.setTop (mkF m 129 #[.val (.int p1), .val (.int p2), .val (.int p3), .val (.int p4), .val (.int p5), .val (.int (0 : Int32)), .val (.int v0), .val (.int v1), .val (.int v2), .val (.ref la), .val (.ref a), .val .null, .unset, .unset, .unset, .unset, .unset] [(.int (0 : Int32))])) (fun t k => XS.iload X12.here hx rfl (hb hby at_127) rfl k) ?_
    refine Goes.pre (U' := T12.setTop (mkF m 130 #[.val (.int p1), .val (.int p2), .val (.int p3), .val (.int p4), .val (.int p5), .val (.int (0 : Int32)), .val (.int v0), .val (.int v1), .val (.int v2), .val (.ref la), .val (.ref a), .val .null, .unset, .unset, .unset, .unset, .unset] [(.int (2 : Int32)), (.int (0 : Int32))])) (fun t k => XS.iconst X12.here hx rfl (hb hby at_129) k) ?_
    have hc130 : (0 : Int32) < (2 : Int32) := by decide
    refine Goes.pre (U' := T12.setTop (mkF m 142 #[.val (.int p1), .val (.int p2), .val (.int p3), .val (.int p4), .val (.int p5), .val (.int (0 : Int32)), .val (.int v0), .val (.int v1), .val (.int v2), .val (.ref la), .val (.ref a), .val .null, .unset, .unset, .unset, .unset, .unset] [])) (fun t k => XS.icmpYes X12.here hx rfl (pc0 := 130) (pc' := 142) rfl (hb hby at_130) rfl (tlt hc130).1 (by decide) (by decide) k) ?_
    refine Goes.pre (U' := T12.setTop (mkF m 144 #[.val (.int p1), .val (.int p2), .val (.int p3), .val (.int p4), .val (.int p5), .val (.int (0 : Int32)), .val (.int v0), .val (.int v1), .val (.int v2), .val (.ref la), .val (.ref a), .val .null, .unset, .unset, .unset, .unset, .unset] [(.int (0 : Int32))])) (fun t k => XS.iload X12.here hx rfl (hb hby at_142) rfl k) ?_
    refine Goes.pre (U' := T12.setTop (mkF m 145 #[.val (.int p1), .val (.int p2), .val (.int p3), .val (.int p4), .val (.int p5), .val (.int (0 : Int32)), .val (.int v0), .val (.int v1), .val (.int v2), .val (.ref la), .val (.ref a), .val .null, .unset, .unset, .unset, .unset, .unset] [(.int (3 : Int32)), (.int (0 : Int32))])) (fun t k => XS.iconst X12.here hx rfl (hb hby at_144) k) ?_
    have hc145 : (0 : Int32) < (3 : Int32) := by decide
    refine Goes.pre (U' := T12.setTop (mkF m 157 #[.val (.int p1), .val (.int p2), .val (.int p3), .val (.int p4), .val (.int p5), .val (.int (0 : Int32)), .val (.int v0), .val (.int v1), .val (.int v2), .val (.ref la), .val (.ref a), .val .null, .unset, .unset, .unset, .unset, .unset] [])) (fun t k => XS.icmpYes X12.here hx rfl (pc0 := 145) (pc' := 157) rfl (hb hby at_145) rfl (tlt hc145).1 (by decide) (by decide) k) ?_
    refine Goes.pre (U' := T12.setTop (mkF m 158 #[.val (.int p1), .val (.int p2), .val (.int p3), .val (.int p4), .val (.int p5), .val (.int (0 : Int32)), .val (.int v0), .val (.int v1), .val (.int v2), .val (.ref la), .val (.ref a), .val .null, .unset, .unset, .unset, .unset, .unset] [(.int (1 : Int32))])) (fun t k => XS.iconst X12.here hx rfl (hb hby at_157) k) ?_
    refine Goes.pre (U' := T12.setTop (mkF m 162 #[.val (.int p1), .val (.int p2), .val (.int p3), .val (.int p4), .val (.int p5), .val (.int (0 : Int32)), .val (.int v0), .val (.int v1), .val (.int v2), .val (.ref la), .val (.ref a), .val .null, .unset, .unset, .unset, .unset, .unset] [(.int (1 : Int32))])) (fun t k => XS.goto X12.here hx rfl (pc0 := 158) (pc' := 162) rfl (hb hby at_158) (by decide) (by decide) k) ?_
    refine Goes.pre (U' := T12.setTop (mkF m 164 #[.val (.int p1), .val (.int p2), .val (.int p3), .val (.int p4), .val (.int p5), .val (.int (0 : Int32)), .val (.int v0), .val (.int v1), .val (.int v2), .val (.ref la), .val (.ref a), .val .null, .val (.int (1 : Int32)), .unset, .unset, .unset, .unset] [])) (fun t k => XS.istore X12.here hx rfl (hb hby at_162) rfl (l' := #[.val (.int p1), .val (.int p2), .val (.int p3), .val (.int p4), .val (.int p5), .val (.int (0 : Int32)), .val (.int v0), .val (.int v1), .val (.int v2), .val (.ref la), .val (.ref a), .val .null, .val (.int (1 : Int32)), .unset, .unset, .unset, .unset]) rfl k) ?_
    refine Goes.pre (U' := T12.setTop (mkF m 166 #[.val (.int p1), .val (.int p2), .val (.int p3), .val (.int p4), .val (.int p5), .val (.int (0 : Int32)), .val (.int v0), .val (.int v1), .val (.int v2), .val (.ref la), .val (.ref a), .val .null, .val (.int (1 : Int32)), .unset, .unset, .unset, .unset] [(.int (0 : Int32))])) (fun t k => XS.iload X12.here hx rfl (hb hby at_164) rfl k) ?_
    refine Goes.pre (U' := T12.setTop (mkF m 167 #[.val (.int p1), .val (.int p2), .val (.int p3), .val (.int p4), .val (.int p5), .val (.int (0 : Int32)), .val (.int v0), .val (.int v1), .val (.int v2), .val (.ref la), .val (.ref a), .val .null, .val (.int (1 : Int32)), .unset, .unset, .unset, .unset] [(.int (3 : Int32)), (.int (0 : Int32))])) (fun t k => XS.iconst X12.here hx rfl (hb hby at_166) k) ?_
    have hc167 : (0 : Int32) < (3 : Int32) := by decide
    refine Goes.pre (U' := T12.setTop (mkF m 182 #[.val (.int p1), .val (.int p2), .val (.int p3), .val (.int p4), .val (.int p5), .val (.int (0 : Int32)), .val (.int v0), .val (.int v1), .val (.int v2), .val (.ref la), .val (.ref a), .val .null, .val (.int (1 : Int32)), .unset, .unset, .unset, .unset] [])) (fun t k => XS.icmpYes X12.here hx rfl (pc0 := 167) (pc' := 182) rfl (hb hby at_167) rfl (tlt hc167).1 (by decide) (by decide) k) ?_
    refine Goes.pre (U' := T12.setTop (mkF m 184 #[.val (.int p1), .val (.int p2), .val (.int p3), .val (.int p4), .val (.int p5), .val (.int (0 : Int32)), .val (.int v0), .val (.int v1), .val (.int v2), .val (.ref la), .val (.ref a), .val .null, .val (.int (1 : Int32)), .unset, .unset, .unset, .unset] [(.int (0 : Int32))])) (fun t k => XS.iload X12.here hx rfl (hb hby at_182) rfl k) ?_
    refine Goes.pre (U' := T12.setTop (mkF m 185 #[.val (.int p1), .val (.int p2), .val (.int p3), .val (.int p4), .val (.int p5), .val (.int (0 : Int32)), .val (.int v0), .val (.int v1), .val (.int v2), .val (.ref la), .val (.ref a), .val .null, .val (.int (1 : Int32)), .unset, .unset, .unset, .unset] [(.int (2 : Int32)), (.int (0 : Int32))])) (fun t k => XS.iconst X12.here hx rfl (hb hby at_184) k) ?_
    have hc185 : (0 : Int32) < (2 : Int32) := by decide
    refine Goes.pre (U' := T12.setTop (mkF m 200 #[.val (.int p1), .val (.int p2), .val (.int p3), .val (.int p4), .val (.int p5), .val (.int (0 : Int32)), .val (.int v0), .val (.int v1), .val (.int v2), .val (.ref la), .val (.ref a), .val .null, .val (.int (1 : Int32)), .unset, .unset, .unset, .unset] [])) (fun t k => XS.icmpYes X12.here hx rfl (pc0 := 185) (pc' := 200) rfl (hb hby at_185) rfl (tlt hc185).1 (by decide) (by decide) k) ?_
    refine Goes.pre (U' := T12.setTop (mkF m 202 #[.val (.int p1), .val (.int p2), .val (.int p3), .val (.int p4), .val (.int p5), .val (.int (0 : Int32)), .val (.int v0), .val (.int v1), .val (.int v2), .val (.ref la), .val (.ref a), .val .null, .val (.int (1 : Int32)), .unset, .unset, .unset, .unset] [(.int (0 : Int32))])) (fun t k => XS.iload X12.here hx rfl (hb hby at_200) rfl k) ?_
    refine Goes.pre (U' := T12.setTop (mkF m 203 #[.val (.int p1), .val (.int p2), .val (.int p3), .val (.int p4), .val (.int p5), .val (.int (0 : Int32)), .val (.int v0), .val (.int v1), .val (.int v2), .val (.ref la), .val (.ref a), .val .null, .val (.int (1 : Int32)), .unset, .unset, .unset, .unset] [(.int (1 : Int32)), (.int (0 : Int32))])) (fun t k => XS.iconst X12.here hx rfl (hb hby at_202) k) ?_
    have hc203 : (0 : Int32) < (1 : Int32) := by decide
    refine Goes.pre (U' := T12.setTop (mkF m 218 #[.val (.int p1), .val (.int p2), .val (.int p3), .val (.int p4), .val (.int p5), .val (.int (0 : Int32)), .val (.int v0), .val (.int v1), .val (.int v2), .val (.ref la), .val (.ref a), .val .null, .val (.int (1 : Int32)), .unset, .unset, .unset, .unset] [])) (fun t k => XS.icmpYes X12.here hx rfl (pc0 := 203) (pc' := 218) rfl (hb hby at_203) rfl (tlt hc203).1 (by decide) (by decide) k) ?_
    refine Goes.pre (U' := T12.setTop (mkF m 219 #[.val (.int p1), .val (.int p2), .val (.int p3), .val (.int p4), .val (.int p5), .val (.int (0 : Int32)), .val (.int v0), .val (.int v1), .val (.int v2), .val (.ref la), .val (.ref a), .val .null, .val (.int (1 : Int32)), .unset, .unset, .unset, .unset] [(.int (0 : Int32))])) (fun t k => XS.iconst X12.here hx rfl (hb hby at_218) k) ?_
    refine Goes.pre (U' := T12.setTop (mkF m 221 #[.val (.int p1), .val (.int p2), .val (.int p3), .val (.int p4), .val (.int p5), .val (.int (0 : Int32)), .val (.int v0), .val (.int v1), .val (.int v2), .val (.ref la), .val (.ref a), .val .null, .val (.int (1 : Int32)), .val (.int (0 : Int32)), .unset, .unset, .unset] [])) (fun t k => XS.istore X12.here hx rfl (hb hby at_219) rfl (l' := #[.val (.int p1), .val (.int p2), .val (.int p3), .val (.int p4), .val (.int p5), .val (.int (0 : Int32)), .val (.int v0), .val (.int v1), .val (.int v2), .val (.ref la), .val (.ref a), .val .null, .val (.int (1 : Int32)), .val (.int (0 : Int32)), .unset, .unset, .unset]) rfl k) ?_
    refine Goes.pre (U' := T12.setTop (mkF m 223 #[.val (.int p1), .val (.int p2), .val (.int p3), .val (.int p4), .val (.int p5), .val (.int (0 : Int32)), .val (.int v0), .val (.int v1), .val (.int v2), .val (.ref la), .val (.ref a), .val .null, .val (.int (1 : Int32)), .val (.int (0 : Int32)), .unset, .unset, .unset] [(.int (0 : Int32))])) (fun t k => XS.iload X12.here hx rfl (hb hby at_221) rfl k) ?_
    have hc223 : (0 : Int32) = (0 : Int32) := rfl
    refine Goes.pre (U' := T12.setTop (mkF m 226 #[.val (.int p1), .val (.int p2), .val (.int p3), .val (.int p4), .val (.int p5), .val (.int (0 : Int32)), .val (.int v0), .val (.int v1), .val (.int v2), .val (.ref la), .val (.ref a), .val .null, .val (.int (1 : Int32)), .val (.int (0 : Int32)), .unset, .unset, .unset] [])) (fun t k => XS.ifNo X12.here hx rfl (hb hby at_223) rfl ((if0 _ _).trans (teq hc223).2) k) ?_
    refine Goes.pre (U' := T12.setTop (mkF m 228 #[.val (.int p1), .val (.int p2), .val (.int p3), .val (.int p4), .val (.int p5), .val (.int (0 : Int32)), .val (.int v0), .val (.int v1), .val (.int v2), .val (.ref la), .val (.ref a), .val .null, .val (.int (1 : Int32)), .val (.int (0 : Int32)), .unset, .unset, .unset] [(.int (1 : Int32))])) (fun t k => XS.iload X12.here hx rfl (hb hby at_226) rfl k) ?_
    have hc228 : ¬ ((1 : Int32) = (0 : Int32)) := by decide
    refine Goes.pre (U' := T12.setTop (mkF m 231 #[.val (.int p1), .val (.int p2), .val (.int p3), .val (.int p4), .val (.int p5), .val (.int (0 : Int32)), .val (.int v0), .val (.int v1), .val (.int v2), .val (.ref la), .val (.ref a), .val .null, .val (.int (1 : Int32)), .val (.int (0 : Int32)), .unset, .unset, .unset] [])) (fun t k => XS.ifNo X12.here hx rfl (hb hby at_228) rfl ((if0 _ _).trans (feq hc228).1) k) ?_
    refine Goes.pre (U' := T12.setTop (mkF m 233 #[.val (.int p1), .val (.int p2), .val (.int p3), .val (.int p4), .val (.int p5), .val (.int (0 : Int32)), .val (.int v0), .val (.int v1), .val (.int v2), .val (.ref la), .val (.ref a), .val .null, .val (.int (1 : Int32)), .val (.int (0 : Int32)), .unset, .unset, .unset] [.null])) (fun t k => XS.aload X12.here hx rfl (hb hby at_231) rfl rfl k) ?_
    refine Goes.pre (U' := T12.setTop (mkF m 236 #[.val (.int p1), .val (.int p2), .val (.int p3), .val (.int p4), .val (.int p5), .val (.int (0 : Int32)), .val (.int v0), .val (.int v1), .val (.int v2), .val (.ref la), .val (.ref a), .val .null, .val (.int (1 : Int32)), .val (.int (0 : Int32)), .unset, .unset, .unset] [])) (fun t k => XS.ifnonnullNo X12.here hx rfl (hb hby at_233) rfl k) ?_
    refine Goes.pre (U' := T12.setTop (mkF m 237 #[.val (.int p1), .val (.int p2), .val (.int p3), .val (.int p4), .val (.int p5), .val (.int (0 : Int32)), .val (.int v0), .val (.int v1), .val (.int v2), .val (.ref la), .val (.ref a), .val .null, .val (.int (1 : Int32)), .val (.int (0 : Int32)), .unset, .unset, .unset] [(.int (1 : Int32))])) (fun t k => XS.iconst X12.here hx rfl (hb hby at_236) k) ?_
    refine Goes.pre (U' := T12.setTop (mkF m 241 #[.val (.int p1), .val (.int p2), .val (.int p3), .val (.int p4), .val (.int p5), .val (.int (0 : Int32)), .val (.int v0), .val (.int v1), .val (.int v2), .val (.ref la), .val (.ref a), .val .null, .val (.int (1 : Int32)), .val (.int (0 : Int32)), .unset, .unset, .unset] [(.int (1 : Int32))])) (fun t k => XS.goto X12.here hx rfl (pc0 := 237) (pc' := 241) rfl (hb hby at_237) (by decide) (by decide) k) ?_
    refine Goes.ret X12 (v := (some (.int (1 : Int32)))) (fun h => by rw [Bd.returns] at h; cases h) Bd.notSynchronized (by decide) (by decide) rfl (fun fs hr => retN X12 hx (t := .boolean) Bd.returns (by simp) (hb hby at_241) hr) ?_
    exact ⟨rfl, N12⟩
  ·
    refine Goes.pre (U' := s₁.setTop (mkF m 52 #[.val (.int p1), .val (.int p2), .val (.int p3), .val (.int p4), .val (.int p5), .val (.int (1 : Int32)), .val (.int v0), .val (.int v1), .val (.int v2), .unset, .unset, .unset, .unset, .unset, .unset, .unset, .unset] [(.int (1 : Int32))])) (fun t k => XS.iload X0.here hx rfl (hb hby at_50) rfl k) ?_
    obtain ⟨T14, h14, k14, X14, e14, E14, A14, B14, st14⟩ := newPE X0 hx hZ (hw _ (List.mem_of_getElem? (i := 0) rfl)) e0 (g := (mkF m 52 #[.val (.int p1), .val (.int p2), .val (.int p3), .val (.int p4), .val (.int p5), .val (.int (1 : Int32)), .val (.int v0), .val (.int v1), .val (.int v2), .unset, .unset, .unset, .unset, .unset, .unset, .unset, .unset] [(.int (1 : Int32))])) rfl (hb hby at_52) rfl (by decide) (cap := 1) (by decide) (by decide) (by decide) (by decide) (ad := "[B") (by decide)
    obtain ⟨la, g14⟩ : ∃ z, z = h0.size := ⟨_, rfl⟩
    rw [← g14] at A14 B14 st14
    have g_la : n0 ≤ la := Nat.le_trans Z0 (Nat.le_of_eq g14.symm)
    have Z14 : n0 ≤ h14.size := Nat.le_trans Z0 E14.1
    have E_la := B14
    have V_la : Arv Z h14 la k14 .byte (1 : Int32) [(.int (0 : Int32))] (.int (0 : Int32)) := (Arv.new A14 (by decide)).pad (pad_rep [] (.int (0 : Int32)) 1)
    refine Goes.pre (U' := T14.setTop (mkF m 54 #[.val (.int p1), .val (.int p2), .val (.int p3), .val (.int p4), .val (.int p5), .val (.int (1 : Int32)), .val (.int v0), .val (.int v1), .val (.int v2), .unset, .unset, .unset, .unset, .unset, .unset, .unset, .unset] [(.ref la)])) (fun t k => st14 t k) ?_
    refine Goes.pre (U' := T14.setTop (mkF m 56 #[.val (.int p1), .val (.int p2), .val (.int p3), .val (.int p4), .val (.int p5), .val (.int (1 : Int32)), .val (.int v0), .val (.int v1), .val (.int v2), .val (.ref la), .unset, .unset, .unset, .unset, .unset, .unset, .unset] [])) (fun t k => XS.astore X14.here hx rfl (hb hby at_54) rfl rfl (l' := #[.val (.int p1), .val (.int p2), .val (.int p3), .val (.int p4), .val (.int p5), .val (.int (1 : Int32)), .val (.int v0), .val (.int v1), .val (.int v2), .val (.ref la), .unset, .unset, .unset, .unset, .unset, .unset, .unset]) rfl k) ?_
    refine Goes.pre (U' := T14.setTop (mkF m 58 #[.val (.int p1), .val (.int p2), .val (.int p3), .val (.int p4), .val (.int p5), .val (.int (1 : Int32)), .val (.int v0), .val (.int v1), .val (.int v2), .val (.ref la), .unset, .unset, .unset, .unset, .unset, .unset, .unset] [(.int (1 : Int32))])) (fun t k => XS.iload X14.here hx rfl (hb hby at_56) rfl k) ?_
    have hc58 : (0 : Int32) < (1 : Int32) := by decide
    refine Goes.pre (U' := T14.setTop (mkF m 61 #[.val (.int p1), .val (.int p2), .val (.int p3), .val (.int p4), .val (.int p5), .val (.int (1 : Int32)), .val (.int v0), .val (.int v1), .val (.int v2), .val (.ref la), .unset, .unset, .unset, .unset, .unset, .unset, .unset] [])) (fun t k => XS.ifNo X14.here hx rfl (hb hby at_58) rfl ((if0 _ _).trans (tlt hc58).2.2.2) k) ?_
    refine Goes.pre (U' := T14.setTop (mkF m 63 #[.val (.int p1), .val (.int p2), .val (.int p3), .val (.int p4), .val (.int p5), .val (.int (1 : Int32)), .val (.int v0), .val (.int v1), .val (.int v2), .val (.ref la), .unset, .unset, .unset, .unset, .unset, .unset, .unset] [(.ref la)])) (fun t k => XS.aload X14.here hx rfl (hb hby at_61) rfl rfl k) ?_
    refine Goes.pre (U' := T14.setTop (mkF m 64 #[.val (.int p1), .val (.int p2), .val (.int p3), .val (.int p4), .val (.int p5), .val (.int (1 : Int32)), .val (.int v0), .val (.int v1), .val (.int v2), .val (.ref la), .unset, .unset, .unset, .unset, .unset, .unset, .unset] [(.int (0 : Int32)), (.ref la)])) (fun t k => XS.iconst X14.here hx rfl (hb hby at_63) k) ?_
    refine Goes.pre (U' := T14.setTop (mkF m 66 #[.val (.int p1), .val (.int p2), .val (.int p3), .val (.int p4), .val (.int p5), .val (.int (1 : Int32)), .val (.int v0), .val (.int v1), .val (.int v2), .val (.ref la), .unset, .unset, .unset, .unset, .unset, .unset, .unset] [(.int v0), (.int (0 : Int32)), (.ref la)])) (fun t k => XS.iload X14.here hx rfl (hb hby at_64) rfl k) ?_
    obtain ⟨cl15, Ar15, q15, Sz15, Ng15, Hs15, Ft15⟩ := id V_la
    obtain ⟨T15, h15, X15, e15, W15, st15⟩ := stB X14 hx hZ e14 Ar15 (j := (0 : Int32)) (inb_of Sz15 ⟨by decide, by decide⟩) (g := (mkF m 66 #[.val (.int p1), .val (.int p2), .val (.int p3), .val (.int p4), .val (.int p5), .val (.int (1 : Int32)), .val (.int v0), .val (.int v1), .val (.int v2), .val (.ref la), .unset, .unset, .unset, .unset, .unset, .unset, .unset] [(.int v0), (.int (0 : Int32)), (.ref la)])) rfl rfl (hb hby at_66)
    have nr15 : nar .byte v0 = v0 := hv0
    have ft15 : fits .byte (.int v0) = true := nr15 ▸ (fits_nar_byte v0 : fits .byte (.int (nar .byte v0)) = true)
    rw [nr15] at W15
    have E_la := E_la.wr W15
    have Z15 : n0 ≤ h15.size := Nat.le_trans Z14 (Keep.of_wr W15).1
    have V_la : Arv Z h15 la k14 .byte (1 : Int32) [(.int v0)] (.int (0 : Int32)) := Arv.set Ar15 q15 Sz15 Ng15 Hs15 Ft15 ft15 W15 0 rfl (Nat.le_of_ble_eq_true rfl)
    have N15 := Fr.snoc X15 N0 g_la
    refine Goes.pre (U' := T15.setTop (mkF m 67 #[.val (.int p1), .val (.int p2), .val (.int p3), .val (.int p4), .val (.int p5), .val (.int (1 : Int32)), .val (.int v0), .val (.int v1), .val (.int v2), .val (.ref la), .unset, .unset, .unset, .unset, .unset, .unset, .unset] [])) (fun t k => st15 t k) ?_
    refine Goes.pre (U' := T15.setTop (mkF m 69 #[.val (.int p1), .val (.int p2), .val (.int p3), .val (.int p4), .val (.int p5), .val (.int (1 : Int32)), .val (.int v0), .val (.int v1), .val (.int v2), .val (.ref la), .unset, .unset, .unset, .unset, .unset, .unset, .unset] [(.int (1 : Int32))])) (fun t k => XS.iload X15.here hx rfl (hb hby at_67) rfl k) ?_
    refine Goes.pre (U' := T15.setTop (mkF m 70 #[.val (.int p1), .val (.int p2), .val (.int p3), .val (.int p4), .val (.int p5), .val (.int (1 : Int32)), .val (.int v0), .val (.int v1), .val (.int v2), .val (.ref la), .unset, .unset, .unset, .unset, .unset, .unset, .unset] [(.int (1 : Int32)), (.int (1 : Int32))])) (fun t k => XS.iconst X15.here hx rfl (hb hby at_69) k) ?_
    have hc70 : ¬ ((1 : Int32) < (1 : Int32)) := by decide
    refine Goes.pre (U' := T15.setTop (mkF m 79 #[.val (.int p1), .val (.int p2), .val (.int p3), .val (.int p4), .val (.int p5), .val (.int (1 : Int32)), .val (.int v0), .val (.int v1), .val (.int v2), .val (.ref la), .unset, .unset, .unset, .unset, .unset, .unset, .unset] [])) (fun t k => XS.icmpYes X15.here hx rfl (pc0 := 70) (pc' := 79) rfl (hb hby at_70) rfl (flt hc70).2.2.2 (by decide) (by decide) k) ?_
    refine Goes.pre (U' := T15.setTop (mkF m 81 #[.val (.int p1), .val (.int p2), .val (.int p3), .val (.int p4), .val (.int p5), .val (.int (1 : Int32)), .val (.int v0), .val (.int v1), .val (.int v2), .val (.ref la), .unset, .unset, .unset, .unset, .unset, .unset, .unset] [(.int (1 : Int32))])) (fun t k => XS.iload X15.here hx rfl (hb hby at_79) rfl k) ?_
    refine Goes.pre (U' := T15.setTop (mkF m 82 #[.val (.int p1), .val (.int p2), .val (.int p3), .val (.int p4), .val (.int p5), .val (.int (1 : Int32)), .val (.int v0), .val (.int v1), .val (.int v2), .val (.ref la), .unset, .unset, .unset, .unset, .unset, .unset, .unset] [(.int (2 : Int32)), (.int (1 : Int32))])) (fun t k => XS.iconst X15.here hx rfl (hb hby at_81) k) ?_
    have hc82 : ¬ ((2 : Int32) < (1 : Int32)) := by decide
    refine Goes.pre (U' := T15.setTop (mkF m 91 #[.val (.int p1), .val (.int p2), .val (.int p3), .val (.int p4), .val (.int p5), .val (.int (1 : Int32)), .val (.int v0), .val (.int v1), .val (.int v2), .val (.ref la), .unset, .unset, .unset, .unset, .unset, .unset, .unset] [])) (fun t k => XS.icmpYes X15.here hx rfl (pc0 := 82) (pc' := 91) rfl (hb hby at_82) rfl (flt hc82).2.2.2 (by decide) (by decide) k) ?_
    obtain ⟨T16, h16, X16, e16, E16, A16, D16, -, st16⟩ := newO X15 hx hZ hown (hw _ (List.mem_of_getElem? (i := 1) rfl)) (hw _ (List.mem_of_getElem? (i := 2) rfl)) (hw _ (List.mem_of_getElem? (i := 3) rfl)) e15 (g := (mkF m 91 #[.val (.int p1), .val (.int p2), .val (.int p3), .val (.int p4), .val (.int p5), .val (.int (1 : Int32)), .val (.int v0), .val (.int v1), .val (.int v2), .val (.ref la), .unset, .unset, .unset, .unset, .unset, .unset, .unset] [])) rfl (hb hby at_91) (by decide) (by decide)
    obtain ⟨a, g16⟩ : ∃ z, z = h15.size := ⟨_, rfl⟩
    rw [← g16] at A16 D16 st16
    have ne_la_a : la ≠ a := Nat.ne_of_lt (Nat.lt_of_lt_of_le E_la.lt (Nat.le_of_eq g16.symm))
    have ne_a_la := ne_la_a.symm
    have g_a : n0 ≤ a := Nat.le_trans Z15 (Nat.le_of_eq g16.symm)
    have E_la := E_la.ext E16
    have V_la := V_la.ext E16
    have Z16 : n0 ≤ h16.size := Nat.le_trans Z15 E16.1
    have E_a := A16
    have F_first_a : Fld Z h16 a "com/example/known_paths/knownpaths/key/KeyRange" "first" "[B" .null := D16 (Or.inr (hw _ (List.mem_of_getElem? (i := 16) rfl))) (ty := (.array .byte)) (by decide)
    have F_last_a : Fld Z h16 a "com/example/known_paths/knownpaths/key/KeyRange" "last" "[B" .null := D16 (Or.inr (hw _ (List.mem_of_getElem? (i := 18) rfl))) (ty := (.array .byte)) (by decide)
    refine Goes.pre (U' := T16.setTop (mkF m 94 #[.val (.int p1), .val (.int p2), .val (.int p3), .val (.int p4), .val (.int p5), .val (.int (1 : Int32)), .val (.int v0), .val (.int v1), .val (.int v2), .val (.ref la), .unset, .unset, .unset, .unset, .unset, .unset, .unset] [(.ref a)])) (fun t k => st16 t k) ?_
    refine Goes.pre (U' := T16.setTop (mkF m 95 #[.val (.int p1), .val (.int p2), .val (.int p3), .val (.int p4), .val (.int p5), .val (.int (1 : Int32)), .val (.int v0), .val (.int v1), .val (.int v2), .val (.ref la), .unset, .unset, .unset, .unset, .unset, .unset, .unset] [(.ref a), (.ref a)])) (fun t k => XS.dup X16.here hx rfl (hb hby at_94) rfl rfl k) ?_
    refine Goes.pre (U' := T16.setTop (mkF m 96 #[.val (.int p1), .val (.int p2), .val (.int p3), .val (.int p4), .val (.int p5), .val (.int (1 : Int32)), .val (.int v0), .val (.int v1), .val (.int v2), .val (.ref la), .unset, .unset, .unset, .unset, .unset, .unset, .unset] [(.int (0 : Int32)), (.ref a), (.ref a)])) (fun t k => XS.iconst X16.here hx rfl (hb hby at_95) k) ?_
    obtain ⟨T17, h17, k17, X17, e17, E17, A17, B17, st17⟩ := newPE X16 hx hZ (hw _ (List.mem_of_getElem? (i := 0) rfl)) e16 (g := (mkF m 96 #[.val (.int p1), .val (.int p2), .val (.int p3), .val (.int p4), .val (.int p5), .val (.int (1 : Int32)), .val (.int v0), .val (.int v1), .val (.int v2), .val (.ref la), .unset, .unset, .unset, .unset, .unset, .unset, .unset] [(.int (0 : Int32)), (.ref a), (.ref a)])) rfl (hb hby at_96) rfl (by decide) (cap := 0) (by decide) (by decide) (by decide) (by decide) (ad := "[B") (by decide)
    obtain ⟨fa, g17⟩ : ∃ z, z = h16.size := ⟨_, rfl⟩
    rw [← g17] at A17 B17 st17
    have ne_a_fa : a ≠ fa := Nat.ne_of_lt (Nat.lt_of_lt_of_le E_a.lt (Nat.le_of_eq g17.symm))
    have ne_fa_a := ne_a_fa.symm
    have ne_la_fa : la ≠ fa := Nat.ne_of_lt (Nat.lt_of_lt_of_le E_la.lt (Nat.le_of_eq g17.symm))
    have ne_fa_la := ne_la_fa.symm
    have g_fa : n0 ≤ fa := Nat.le_trans Z16 (Nat.le_of_eq g17.symm)
    have E_la := E_la.ext E17
    have V_la := V_la.ext E17
    have E_a := E_a.ext E17
    have F_first_a := F_first_a.ext E17
    have F_last_a := F_last_a.ext E17
    have Z17 : n0 ≤ h17.size := Nat.le_trans Z16 E17.1
    have E_fa := B17
    have V_fa : Arv Z h17 fa k17 .byte (0 : Int32) [] (.int (0 : Int32)) := (Arv.new A17 (by decide)).pad (pad_rep [] (.int (0 : Int32)) 0)
    refine Goes.pre (U' := T17.setTop (mkF m 98 #[.val (.int p1), .val (.int p2), .val (.int p3), .val (.int p4), .val (.int p5), .val (.int (1 : Int32)), .val (.int v0), .val (.int v1), .val (.int v2), .val (.ref la), .unset, .unset, .unset, .unset, .unset, .unset, .unset] [(.ref fa), (.ref a), (.ref a)])) (fun t k => st17 t k) ?_
    refine Goes.pre (U' := T17.setTop (mkF m 100 #[.val (.int p1), .val (.int p2), .val (.int p3), .val (.int p4), .val (.int p5), .val (.int (1 : Int32)), .val (.int v0), .val (.int v1), .val (.int v2), .val (.ref la), .unset, .unset, .unset, .unset, .unset, .unset, .unset] [(.ref la), (.ref fa), (.ref a), (.ref a)])) (fun t k => XS.aload X17.here hx rfl (hb hby at_98) rfl rfl k) ?_
    obtain ⟨_, _, ⟨T18, L18, k18, n18⟩, -, X18, ⟨Lc18, hQ18, l18, y18, z18⟩, st18⟩ := X17.specialBack hx (y := (⟨"com/example/known_paths/knownpaths/key/KeyRange", "<init>", "([B[B)V"⟩ : MethodName)) rfl hown (mvT hZ (hw _ (List.mem_of_getElem? (i := 4) rfl))) (mvT hZ (hw _ (List.mem_of_getElem? (i := 5) rfl))) (mvT hZ (hw _ (List.mem_of_getElem? (i := 6) rfl))) (by decide) (backOf (W := 1) (rm_init l Z a0 hw [] a fa la h17 n0 Z17 E_a F_first_a F_last_a g_a) hZ (hw _ (List.mem_of_getElem? (i := 6) rfl)) (hw _ (List.mem_of_getElem? (i := 3) rfl)) (by decide) (by decide)) (g := (mkF m 100 #[.val (.int p1), .val (.int p2), .val (.int p3), .val (.int p4), .val (.int p5), .val (.int (1 : Int32)), .val (.int v0), .val (.int v1), .val (.int v2), .val (.ref la), .unset, .unset, .unset, .unset, .unset, .unset, .unset] [(.ref la), (.ref fa), (.ref a), (.ref a)])) rfl (by rw [hml]; rfl) (Steps.refl _) (a := a) (argsL := [(.ref fa), (.ref la)]) (rest := [(.ref a)]) (lenOf pd__28_5bB_5bB_29V rfl) rfl (by show 2 * 0 + _ ≤ _; exact Nat.le_of_eq rfl) (hb hby at_100) (fun _ _ => ⟨rfl, e17, (by decide : 3 + 0 ≤ _), (by decide : 3 + 0 ≤ _)⟩)
    dsimp only [Pt.U, Pt.locs, Pt.cells, Pt.slots] at X18 l18 y18 z18 st18 hQ18
    subst l18 y18 z18
    obtain ⟨rfl, N18q, KQ18, fq_18⟩ := hQ18
    have N18 := Fr.app N15 N18q
    have E_la := E_la.keep KQ18
    have V_la := V_la.keep KQ18 (ninS ne_la_a nin0)
    have E_a := E_a.keep KQ18
    have E_fa := E_fa.keep KQ18
    have V_fa := V_fa.keep KQ18 (ninS ne_fa_a nin0)
    have Z19 : n0 ≤ T18.heap.size := Nat.le_trans Z17 KQ18.1
    have F_last_a := fq_18
    refine Goes.pre (U' := T18.setTop (mkF m 103 #[.val (.int p1), .val (.int p2), .val (.int p3), .val (.int p4), .val (.int p5), .val (.int (1 : Int32)), .val (.int v0), .val (.int v1), .val (.int v2), .val (.ref la), .unset, .unset, .unset, .unset, .unset, .unset, .unset] [(.ref a)])) (fun t k => st18.trans k) ?_
    refine Goes.pre (U' := T18.setTop (mkF m 105 #[.val (.int p1), .val (.int p2), .val (.int p3), .val (.int p4), .val (.int p5), .val (.int (1 : Int32)), .val (.int v0), .val (.int v1), .val (.int v2), .val (.ref la), .val (.ref a), .unset, .unset, .unset, .unset, .unset, .unset] [])) (fun t k => XS.astore X18.here hx rfl (hb hby at_103) rfl rfl (l' := #[.val (.int p1), .val (.int p2), .val (.int p3), .val (.int p4), .val (.int p5), .val (.int (1 : Int32)), .val (.int v0), .val (.int v1), .val (.int v2), .val (.ref la), .val (.ref a), .unset, .unset, .unset, .unset, .unset, .unset]) rfl k) ?_
    by_cases hq0 : v0 = (-1 : Int32)
    ·
      refine Goes.pre (U' := T18.setTop (mkF m 107 #[.val (.int p1), .val (.int p2), .val (.int p3), .val (.int p4), .val (.int p5), .val (.int (1 : Int32)), .val (.int v0), .val (.int v1), .val (.int v2), .val (.ref la), .val (.ref a), .unset, .unset, .unset, .unset, .unset, .unset] [(.ref a)])) (fun t k => XS.aload X18.here hx rfl (hb hby at_105) rfl rfl k) ?_
      have lt_a := E_a.lt
      have lt_fa := E_fa.lt
      have lt_la := E_la.lt
      obtain ⟨cq20, kq20, q20a, q20b, q20c⟩ := isOf hZ rfl E_a
      obtain ⟨_, _, ⟨T20, L20, k20, n20⟩, -, X20, ⟨Lc20, hQ20, l20, y20, z20⟩, st20⟩ := X18.virtualBack hx (y := (⟨"com/example/known_paths/knownpaths/key/KeyRange", "end", "()[B"⟩ : MethodName)) (z := (⟨"com/example/known_paths/knownpaths/key/KeyRange", "end", "()[B"⟩ : MethodName)) hown (mvT hZ (hw _ (List.mem_of_getElem? (i := 19) rfl))) (mvT hZ (hw _ (List.mem_of_getElem? (i := 20) rfl))) (notFace_of_selects (args := #[]) (mvT hZ (hw _ (List.mem_of_getElem? (i := 22) rfl)))) (mvT hZ (hw _ (List.mem_of_getElem? (i := 22) rfl))) (mvT hZ (hw _ (List.mem_of_getElem? (i := 21) rfl))) (by decide) (backOf (W := 0) (rm_end10 l Z a0 hw [] a la k14 v0 T18.heap n0 Z19 F_last_a E_la V_la hq0) hZ (hw _ (List.mem_of_getElem? (i := 23) rfl)) (hw _ (List.mem_of_getElem? (i := 3) rfl)) (by decide) (by decide)) q20a q20c (g := (mkF m 107 #[.val (.int p1), .val (.int p2), .val (.int p3), .val (.int p4), .val (.int p5), .val (.int (1 : Int32)), .val (.int v0), .val (.int v1), .val (.int v2), .val (.ref la), .val (.ref a), .unset, .unset, .unset, .unset, .unset, .unset] [(.ref a)])) rfl (by rw [hml]; rfl) (Steps.refl _) (argsL := []) (rest := []) (lenOf pd__28_29_5bB rfl) rfl (by show 2 * 0 + _ ≤ _; exact Nat.le_of_eq rfl) (hb hby at_107) (fun _ _ => ⟨rfl, rfl, (by decide : 3 + 0 ≤ _), (by decide : 3 + 0 ≤ _)⟩)
      dsimp only [Pt.U, Pt.locs, Pt.cells, Pt.slots] at X20 l20 y20 z20 st20 hQ20
      subst l20 y20 z20
      obtain ⟨rfl, N20q, KQ20⟩ := hQ20
      have N20 := Fr.app N18 N20q
      have E_la := E_la.keep KQ20
      have V_la := V_la.keep KQ20 nin0
      have E_a := E_a.keep KQ20
      have E_fa := E_fa.keep KQ20
      have V_fa := V_fa.keep KQ20 nin0
      have F_last_a := F_last_a.keep KQ20 nin0
      have Z21 : n0 ≤ T20.heap.size := Nat.le_trans Z19 KQ20.1
      refine Goes.pre (U' := T20.setTop (mkF m 110 #[.val (.int p1), .val (.int p2), .val (.int p3), .val (.int p4), .val (.int p5), .val (.int (1 : Int32)), .val (.int v0), .val (.int v1), .val (.int v2), .val (.ref la), .val (.ref a), .unset, .unset, .unset, .unset, .unset, .unset] [.null])) (fun t k => st20.trans k) ?_
      refine Goes.pre (U' := T20.setTop (mkF m 112 #[.val (.int p1), .val (.int p2), .val (.int p3), .val (.int p4), .val (.int p5), .val (.int (1 : Int32)), .val (.int v0), .val (.int v1), .val (.int v2), .val (.ref la), .val (.ref a), .val .null, .unset, .unset, .unset, .unset, .unset] [])) (fun t k => XS.astore X20.here hx rfl (hb hby at_110) rfl rfl (l' := #[.val (.int p1), .val (.int p2), .val (.int p3), .val (.int p4), .val (.int p5), .val (.int (1 : Int32)), .val (.int v0), .val (.int v1), .val (.int v2), .val (.ref la), .val (.ref a), .val .null, .unset, .unset, .unset, .unset, .unset]) rfl k) ?_
      refine Goes.pre (U' := T20.setTop (mkF m 114 #[.val (.int p1), .val (.int p2), .val (.int p3), .val (.int p4), .val (.int p5), .val (.int (1 : Int32)), .val (.int v0), .val (.int v1), .val (.int v2), .val (.ref la), .val (.ref a), .val .null, .unset, .unset, .unset, .unset, .unset] [(.int (1 : Int32))])) (fun t k => XS.iload X20.here hx rfl (hb hby at_112) rfl k) ?_
      refine Goes.pre (U' := T20.setTop (mkF m 115 #[.val (.int p1), .val (.int p2), .val (.int p3), .val (.int p4), .val (.int p5), .val (.int (1 : Int32)), .val (.int v0), .val (.int v1), .val (.int v2), .val (.ref la), .val (.ref a), .val .null, .unset, .unset, .unset, .unset, .unset] [(.int (1 : Int32)), (.int (1 : Int32))])) (fun t k => XS.iconst X20.here hx rfl (hb hby at_114) k) ?_
      have hc115 : ¬ ((1 : Int32) < (1 : Int32)) := by decide
      refine Goes.pre (U' := T20.setTop (mkF m 118 #[.val (.int p1), .val (.int p2), .val (.int p3), .val (.int p4), .val (.int p5), .val (.int (1 : Int32)), .val (.int v0), .val (.int v1), .val (.int v2), .val (.ref la), .val (.ref a), .val .null, .unset, .unset, .unset, .unset, .unset] [])) (fun t k => XS.icmpNo X20.here hx rfl (hb hby at_115) rfl (flt hc115).1 k) ?_
      refine Goes.pre (U' := T20.setTop (mkF m 120 #[.val (.int p1), .val (.int p2), .val (.int p3), .val (.int p4), .val (.int p5), .val (.int (1 : Int32)), .val (.int v0), .val (.int v1), .val (.int v2), .val (.ref la), .val (.ref a), .val .null, .unset, .unset, .unset, .unset, .unset] [(.ref la)])) (fun t k => XS.aload X20.here hx rfl (hb hby at_118) rfl rfl k) ?_
      refine Goes.pre (U' := T20.setTop (mkF m 121 #[.val (.int p1), .val (.int p2), .val (.int p3), .val (.int p4), .val (.int p5), .val (.int (1 : Int32)), .val (.int v0), .val (.int v1), .val (.int v2), .val (.ref la), .val (.ref a), .val .null, .unset, .unset, .unset, .unset, .unset] [(.int (0 : Int32)), (.ref la)])) (fun t k => XS.iconst X20.here hx rfl (hb hby at_120) k) ?_
      obtain ⟨cl22, Ar22, q22, Sz22, Ng22, Hs22, Ft22⟩ := id V_la
      have hin22 := inb_of (j := (0 : Int32)) Sz22 ⟨by decide, by decide⟩
      refine Goes.pre (U' := T20.setTop (mkF m 122 #[.val (.int p1), .val (.int p2), .val (.int p3), .val (.int p4), .val (.int p5), .val (.int (1 : Int32)), .val (.int v0), .val (.int v1), .val (.int v2), .val (.ref la), .val (.ref a), .val .null, .unset, .unset, .unset, .unset, .unset] [(.int v0)])) (fun t k => X20.baloadBytes hx (j := (0 : Int32)) (v := (.int v0)) Ar22.1 (State.isArrayOf_alike hZ.alike Ar22.2.1) Ar22.2.2 hin22 (Has.at Hs22 hin22 rfl) (g := (mkF m 121 #[.val (.int p1), .val (.int p2), .val (.int p3), .val (.int p4), .val (.int p5), .val (.int (1 : Int32)), .val (.int v0), .val (.int v1), .val (.int v2), .val (.ref la), .val (.ref a), .val .null, .unset, .unset, .unset, .unset, .unset] [(.int (0 : Int32)), (.ref la)])) rfl rfl (hb hby at_121) _ k) ?_
      refine Goes.pre (U' := T20.setTop (mkF m 124 #[.val (.int p1), .val (.int p2), .val (.int p3), .val (.int p4), .val (.int p5), .val (.int (1 : Int32)), .val (.int v0), .val (.int v1), .val (.int v2), .val (.ref la), .val (.ref a), .val .null, .unset, .unset, .unset, .unset, .unset] [(.int v0), (.int v0)])) (fun t k => XS.iload X20.here hx rfl (hb hby at_122) rfl k) ?_
      have hc124 : v0 = v0 := rfl
      refine Goes.pre (U' := T20.setTop (mkF m 127 #[.val (.int p1), .val (.int p2), .val (.int p3), .val (.int p4), .val (.int p5), .val (.int (1 : Int32)), .val (.int v0), .val (.int v1), .val (.int v2), .val (.ref la), .val (.ref a), .val .null, .unset, .unset, .unset, .unset, .unset] [])) (fun t k => XS.icmpNo X20.here hx rfl (hb hby at_124) rfl (teq hc124).2 k) ?_
      refine Goes.pre (U' := T20.setTop (mkF m 129 #[.val (.int p1), .val (.int p2), .val (.int p3), .val (.int p4), .val (.int p5), .val (.int (1 : Int32)), .val (.int v0), .val (.int v1), .val (.int v2), .val (.ref la), .val (.ref a), .val .null, .unset, .unset, .unset, .unset, .unset] [(.int (1 : Int32))])) (fun t k => XS.iload X20.here hx rfl (hb hby at_127) rfl k) ?_
      refine Goes.pre (U' := T20.setTop (mkF m 130 #[.val (.int p1), .val (.int p2), .val (.int p3), .val (.int p4), .val (.int p5), .val (.int (1 : Int32)), .val (.int v0), .val (.int v1), .val (.int v2), .val (.ref la), .val (.ref a), .val .null, .unset, .unset, .unset, .unset, .unset] [(.int (2 : Int32)), (.int (1 : Int32))])) (fun t k => XS.iconst X20.here hx rfl (hb hby at_129) k) ?_
      have hc130 : (1 : Int32) < (2 : Int32) := by decide
      refine Goes.pre (U' := T20.setTop (mkF m 142 #[.val (.int p1), .val (.int p2), .val (.int p3), .val (.int p4), .val (.int p5), .val (.int (1 : Int32)), .val (.int v0), .val (.int v1), .val (.int v2), .val (.ref la), .val (.ref a), .val .null, .unset, .unset, .unset, .unset, .unset] [])) (fun t k => XS.icmpYes X20.here hx rfl (pc0 := 130) (pc' := 142) rfl (hb hby at_130) rfl (tlt hc130).1 (by decide) (by decide) k) ?_
      refine Goes.pre (U' := T20.setTop (mkF m 144 #[.val (.int p1), .val (.int p2), .val (.int p3), .val (.int p4), .val (.int p5), .val (.int (1 : Int32)), .val (.int v0), .val (.int v1), .val (.int v2), .val (.ref la), .val (.ref a), .val .null, .unset, .unset, .unset, .unset, .unset] [(.int (1 : Int32))])) (fun t k => XS.iload X20.here hx rfl (hb hby at_142) rfl k) ?_
      refine Goes.pre (U' := T20.setTop (mkF m 145 #[.val (.int p1), .val (.int p2), .val (.int p3), .val (.int p4), .val (.int p5), .val (.int (1 : Int32)), .val (.int v0), .val (.int v1), .val (.int v2), .val (.ref la), .val (.ref a), .val .null, .unset, .unset, .unset, .unset, .unset] [(.int (3 : Int32)), (.int (1 : Int32))])) (fun t k => XS.iconst X20.here hx rfl (hb hby at_144) k) ?_
      have hc145 : (1 : Int32) < (3 : Int32) := by decide
      refine Goes.pre (U' := T20.setTop (mkF m 157 #[.val (.int p1), .val (.int p2), .val (.int p3), .val (.int p4), .val (.int p5), .val (.int (1 : Int32)), .val (.int v0), .val (.int v1), .val (.int v2), .val (.ref la), .val (.ref a), .val .null, .unset, .unset, .unset, .unset, .unset] [])) (fun t k => XS.icmpYes X20.here hx rfl (pc0 := 145) (pc' := 157) rfl (hb hby at_145) rfl (tlt hc145).1 (by decide) (by decide) k) ?_
      refine Goes.pre (U' := T20.setTop (mkF m 158 #[.val (.int p1), .val (.int p2), .val (.int p3), .val (.int p4), .val (.int p5), .val (.int (1 : Int32)), .val (.int v0), .val (.int v1), .val (.int v2), .val (.ref la), .val (.ref a), .val .null, .unset, .unset, .unset, .unset, .unset] [(.int (1 : Int32))])) (fun t k => XS.iconst X20.here hx rfl (hb hby at_157) k) ?_
      refine Goes.pre (U' := T20.setTop (mkF m 162 #[.val (.int p1), .val (.int p2), .val (.int p3), .val (.int p4), .val (.int p5), .val (.int (1 : Int32)), .val (.int v0), .val (.int v1), .val (.int v2), .val (.ref la), .val (.ref a), .val .null, .unset, .unset, .unset, .unset, .unset] [(.int (1 : Int32))])) (fun t k => XS.goto X20.here hx rfl (pc0 := 158) (pc' := 162) rfl (hb hby at_158) (by decide) (by decide) k) ?_
      refine Goes.pre (U' := T20.setTop (mkF m 164 #[.val (.int p1), .val (.int p2), .val (.int p3), .val (.int p4), .val (.int p5), .val (.int (1 : Int32)), .val (.int v0), .val (.int v1), .val (.int v2), .val (.ref la), .val (.ref a), .val .null, .val (.int (1 : Int32)), .unset, .unset, .unset, .unset] [])) (fun t k => XS.istore X20.here hx rfl (hb hby at_162) rfl (l' := #[.val (.int p1), .val (.int p2), .val (.int p3), .val (.int p4), .val (.int p5), .val (.int (1 : Int32)), .val (.int v0), .val (.int v1), .val (.int v2), .val (.ref la), .val (.ref a), .val .null, .val (.int (1 : Int32)), .unset, .unset, .unset, .unset]) rfl k) ?_
      refine Goes.pre (U' := T20.setTop (mkF m 166 #[.val (.int p1), .val (.int p2), .val (.int p3), .val (.int p4), .val (.int p5), .val (.int (1 : Int32)), .val (.int v0), .val (.int v1), .val (.int v2), .val (.ref la), .val (.ref a), .val .null, .val (.int (1 : Int32)), .unset, .unset, .unset, .unset] [(.int (1 : Int32))])) (fun t k => XS.iload X20.here hx rfl (hb hby at_164) rfl k) ?_
      refine Goes.pre (U' := T20.setTop (mkF m 167 #[.val (.int p1), .val (.int p2), .val (.int p3), .val (.int p4), .val (.int p5), .val (.int (1 : Int32)), .val (.int v0), .val (.int v1), .val (.int v2), .val (.ref la), .val (.ref a), .val .null, .val (.int (1 : Int32)), .unset, .unset, .unset, .unset] [(.int (3 : Int32)), (.int (1 : Int32))])) (fun t k => XS.iconst X20.here hx rfl (hb hby at_166) k) ?_
      have hc167 : (1 : Int32) < (3 : Int32) := by decide
      refine Goes.pre (U' := T20.setTop (mkF m 182 #[.val (.int p1), .val (.int p2), .val (.int p3), .val (.int p4), .val (.int p5), .val (.int (1 : Int32)), .val (.int v0), .val (.int v1), .val (.int v2), .val (.ref la), .val (.ref a), .val .null, .val (.int (1 : Int32)), .unset, .unset, .unset, .unset] [])) (fun t k => XS.icmpYes X20.here hx rfl (pc0 := 167) (pc' := 182) rfl (hb hby at_167) rfl (tlt hc167).1 (by decide) (by decide) k) ?_
      refine Goes.pre (U' := T20.setTop (mkF m 184 #[.val (.int p1), .val (.int p2), .val (.int p3), .val (.int p4), .val (.int p5), .val (.int (1 : Int32)), .val (.int v0), .val (.int v1), .val (.int v2), .val (.ref la), .val (.ref a), .val .null, .val (.int (1 : Int32)), .unset, .unset, .unset, .unset] [(.int (1 : Int32))])) (fun t k => XS.iload X20.here hx rfl (hb hby at_182) rfl k) ?_
      refine Goes.pre (U' := T20.setTop (mkF m 185 #[.val (.int p1), .val (.int p2), .val (.int p3), .val (.int p4), .val (.int p5), .val (.int (1 : Int32)), .val (.int v0), .val (.int v1), .val (.int v2), .val (.ref la), .val (.ref a), .val .null, .val (.int (1 : Int32)), .unset, .unset, .unset, .unset] [(.int (2 : Int32)), (.int (1 : Int32))])) (fun t k => XS.iconst X20.here hx rfl (hb hby at_184) k) ?_
      have hc185 : (1 : Int32) < (2 : Int32) := by decide
      refine Goes.pre (U' := T20.setTop (mkF m 200 #[.val (.int p1), .val (.int p2), .val (.int p3), .val (.int p4), .val (.int p5), .val (.int (1 : Int32)), .val (.int v0), .val (.int v1), .val (.int v2), .val (.ref la), .val (.ref a), .val .null, .val (.int (1 : Int32)), .unset, .unset, .unset, .unset] [])) (fun t k => XS.icmpYes X20.here hx rfl (pc0 := 185) (pc' := 200) rfl (hb hby at_185) rfl (tlt hc185).1 (by decide) (by decide) k) ?_
      refine Goes.pre (U' := T20.setTop (mkF m 202 #[.val (.int p1), .val (.int p2), .val (.int p3), .val (.int p4), .val (.int p5), .val (.int (1 : Int32)), .val (.int v0), .val (.int v1), .val (.int v2), .val (.ref la), .val (.ref a), .val .null, .val (.int (1 : Int32)), .unset, .unset, .unset, .unset] [(.int (1 : Int32))])) (fun t k => XS.iload X20.here hx rfl (hb hby at_200) rfl k) ?_
      refine Goes.pre (U' := T20.setTop (mkF m 203 #[.val (.int p1), .val (.int p2), .val (.int p3), .val (.int p4), .val (.int p5), .val (.int (1 : Int32)), .val (.int v0), .val (.int v1), .val (.int v2), .val (.ref la), .val (.ref a), .val .null, .val (.int (1 : Int32)), .unset, .unset, .unset, .unset] [(.int (1 : Int32)), (.int (1 : Int32))])) (fun t k => XS.iconst X20.here hx rfl (hb hby at_202) k) ?_
      have hc203 : ¬ ((1 : Int32) < (1 : Int32)) := by decide
      refine Goes.pre (U' := T20.setTop (mkF m 206 #[.val (.int p1), .val (.int p2), .val (.int p3), .val (.int p4), .val (.int p5), .val (.int (1 : Int32)), .val (.int v0), .val (.int v1), .val (.int v2), .val (.ref la), .val (.ref a), .val .null, .val (.int (1 : Int32)), .unset, .unset, .unset, .unset] [])) (fun t k => XS.icmpNo X20.here hx rfl (hb hby at_203) rfl (flt hc203).1 k) ?_
      refine Goes.pre (U' := T20.setTop (mkF m 208 #[.val (.int p1), .val (.int p2), .val (.int p3), .val (.int p4), .val (.int p5), .val (.int (1 : Int32)), .val (.int v0), .val (.int v1), .val (.int v2), .val (.ref la), .val (.ref a), .val .null, .val (.int (1 : Int32)), .unset, .unset, .unset, .unset] [(.int v0)])) (fun t k => XS.iload X20.here hx rfl (hb hby at_206) rfl k) ?_
      refine Goes.pre (U' := T20.setTop (mkF m 209 #[.val (.int p1), .val (.int p2), .val (.int p3), .val (.int p4), .val (.int p5), .val (.int (1 : Int32)), .val (.int v0), .val (.int v1), .val (.int v2), .val (.ref la), .val (.ref a), .val .null, .val (.int (1 : Int32)), .unset, .unset, .unset, .unset] [(.int (-1 : Int32)), (.int v0)])) (fun t k => XS.iconst X20.here hx rfl (hb hby at_208) k) ?_
      have hc209 : v0 = (-1 : Int32) := hq0
      refine Goes.pre (U' := T20.setTop (mkF m 218 #[.val (.int p1), .val (.int p2), .val (.int p3), .val (.int p4), .val (.int p5), .val (.int (1 : Int32)), .val (.int v0), .val (.int v1), .val (.int v2), .val (.ref la), .val (.ref a), .val .null, .val (.int (1 : Int32)), .unset, .unset, .unset, .unset] [])) (fun t k => XS.icmpYes X20.here hx rfl (pc0 := 209) (pc' := 218) rfl (hb hby at_209) rfl (teq hc209).1 (by decide) (by decide) k) ?_
      refine Goes.pre (U' := T20.setTop (mkF m 219 #[.val (.int p1), .val (.int p2), .val (.int p3), .val (.int p4), .val (.int p5), .val (.int (1 : Int32)), .val (.int v0), .val (.int v1), .val (.int v2), .val (.ref la), .val (.ref a), .val .null, .val (.int (1 : Int32)), .unset, .unset, .unset, .unset] [(.int (0 : Int32))])) (fun t k => XS.iconst X20.here hx rfl (hb hby at_218) k) ?_
      refine Goes.pre (U' := T20.setTop (mkF m 221 #[.val (.int p1), .val (.int p2), .val (.int p3), .val (.int p4), .val (.int p5), .val (.int (1 : Int32)), .val (.int v0), .val (.int v1), .val (.int v2), .val (.ref la), .val (.ref a), .val .null, .val (.int (1 : Int32)), .val (.int (0 : Int32)), .unset, .unset, .unset] [])) (fun t k => XS.istore X20.here hx rfl (hb hby at_219) rfl (l' := #[.val (.int p1), .val (.int p2), .val (.int p3), .val (.int p4), .val (.int p5), .val (.int (1 : Int32)), .val (.int v0), .val (.int v1), .val (.int v2), .val (.ref la), .val (.ref a), .val .null, .val (.int (1 : Int32)), .val (.int (0 : Int32)), .unset, .unset, .unset]) rfl k) ?_
      refine Goes.pre (U' := T20.setTop (mkF m 223 #[.val (.int p1), .val (.int p2), .val (.int p3), .val (.int p4), .val (.int p5), .val (.int (1 : Int32)), .val (.int v0), .val (.int v1), .val (.int v2), .val (.ref la), .val (.ref a), .val .null, .val (.int (1 : Int32)), .val (.int (0 : Int32)), .unset, .unset, .unset] [(.int (0 : Int32))])) (fun t k => XS.iload X20.here hx rfl (hb hby at_221) rfl k) ?_
      have hc223 : (0 : Int32) = (0 : Int32) := rfl
      refine Goes.pre (U' := T20.setTop (mkF m 226 #[.val (.int p1), .val (.int p2), .val (.int p3), .val (.int p4), .val (.int p5), .val (.int (1 : Int32)), .val (.int v0), .val (.int v1), .val (.int v2), .val (.ref la), .val (.ref a), .val .null, .val (.int (1 : Int32)), .val (.int (0 : Int32)), .unset, .unset, .unset] [])) (fun t k => XS.ifNo X20.here hx rfl (hb hby at_223) rfl ((if0 _ _).trans (teq hc223).2) k) ?_
      refine Goes.pre (U' := T20.setTop (mkF m 228 #[.val (.int p1), .val (.int p2), .val (.int p3), .val (.int p4), .val (.int p5), .val (.int (1 : Int32)), .val (.int v0), .val (.int v1), .val (.int v2), .val (.ref la), .val (.ref a), .val .null, .val (.int (1 : Int32)), .val (.int (0 : Int32)), .unset, .unset, .unset] [(.int (1 : Int32))])) (fun t k => XS.iload X20.here hx rfl (hb hby at_226) rfl k) ?_
      have hc228 : ¬ ((1 : Int32) = (0 : Int32)) := by decide
      refine Goes.pre (U' := T20.setTop (mkF m 231 #[.val (.int p1), .val (.int p2), .val (.int p3), .val (.int p4), .val (.int p5), .val (.int (1 : Int32)), .val (.int v0), .val (.int v1), .val (.int v2), .val (.ref la), .val (.ref a), .val .null, .val (.int (1 : Int32)), .val (.int (0 : Int32)), .unset, .unset, .unset] [])) (fun t k => XS.ifNo X20.here hx rfl (hb hby at_228) rfl ((if0 _ _).trans (feq hc228).1) k) ?_
      refine Goes.pre (U' := T20.setTop (mkF m 233 #[.val (.int p1), .val (.int p2), .val (.int p3), .val (.int p4), .val (.int p5), .val (.int (1 : Int32)), .val (.int v0), .val (.int v1), .val (.int v2), .val (.ref la), .val (.ref a), .val .null, .val (.int (1 : Int32)), .val (.int (0 : Int32)), .unset, .unset, .unset] [.null])) (fun t k => XS.aload X20.here hx rfl (hb hby at_231) rfl rfl k) ?_
      refine Goes.pre (U' := T20.setTop (mkF m 236 #[.val (.int p1), .val (.int p2), .val (.int p3), .val (.int p4), .val (.int p5), .val (.int (1 : Int32)), .val (.int v0), .val (.int v1), .val (.int v2), .val (.ref la), .val (.ref a), .val .null, .val (.int (1 : Int32)), .val (.int (0 : Int32)), .unset, .unset, .unset] [])) (fun t k => XS.ifnonnullNo X20.here hx rfl (hb hby at_233) rfl k) ?_
      refine Goes.pre (U' := T20.setTop (mkF m 237 #[.val (.int p1), .val (.int p2), .val (.int p3), .val (.int p4), .val (.int p5), .val (.int (1 : Int32)), .val (.int v0), .val (.int v1), .val (.int v2), .val (.ref la), .val (.ref a), .val .null, .val (.int (1 : Int32)), .val (.int (0 : Int32)), .unset, .unset, .unset] [(.int (1 : Int32))])) (fun t k => XS.iconst X20.here hx rfl (hb hby at_236) k) ?_
      refine Goes.pre (U' := T20.setTop (mkF m 241 #[.val (.int p1), .val (.int p2), .val (.int p3), .val (.int p4), .val (.int p5), .val (.int (1 : Int32)), .val (.int v0), .val (.int v1), .val (.int v2), .val (.ref la), .val (.ref a), .val .null, .val (.int (1 : Int32)), .val (.int (0 : Int32)), .unset, .unset, .unset] [(.int (1 : Int32))])) (fun t k => XS.goto X20.here hx rfl (pc0 := 237) (pc' := 241) rfl (hb hby at_237) (by decide) (by decide) k) ?_
      refine Goes.ret X20 (v := (some (.int (1 : Int32)))) (fun h => by rw [Bd.returns] at h; cases h) Bd.notSynchronized (by decide) (by decide) rfl (fun fs hr => retN X20 hx (t := .boolean) Bd.returns (by simp) (hb hby at_241) hr) ?_
      exact ⟨rfl, N20⟩
    ·
      have hk := hq0
      refine Goes.pre (U' := T18.setTop (mkF m 107 #[.val (.int p1), .val (.int p2), .val (.int p3), .val (.int p4), .val (.int p5), .val (.int (1 : Int32)), .val (.int v0), .val (.int v1), .val (.int v2), .val (.ref la), .val (.ref a), .unset, .unset, .unset, .unset, .unset, .unset] [(.ref a)])) (fun t k => XS.aload X18.here hx rfl (hb hby at_105) rfl rfl k) ?_
      have lt_a := E_a.lt
      have lt_fa := E_fa.lt
      have lt_la := E_la.lt
      obtain ⟨cq23, kq23, q23a, q23b, q23c⟩ := isOf hZ rfl E_a
      obtain ⟨_, _, ⟨T23, L23, k23, n23⟩, -, X23, ⟨Lc23, hQ23, l23, y23, z23⟩, st23⟩ := X18.virtualBack hx (y := (⟨"com/example/known_paths/knownpaths/key/KeyRange", "end", "()[B"⟩ : MethodName)) (z := (⟨"com/example/known_paths/knownpaths/key/KeyRange", "end", "()[B"⟩ : MethodName)) hown (mvT hZ (hw _ (List.mem_of_getElem? (i := 19) rfl))) (mvT hZ (hw _ (List.mem_of_getElem? (i := 20) rfl))) (notFace_of_selects (args := #[]) (mvT hZ (hw _ (List.mem_of_getElem? (i := 22) rfl)))) (mvT hZ (hw _ (List.mem_of_getElem? (i := 22) rfl))) (mvT hZ (hw _ (List.mem_of_getElem? (i := 21) rfl))) (by decide) (backOf (W := 0) (rm_end11 l Z a0 hw [] a la k14 v0 T18.heap n0 Z19 F_last_a E_la V_la hk) hZ (hw _ (List.mem_of_getElem? (i := 23) rfl)) (hw _ (List.mem_of_getElem? (i := 3) rfl)) (by decide) (by decide)) q23a q23c (g := (mkF m 107 #[.val (.int p1), .val (.int p2), .val (.int p3), .val (.int p4), .val (.int p5), .val (.int (1 : Int32)), .val (.int v0), .val (.int v1), .val (.int v2), .val (.ref la), .val (.ref a), .unset, .unset, .unset, .unset, .unset, .unset] [(.ref a)])) rfl (by rw [hml]; rfl) (Steps.refl _) (argsL := []) (rest := []) (lenOf pd__28_29_5bB rfl) rfl (by show 2 * 0 + _ ≤ _; exact Nat.le_of_eq rfl) (hb hby at_107) (fun _ _ => ⟨rfl, rfl, (by decide : 3 + 1 ≤ _), (by decide : 3 + 1 ≤ _)⟩)
      dsimp only [Pt.U, Pt.locs, Pt.cells, Pt.slots] at X23 l23 y23 z23 st23 hQ23
      subst l23 y23 z23
      obtain ⟨r, kr, rfl, N23q, KQ23, V_r, g_r, sz_r0⟩ := hQ23
      have N23 := Fr.app N18 N23q
      have E_la := E_la.keep KQ23
      have V_la := V_la.keep KQ23 nin0
      have E_a := E_a.keep KQ23
      have E_fa := E_fa.keep KQ23
      have V_fa := V_fa.keep KQ23 nin0
      have F_last_a := F_last_a.keep KQ23 nin0
      have Z24 : n0 ≤ T23.heap.size := Nat.le_trans Z19 KQ23.1
      have ne_a_r : a ≠ r := Nat.ne_of_lt (Nat.lt_of_lt_of_le lt_a sz_r0)
      have ne_r_a := ne_a_r.symm
      have ne_fa_r : fa ≠ r := Nat.ne_of_lt (Nat.lt_of_lt_of_le lt_fa sz_r0)
      have ne_r_fa := ne_fa_r.symm
      have ne_la_r : la ≠ r := Nat.ne_of_lt (Nat.lt_of_lt_of_le lt_la sz_r0)
      have ne_r_la := ne_la_r.symm
      refine Goes.pre (U' := T23.setTop (mkF m 110 #[.val (.int p1), .val (.int p2), .val (.int p3), .val (.int p4), .val (.int p5), .val (.int (1 : Int32)), .val (.int v0), .val (.int v1), .val (.int v2), .val (.ref la), .val (.ref a), .unset, .unset, .unset, .unset, .unset, .unset] [(.ref r)])) (fun t k => st23.trans k) ?_
      refine Goes.pre (U' := T23.setTop (mkF m 112 #[.val (.int p1), .val (.int p2), .val (.int p3), .val (.int p4), .val (.int p5), .val (.int (1 : Int32)), .val (.int v0), .val (.int v1), .val (.int v2), .val (.ref la), .val (.ref a), .val (.ref r), .unset, .unset, .unset, .unset, .unset] [])) (fun t k => XS.astore X23.here hx rfl (hb hby at_110) rfl rfl (l' := #[.val (.int p1), .val (.int p2), .val (.int p3), .val (.int p4), .val (.int p5), .val (.int (1 : Int32)), .val (.int v0), .val (.int v1), .val (.int v2), .val (.ref la), .val (.ref a), .val (.ref r), .unset, .unset, .unset, .unset, .unset]) rfl k) ?_
      refine Goes.pre (U' := T23.setTop (mkF m 114 #[.val (.int p1), .val (.int p2), .val (.int p3), .val (.int p4), .val (.int p5), .val (.int (1 : Int32)), .val (.int v0), .val (.int v1), .val (.int v2), .val (.ref la), .val (.ref a), .val (.ref r), .unset, .unset, .unset, .unset, .unset] [(.int (1 : Int32))])) (fun t k => XS.iload X23.here hx rfl (hb hby at_112) rfl k) ?_
      refine Goes.pre (U' := T23.setTop (mkF m 115 #[.val (.int p1), .val (.int p2), .val (.int p3), .val (.int p4), .val (.int p5), .val (.int (1 : Int32)), .val (.int v0), .val (.int v1), .val (.int v2), .val (.ref la), .val (.ref a), .val (.ref r), .unset, .unset, .unset, .unset, .unset] [(.int (1 : Int32)), (.int (1 : Int32))])) (fun t k => XS.iconst X23.here hx rfl (hb hby at_114) k) ?_
      have hc115 : ¬ ((1 : Int32) < (1 : Int32)) := by decide
      refine Goes.pre (U' := T23.setTop (mkF m 118 #[.val (.int p1), .val (.int p2), .val (.int p3), .val (.int p4), .val (.int p5), .val (.int (1 : Int32)), .val (.int v0), .val (.int v1), .val (.int v2), .val (.ref la), .val (.ref a), .val (.ref r), .unset, .unset, .unset, .unset, .unset] [])) (fun t k => XS.icmpNo X23.here hx rfl (hb hby at_115) rfl (flt hc115).1 k) ?_
      refine Goes.pre (U' := T23.setTop (mkF m 120 #[.val (.int p1), .val (.int p2), .val (.int p3), .val (.int p4), .val (.int p5), .val (.int (1 : Int32)), .val (.int v0), .val (.int v1), .val (.int v2), .val (.ref la), .val (.ref a), .val (.ref r), .unset, .unset, .unset, .unset, .unset] [(.ref la)])) (fun t k => XS.aload X23.here hx rfl (hb hby at_118) rfl rfl k) ?_
      refine Goes.pre (U' := T23.setTop (mkF m 121 #[.val (.int p1), .val (.int p2), .val (.int p3), .val (.int p4), .val (.int p5), .val (.int (1 : Int32)), .val (.int v0), .val (.int v1), .val (.int v2), .val (.ref la), .val (.ref a), .val (.ref r), .unset, .unset, .unset, .unset, .unset] [(.int (0 : Int32)), (.ref la)])) (fun t k => XS.iconst X23.here hx rfl (hb hby at_120) k) ?_
      obtain ⟨cl25, Ar25, q25, Sz25, Ng25, Hs25, Ft25⟩ := id V_la
      have hin25 := inb_of (j := (0 : Int32)) Sz25 ⟨by decide, by decide⟩
      refine Goes.pre (U' := T23.setTop (mkF m 122 #[.val (.int p1), .val (.int p2), .val (.int p3), .val (.int p4), .val (.int p5), .val (.int (1 : Int32)), .val (.int v0), .val (.int v1), .val (.int v2), .val (.ref la), .val (.ref a), .val (.ref r), .unset, .unset, .unset, .unset, .unset] [(.int v0)])) (fun t k => X23.baloadBytes hx (j := (0 : Int32)) (v := (.int v0)) Ar25.1 (State.isArrayOf_alike hZ.alike Ar25.2.1) Ar25.2.2 hin25 (Has.at Hs25 hin25 rfl) (g := (mkF m 121 #[.val (.int p1), .val (.int p2), .val (.int p3), .val (.int p4), .val (.int p5), .val (.int (1 : Int32)), .val (.int v0), .val (.int v1), .val (.int v2), .val (.ref la), .val (.ref a), .val (.ref r), .unset, .unset, .unset, .unset, .unset] [(.int (0 : Int32)), (.ref la)])) rfl rfl (hb hby at_121) _ k) ?_
      refine Goes.pre (U' := T23.setTop (mkF m 124 #[.val (.int p1), .val (.int p2), .val (.int p3), .val (.int p4), .val (.int p5), .val (.int (1 : Int32)), .val (.int v0), .val (.int v1), .val (.int v2), .val (.ref la), .val (.ref a), .val (.ref r), .unset, .unset, .unset, .unset, .unset] [(.int v0), (.int v0)])) (fun t k => XS.iload X23.here hx rfl (hb hby at_122) rfl k) ?_
      have hc124 : v0 = v0 := rfl
      refine Goes.pre (U' := T23.setTop (mkF m 127 #[.val (.int p1), .val (.int p2), .val (.int p3), .val (.int p4), .val (.int p5), .val (.int (1 : Int32)), .val (.int v0), .val (.int v1), .val (.int v2), .val (.ref la), .val (.ref a), .val (.ref r), .unset, .unset, .unset, .unset, .unset] [])) (fun t k => XS.icmpNo X23.here hx rfl (hb hby at_124) rfl (teq hc124).2 k) ?_
      refine Goes.pre (U' := T23.setTop (mkF m 129 #[.val (.int p1), .val (.int p2), .val (.int p3), .val (.int p4), .val (.int p5), .val (.int (1 : Int32)), .val (.int v0), .val (.int v1), .val (.int v2), .val (.ref la), .val (.ref a), .val (.ref r), .unset, .unset, .unset, .unset, .unset] [(.int (1 : Int32))])) (fun t k => XS.iload X23.here hx rfl (hb hby at_127) rfl k) ?_
      refine Goes.pre (U' := T23.setTop (mkF m 130 #[.val (.int p1), .val (.int p2), .val (.int p3), .val (.int p4), .val (.int p5), .val (.int (1 : Int32)), .val (.int v0), .val (.int v1), .val (.int v2), .val (.ref la), .val (.ref a), .val (.ref r), .unset, .unset, .unset, .unset, .unset] [(.int (2 : Int32)), (.int (1 : Int32))])) (fun t k => XS.iconst X23.here hx rfl (hb hby at_129) k) ?_
      have hc130 : (1 : Int32) < (2 : Int32) := by decide
      refine Goes.pre (U' := T23.setTop (mkF m 142 #[.val (.int p1), .val (.int p2), .val (.int p3), .val (.int p4), .val (.int p5), .val (.int (1 : Int32)), .val (.int v0), .val (.int v1), .val (.int v2), .val (.ref la), .val (.ref a), .val (.ref r), .unset, .unset, .unset, .unset, .unset] [])) (fun t k => XS.icmpYes X23.here hx rfl (pc0 := 130) (pc' := 142) rfl (hb hby at_130) rfl (tlt hc130).1 (by decide) (by decide) k) ?_
      refine Goes.pre (U' := T23.setTop (mkF m 144 #[.val (.int p1), .val (.int p2), .val (.int p3), .val (.int p4), .val (.int p5), .val (.int (1 : Int32)), .val (.int v0), .val (.int v1), .val (.int v2), .val (.ref la), .val (.ref a), .val (.ref r), .unset, .unset, .unset, .unset, .unset] [(.int (1 : Int32))])) (fun t k => XS.iload X23.here hx rfl (hb hby at_142) rfl k) ?_
      refine Goes.pre (U' := T23.setTop (mkF m 145 #[.val (.int p1), .val (.int p2), .val (.int p3), .val (.int p4), .val (.int p5), .val (.int (1 : Int32)), .val (.int v0), .val (.int v1), .val (.int v2), .val (.ref la), .val (.ref a), .val (.ref r), .unset, .unset, .unset, .unset, .unset] [(.int (3 : Int32)), (.int (1 : Int32))])) (fun t k => XS.iconst X23.here hx rfl (hb hby at_144) k) ?_
      have hc145 : (1 : Int32) < (3 : Int32) := by decide
      refine Goes.pre (U' := T23.setTop (mkF m 157 #[.val (.int p1), .val (.int p2), .val (.int p3), .val (.int p4), .val (.int p5), .val (.int (1 : Int32)), .val (.int v0), .val (.int v1), .val (.int v2), .val (.ref la), .val (.ref a), .val (.ref r), .unset, .unset, .unset, .unset, .unset] [])) (fun t k => XS.icmpYes X23.here hx rfl (pc0 := 145) (pc' := 157) rfl (hb hby at_145) rfl (tlt hc145).1 (by decide) (by decide) k) ?_
      refine Goes.pre (U' := T23.setTop (mkF m 158 #[.val (.int p1), .val (.int p2), .val (.int p3), .val (.int p4), .val (.int p5), .val (.int (1 : Int32)), .val (.int v0), .val (.int v1), .val (.int v2), .val (.ref la), .val (.ref a), .val (.ref r), .unset, .unset, .unset, .unset, .unset] [(.int (1 : Int32))])) (fun t k => XS.iconst X23.here hx rfl (hb hby at_157) k) ?_
      refine Goes.pre (U' := T23.setTop (mkF m 162 #[.val (.int p1), .val (.int p2), .val (.int p3), .val (.int p4), .val (.int p5), .val (.int (1 : Int32)), .val (.int v0), .val (.int v1), .val (.int v2), .val (.ref la), .val (.ref a), .val (.ref r), .unset, .unset, .unset, .unset, .unset] [(.int (1 : Int32))])) (fun t k => XS.goto X23.here hx rfl (pc0 := 158) (pc' := 162) rfl (hb hby at_158) (by decide) (by decide) k) ?_
      refine Goes.pre (U' := T23.setTop (mkF m 164 #[.val (.int p1), .val (.int p2), .val (.int p3), .val (.int p4), .val (.int p5), .val (.int (1 : Int32)), .val (.int v0), .val (.int v1), .val (.int v2), .val (.ref la), .val (.ref a), .val (.ref r), .val (.int (1 : Int32)), .unset, .unset, .unset, .unset] [])) (fun t k => XS.istore X23.here hx rfl (hb hby at_162) rfl (l' := #[.val (.int p1), .val (.int p2), .val (.int p3), .val (.int p4), .val (.int p5), .val (.int (1 : Int32)), .val (.int v0), .val (.int v1), .val (.int v2), .val (.ref la), .val (.ref a), .val (.ref r), .val (.int (1 : Int32)), .unset, .unset, .unset, .unset]) rfl k) ?_
      refine Goes.pre (U' := T23.setTop (mkF m 166 #[.val (.int p1), .val (.int p2), .val (.int p3), .val (.int p4), .val (.int p5), .val (.int (1 : Int32)), .val (.int v0), .val (.int v1), .val (.int v2), .val (.ref la), .val (.ref a), .val (.ref r), .val (.int (1 : Int32)), .unset, .unset, .unset, .unset] [(.int (1 : Int32))])) (fun t k => XS.iload X23.here hx rfl (hb hby at_164) rfl k) ?_
      refine Goes.pre (U' := T23.setTop (mkF m 167 #[.val (.int p1), .val (.int p2), .val (.int p3), .val (.int p4), .val (.int p5), .val (.int (1 : Int32)), .val (.int v0), .val (.int v1), .val (.int v2), .val (.ref la), .val (.ref a), .val (.ref r), .val (.int (1 : Int32)), .unset, .unset, .unset, .unset] [(.int (3 : Int32)), (.int (1 : Int32))])) (fun t k => XS.iconst X23.here hx rfl (hb hby at_166) k) ?_
      have hc167 : (1 : Int32) < (3 : Int32) := by decide
      refine Goes.pre (U' := T23.setTop (mkF m 182 #[.val (.int p1), .val (.int p2), .val (.int p3), .val (.int p4), .val (.int p5), .val (.int (1 : Int32)), .val (.int v0), .val (.int v1), .val (.int v2), .val (.ref la), .val (.ref a), .val (.ref r), .val (.int (1 : Int32)), .unset, .unset, .unset, .unset] [])) (fun t k => XS.icmpYes X23.here hx rfl (pc0 := 167) (pc' := 182) rfl (hb hby at_167) rfl (tlt hc167).1 (by decide) (by decide) k) ?_
      refine Goes.pre (U' := T23.setTop (mkF m 184 #[.val (.int p1), .val (.int p2), .val (.int p3), .val (.int p4), .val (.int p5), .val (.int (1 : Int32)), .val (.int v0), .val (.int v1), .val (.int v2), .val (.ref la), .val (.ref a), .val (.ref r), .val (.int (1 : Int32)), .unset, .unset, .unset, .unset] [(.int (1 : Int32))])) (fun t k => XS.iload X23.here hx rfl (hb hby at_182) rfl k) ?_
      refine Goes.pre (U' := T23.setTop (mkF m 185 #[.val (.int p1), .val (.int p2), .val (.int p3), .val (.int p4), .val (.int p5), .val (.int (1 : Int32)), .val (.int v0), .val (.int v1), .val (.int v2), .val (.ref la), .val (.ref a), .val (.ref r), .val (.int (1 : Int32)), .unset, .unset, .unset, .unset] [(.int (2 : Int32)), (.int (1 : Int32))])) (fun t k => XS.iconst X23.here hx rfl (hb hby at_184) k) ?_
      have hc185 : (1 : Int32) < (2 : Int32) := by decide
      refine Goes.pre (U' := T23.setTop (mkF m 200 #[.val (.int p1), .val (.int p2), .val (.int p3), .val (.int p4), .val (.int p5), .val (.int (1 : Int32)), .val (.int v0), .val (.int v1), .val (.int v2), .val (.ref la), .val (.ref a), .val (.ref r), .val (.int (1 : Int32)), .unset, .unset, .unset, .unset] [])) (fun t k => XS.icmpYes X23.here hx rfl (pc0 := 185) (pc' := 200) rfl (hb hby at_185) rfl (tlt hc185).1 (by decide) (by decide) k) ?_
      refine Goes.pre (U' := T23.setTop (mkF m 202 #[.val (.int p1), .val (.int p2), .val (.int p3), .val (.int p4), .val (.int p5), .val (.int (1 : Int32)), .val (.int v0), .val (.int v1), .val (.int v2), .val (.ref la), .val (.ref a), .val (.ref r), .val (.int (1 : Int32)), .unset, .unset, .unset, .unset] [(.int (1 : Int32))])) (fun t k => XS.iload X23.here hx rfl (hb hby at_200) rfl k) ?_
      refine Goes.pre (U' := T23.setTop (mkF m 203 #[.val (.int p1), .val (.int p2), .val (.int p3), .val (.int p4), .val (.int p5), .val (.int (1 : Int32)), .val (.int v0), .val (.int v1), .val (.int v2), .val (.ref la), .val (.ref a), .val (.ref r), .val (.int (1 : Int32)), .unset, .unset, .unset, .unset] [(.int (1 : Int32)), (.int (1 : Int32))])) (fun t k => XS.iconst X23.here hx rfl (hb hby at_202) k) ?_
      have hc203 : ¬ ((1 : Int32) < (1 : Int32)) := by decide
      refine Goes.pre (U' := T23.setTop (mkF m 206 #[.val (.int p1), .val (.int p2), .val (.int p3), .val (.int p4), .val (.int p5), .val (.int (1 : Int32)), .val (.int v0), .val (.int v1), .val (.int v2), .val (.ref la), .val (.ref a), .val (.ref r), .val (.int (1 : Int32)), .unset, .unset, .unset, .unset] [])) (fun t k => XS.icmpNo X23.here hx rfl (hb hby at_203) rfl (flt hc203).1 k) ?_
      refine Goes.pre (U' := T23.setTop (mkF m 208 #[.val (.int p1), .val (.int p2), .val (.int p3), .val (.int p4), .val (.int p5), .val (.int (1 : Int32)), .val (.int v0), .val (.int v1), .val (.int v2), .val (.ref la), .val (.ref a), .val (.ref r), .val (.int (1 : Int32)), .unset, .unset, .unset, .unset] [(.int v0)])) (fun t k => XS.iload X23.here hx rfl (hb hby at_206) rfl k) ?_
      refine Goes.pre (U' := T23.setTop (mkF m 209 #[.val (.int p1), .val (.int p2), .val (.int p3), .val (.int p4), .val (.int p5), .val (.int (1 : Int32)), .val (.int v0), .val (.int v1), .val (.int v2), .val (.ref la), .val (.ref a), .val (.ref r), .val (.int (1 : Int32)), .unset, .unset, .unset, .unset] [(.int (-1 : Int32)), (.int v0)])) (fun t k => XS.iconst X23.here hx rfl (hb hby at_208) k) ?_
      have hc209 : ¬ (v0 = (-1 : Int32)) := hq0
      refine Goes.pre (U' := T23.setTop (mkF m 212 #[.val (.int p1), .val (.int p2), .val (.int p3), .val (.int p4), .val (.int p5), .val (.int (1 : Int32)), .val (.int v0), .val (.int v1), .val (.int v2), .val (.ref la), .val (.ref a), .val (.ref r), .val (.int (1 : Int32)), .unset, .unset, .unset, .unset] [])) (fun t k => XS.icmpNo X23.here hx rfl (hb hby at_209) rfl (feq hc209).1 k) ?_
      refine Goes.pre (U' := T23.setTop (mkF m 213 #[.val (.int p1), .val (.int p2), .val (.int p3), .val (.int p4), .val (.int p5), .val (.int (1 : Int32)), .val (.int v0), .val (.int v1), .val (.int v2), .val (.ref la), .val (.ref a), .val (.ref r), .val (.int (1 : Int32)), .unset, .unset, .unset, .unset] [(.int (1 : Int32))])) (fun t k => XS.iconst X23.here hx rfl (hb hby at_212) k) ?_
      refine Goes.pre (U' := T23.setTop (mkF m 215 #[.val (.int p1), .val (.int p2), .val (.int p3), .val (.int p4), .val (.int p5), .val (.int (1 : Int32)), .val (.int v0), .val (.int v1), .val (.int v2), .val (.ref la), .val (.ref a), .val (.ref r), .val (.int (1 : Int32)), .val (.int (1 : Int32)), .unset, .unset, .unset] [])) (fun t k => XS.istore X23.here hx rfl (hb hby at_213) rfl (l' := #[.val (.int p1), .val (.int p2), .val (.int p3), .val (.int p4), .val (.int p5), .val (.int (1 : Int32)), .val (.int v0), .val (.int v1), .val (.int v2), .val (.ref la), .val (.ref a), .val (.ref r), .val (.int (1 : Int32)), .val (.int (1 : Int32)), .unset, .unset, .unset]) rfl k) ?_
      refine Goes.pre (U' := T23.setTop (mkF m 221 #[.val (.int p1), .val (.int p2), .val (.int p3), .val (.int p4), .val (.int p5), .val (.int (1 : Int32)), .val (.int v0), .val (.int v1), .val (.int v2), .val (.ref la), .val (.ref a), .val (.ref r), .val (.int (1 : Int32)), .val (.int (1 : Int32)), .unset, .unset, .unset] [])) (fun t k => XS.goto X23.here hx rfl (pc0 := 215) (pc' := 221) rfl (hb hby at_215) (by decide) (by decide) k) ?_
      refine Goes.pre (U' := T23.setTop (mkF m 223 #[.val (.int p1), .val (.int p2), .val (.int p3), .val (.int p4), .val (.int p5), .val (.int (1 : Int32)), .val (.int v0), .val (.int v1), .val (.int v2), .val (.ref la), .val (.ref a), .val (.ref r), .val (.int (1 : Int32)), .val (.int (1 : Int32)), .unset, .unset, .unset] [(.int (1 : Int32))])) (fun t k => XS.iload X23.here hx rfl (hb hby at_221) rfl k) ?_
      have hc223 : ¬ ((1 : Int32) = (0 : Int32)) := by decide
      refine Goes.pre (U' := T23.setTop (mkF m 242 #[.val (.int p1), .val (.int p2), .val (.int p3), .val (.int p4), .val (.int p5), .val (.int (1 : Int32)), .val (.int v0), .val (.int v1), .val (.int v2), .val (.ref la), .val (.ref a), .val (.ref r), .val (.int (1 : Int32)), .val (.int (1 : Int32)), .unset, .unset, .unset] [])) (fun t k => XS.ifYes X23.here hx rfl (pc0 := 223) (pc' := 242) rfl (hb hby at_223) rfl ((if0 _ _).trans (feq hc223).2) (by decide) (by decide) k) ?_
      refine Goes.pre (U' := T23.setTop (mkF m 244 #[.val (.int p1), .val (.int p2), .val (.int p3), .val (.int p4), .val (.int p5), .val (.int (1 : Int32)), .val (.int v0), .val (.int v1), .val (.int v2), .val (.ref la), .val (.ref a), .val (.ref r), .val (.int (1 : Int32)), .val (.int (1 : Int32)), .unset, .unset, .unset] [(.ref r)])) (fun t k => XS.aload X23.here hx rfl (hb hby at_242) rfl rfl k) ?_
      refine Goes.pre (U' := T23.setTop (mkF m 247 #[.val (.int p1), .val (.int p2), .val (.int p3), .val (.int p4), .val (.int p5), .val (.int (1 : Int32)), .val (.int v0), .val (.int v1), .val (.int v2), .val (.ref la), .val (.ref a), .val (.ref r), .val (.int (1 : Int32)), .val (.int (1 : Int32)), .unset, .unset, .unset] [])) (fun t k => XS.ifnullNo X23.here hx rfl (hb hby at_244) rfl k) ?_
      refine Goes.pre (U' := T23.setTop (mkF m 249 #[.val (.int p1), .val (.int p2), .val (.int p3), .val (.int p4), .val (.int p5), .val (.int (1 : Int32)), .val (.int v0), .val (.int v1), .val (.int v2), .val (.ref la), .val (.ref a), .val (.ref r), .val (.int (1 : Int32)), .val (.int (1 : Int32)), .unset, .unset, .unset] [(.ref r)])) (fun t k => XS.aload X23.here hx rfl (hb hby at_247) rfl rfl k) ?_
      obtain ⟨cl26, Ar26, q26, Sz26, Ng26, -, -⟩ := id V_r
      have ln26 := len_of Sz26 Ng26
      refine Goes.pre (U' := T23.setTop (mkF m 250 #[.val (.int p1), .val (.int p2), .val (.int p3), .val (.int p4), .val (.int p5), .val (.int (1 : Int32)), .val (.int v0), .val (.int v1), .val (.int v2), .val (.ref la), .val (.ref a), .val (.ref r), .val (.int (1 : Int32)), .val (.int (1 : Int32)), .unset, .unset, .unset] [(.int (1 : Int32))])) (fun t k => X23.arraylength hx Ar26.1 (State.isArrayOf_alike hZ.alike Ar26.2.1) (g := (mkF m 249 #[.val (.int p1), .val (.int p2), .val (.int p3), .val (.int p4), .val (.int p5), .val (.int (1 : Int32)), .val (.int v0), .val (.int v1), .val (.int v2), .val (.ref la), .val (.ref a), .val (.ref r), .val (.int (1 : Int32)), .val (.int (1 : Int32)), .unset, .unset, .unset] [(.ref r)])) rfl rfl (hb hby at_249) _ (by rw [ln26]; exact k)) ?_
      refine Goes.pre (U' := T23.setTop (mkF m 252 #[.val (.int p1), .val (.int p2), .val (.int p3), .val (.int p4), .val (.int p5), .val (.int (1 : Int32)), .val (.int v0), .val (.int v1), .val (.int v2), .val (.ref la), .val (.ref a), .val (.ref r), .val (.int (1 : Int32)), .val (.int (1 : Int32)), .unset, .unset, .unset] [(.int (1 : Int32)), (.int (1 : Int32))])) (fun t k => XS.iload X23.here hx rfl (hb hby at_250) rfl k) ?_
      have hc252 : (1 : Int32) = (1 : Int32) := rfl
      refine Goes.pre (U' := T23.setTop (mkF m 257 #[.val (.int p1), .val (.int p2), .val (.int p3), .val (.int p4), .val (.int p5), .val (.int (1 : Int32)), .val (.int v0), .val (.int v1), .val (.int v2), .val (.ref la), .val (.ref a), .val (.ref r), .val (.int (1 : Int32)), .val (.int (1 : Int32)), .unset, .unset, .unset] [])) (fun t k => XS.icmpYes X23.here hx rfl (pc0 := 252) (pc' := 257) rfl (hb hby at_252) rfl (teq hc252).1 (by decide) (by decide) k) ?_
      refine Goes.pre (U' := T23.setTop (mkF m 259 #[.val (.int p1), .val (.int p2), .val (.int p3), .val (.int p4), .val (.int p5), .val (.int (1 : Int32)), .val (.int v0), .val (.int v1), .val (.int v2), .val (.ref la), .val (.ref a), .val (.ref r), .val (.int (1 : Int32)), .val (.int (1 : Int32)), .unset, .unset, .unset] [(.int (1 : Int32))])) (fun t k => XS.iload X23.here hx rfl (hb hby at_257) rfl k) ?_
      refine Goes.pre (U' := T23.setTop (mkF m 260 #[.val (.int p1), .val (.int p2), .val (.int p3), .val (.int p4), .val (.int p5), .val (.int (1 : Int32)), .val (.int v0), .val (.int v1), .val (.int v2), .val (.ref la), .val (.ref a), .val (.ref r), .val (.int (1 : Int32)), .val (.int (1 : Int32)), .unset, .unset, .unset] [(.int (1 : Int32)), (.int (1 : Int32))])) (fun t k => XS.iconst X23.here hx rfl (hb hby at_259) k) ?_
      have hc260 : (1 : Int32) = (1 : Int32) := rfl
      refine Goes.pre (U' := T23.setTop (mkF m 263 #[.val (.int p1), .val (.int p2), .val (.int p3), .val (.int p4), .val (.int p5), .val (.int (1 : Int32)), .val (.int v0), .val (.int v1), .val (.int v2), .val (.ref la), .val (.ref a), .val (.ref r), .val (.int (1 : Int32)), .val (.int (1 : Int32)), .unset, .unset, .unset] [])) (fun t k => XS.icmpNo X23.here hx rfl (hb hby at_260) rfl (teq hc260).2 k) ?_
      refine Goes.pre (U' := T23.setTop (mkF m 265 #[.val (.int p1), .val (.int p2), .val (.int p3), .val (.int p4), .val (.int p5), .val (.int (1 : Int32)), .val (.int v0), .val (.int v1), .val (.int v2), .val (.ref la), .val (.ref a), .val (.ref r), .val (.int (1 : Int32)), .val (.int (1 : Int32)), .unset, .unset, .unset] [(.int v0)])) (fun t k => XS.iload X23.here hx rfl (hb hby at_263) rfl k) ?_
      refine Goes.pre (U' := T23.setTop (mkF m 266 #[.val (.int p1), .val (.int p2), .val (.int p3), .val (.int p4), .val (.int p5), .val (.int (1 : Int32)), .val (.int v0), .val (.int v1), .val (.int v2), .val (.ref la), .val (.ref a), .val (.ref r), .val (.int (1 : Int32)), .val (.int (1 : Int32)), .unset, .unset, .unset] [(.int (1 : Int32)), (.int v0)])) (fun t k => XS.iconst X23.here hx rfl (hb hby at_265) k) ?_
      refine Goes.pre (U' := T23.setTop (mkF m 267 #[.val (.int p1), .val (.int p2), .val (.int p3), .val (.int p4), .val (.int p5), .val (.int (1 : Int32)), .val (.int v0), .val (.int v1), .val (.int v2), .val (.ref la), .val (.ref a), .val (.ref r), .val (.int (1 : Int32)), .val (.int (1 : Int32)), .unset, .unset, .unset] [(.int (v0 + (1 : Int32)))])) (fun t k => XS.iadd X23.here hx rfl (hb hby at_266) rfl k) ?_
      refine Goes.pre (U' := T23.setTop (mkF m 268 #[.val (.int p1), .val (.int p2), .val (.int p3), .val (.int p4), .val (.int p5), .val (.int (1 : Int32)), .val (.int v0), .val (.int v1), .val (.int v2), .val (.ref la), .val (.ref a), .val (.ref r), .val (.int (1 : Int32)), .val (.int (1 : Int32)), .unset, .unset, .unset] [(.int ((v0 + (1 : Int32)).toInt8.toInt32))])) (fun t k => XS.i2b X23.here hx rfl (hb hby at_267) rfl k) ?_
      refine Goes.pre (U' := T23.setTop (mkF m 273 #[.val (.int p1), .val (.int p2), .val (.int p3), .val (.int p4), .val (.int p5), .val (.int (1 : Int32)), .val (.int v0), .val (.int v1), .val (.int v2), .val (.ref la), .val (.ref a), .val (.ref r), .val (.int (1 : Int32)), .val (.int (1 : Int32)), .unset, .unset, .unset] [(.int ((v0 + (1 : Int32)).toInt8.toInt32))])) (fun t k => XS.goto X23.here hx rfl (pc0 := 268) (pc' := 273) rfl (hb hby at_268) (by decide) (by decide) k) ?_
      refine Goes.pre (U' := T23.setTop (mkF m 275 #[.val (.int p1), .val (.int p2), .val (.int p3), .val (.int p4), .val (.int p5), .val (.int (1 : Int32)), .val (.int v0), .val (.int v1), .val (.int v2), .val (.ref la), .val (.ref a), .val (.ref r), .val (.int (1 : Int32)), .val (.int (1 : Int32)), .val (.int ((v0 + (1 : Int32)).toInt8.toInt32)), .unset, .unset] [])) (fun t k => XS.istore X23.here hx rfl (hb hby at_273) rfl (l' := #[.val (.int p1), .val (.int p2), .val (.int p3), .val (.int p4), .val (.int p5), .val (.int (1 : Int32)), .val (.int v0), .val (.int v1), .val (.int v2), .val (.ref la), .val (.ref a), .val (.ref r), .val (.int (1 : Int32)), .val (.int (1 : Int32)), .val (.int ((v0 + (1 : Int32)).toInt8.toInt32)), .unset, .unset]) rfl k) ?_
      refine Goes.pre (U' := T23.setTop (mkF m 277 #[.val (.int p1), .val (.int p2), .val (.int p3), .val (.int p4), .val (.int p5), .val (.int (1 : Int32)), .val (.int v0), .val (.int v1), .val (.int v2), .val (.ref la), .val (.ref a), .val (.ref r), .val (.int (1 : Int32)), .val (.int (1 : Int32)), .val (.int ((v0 + (1 : Int32)).toInt8.toInt32)), .unset, .unset] [(.int (1 : Int32))])) (fun t k => XS.iload X23.here hx rfl (hb hby at_275) rfl k) ?_
      refine Goes.pre (U' := T23.setTop (mkF m 278 #[.val (.int p1), .val (.int p2), .val (.int p3), .val (.int p4), .val (.int p5), .val (.int (1 : Int32)), .val (.int v0), .val (.int v1), .val (.int v2), .val (.ref la), .val (.ref a), .val (.ref r), .val (.int (1 : Int32)), .val (.int (1 : Int32)), .val (.int ((v0 + (1 : Int32)).toInt8.toInt32)), .unset, .unset] [(.int (2 : Int32)), (.int (1 : Int32))])) (fun t k => XS.iconst X23.here hx rfl (hb hby at_277) k) ?_
      have hc278 : ¬ ((1 : Int32) = (2 : Int32)) := by decide
      refine Goes.pre (U' := T23.setTop (mkF m 289 #[.val (.int p1), .val (.int p2), .val (.int p3), .val (.int p4), .val (.int p5), .val (.int (1 : Int32)), .val (.int v0), .val (.int v1), .val (.int v2), .val (.ref la), .val (.ref a), .val (.ref r), .val (.int (1 : Int32)), .val (.int (1 : Int32)), .val (.int ((v0 + (1 : Int32)).toInt8.toInt32)), .unset, .unset] [])) (fun t k => XS.icmpYes X23.here hx rfl (pc0 := 278) (pc' := 289) rfl (hb hby at_278) rfl (feq hc278).2 (by decide) (by decide) k) ?_
      refine Goes.pre (U' := T23.setTop (mkF m 291 #[.val (.int p1), .val (.int p2), .val (.int p3), .val (.int p4), .val (.int p5), .val (.int (1 : Int32)), .val (.int v0), .val (.int v1), .val (.int v2), .val (.ref la), .val (.ref a), .val (.ref r), .val (.int (1 : Int32)), .val (.int (1 : Int32)), .val (.int ((v0 + (1 : Int32)).toInt8.toInt32)), .unset, .unset] [(.int v1)])) (fun t k => XS.iload X23.here hx rfl (hb hby at_289) rfl k) ?_
      refine Goes.pre (U' := T23.setTop (mkF m 293 #[.val (.int p1), .val (.int p2), .val (.int p3), .val (.int p4), .val (.int p5), .val (.int (1 : Int32)), .val (.int v0), .val (.int v1), .val (.int v2), .val (.ref la), .val (.ref a), .val (.ref r), .val (.int (1 : Int32)), .val (.int (1 : Int32)), .val (.int ((v0 + (1 : Int32)).toInt8.toInt32)), .val (.int v1), .unset] [])) (fun t k => XS.istore X23.here hx rfl (hb hby at_291) rfl (l' := #[.val (.int p1), .val (.int p2), .val (.int p3), .val (.int p4), .val (.int p5), .val (.int (1 : Int32)), .val (.int v0), .val (.int v1), .val (.int v2), .val (.ref la), .val (.ref a), .val (.ref r), .val (.int (1 : Int32)), .val (.int (1 : Int32)), .val (.int ((v0 + (1 : Int32)).toInt8.toInt32)), .val (.int v1), .unset]) rfl k) ?_
      refine Goes.pre (U' := T23.setTop (mkF m 295 #[.val (.int p1), .val (.int p2), .val (.int p3), .val (.int p4), .val (.int p5), .val (.int (1 : Int32)), .val (.int v0), .val (.int v1), .val (.int v2), .val (.ref la), .val (.ref a), .val (.ref r), .val (.int (1 : Int32)), .val (.int (1 : Int32)), .val (.int ((v0 + (1 : Int32)).toInt8.toInt32)), .val (.int v1), .unset] [(.int v2)])) (fun t k => XS.iload X23.here hx rfl (hb hby at_293) rfl k) ?_
      refine Goes.pre (U' := T23.setTop (mkF m 296 #[.val (.int p1), .val (.int p2), .val (.int p3), .val (.int p4), .val (.int p5), .val (.int (1 : Int32)), .val (.int v0), .val (.int v1), .val (.int v2), .val (.ref la), .val (.ref a), .val (.ref r), .val (.int (1 : Int32)), .val (.int (1 : Int32)), .val (.int ((v0 + (1 : Int32)).toInt8.toInt32)), .val (.int v1), .unset] [(.int (1 : Int32)), (.int v2)])) (fun t k => XS.iconst X23.here hx rfl (hb hby at_295) k) ?_
      refine Goes.pre (U' := T23.setTop (mkF m 297 #[.val (.int p1), .val (.int p2), .val (.int p3), .val (.int p4), .val (.int p5), .val (.int (1 : Int32)), .val (.int v0), .val (.int v1), .val (.int v2), .val (.ref la), .val (.ref a), .val (.ref r), .val (.int (1 : Int32)), .val (.int (1 : Int32)), .val (.int ((v0 + (1 : Int32)).toInt8.toInt32)), .val (.int v1), .unset] [(.int (v2 + (1 : Int32)))])) (fun t k => XS.iadd X23.here hx rfl (hb hby at_296) rfl k) ?_
      refine Goes.pre (U' := T23.setTop (mkF m 298 #[.val (.int p1), .val (.int p2), .val (.int p3), .val (.int p4), .val (.int p5), .val (.int (1 : Int32)), .val (.int v0), .val (.int v1), .val (.int v2), .val (.ref la), .val (.ref a), .val (.ref r), .val (.int (1 : Int32)), .val (.int (1 : Int32)), .val (.int ((v0 + (1 : Int32)).toInt8.toInt32)), .val (.int v1), .unset] [(.int ((v2 + (1 : Int32)).toInt8.toInt32))])) (fun t k => XS.i2b X23.here hx rfl (hb hby at_297) rfl k) ?_
      refine Goes.pre (U' := T23.setTop (mkF m 300 #[.val (.int p1), .val (.int p2), .val (.int p3), .val (.int p4), .val (.int p5), .val (.int (1 : Int32)), .val (.int v0), .val (.int v1), .val (.int v2), .val (.ref la), .val (.ref a), .val (.ref r), .val (.int (1 : Int32)), .val (.int (1 : Int32)), .val (.int ((v0 + (1 : Int32)).toInt8.toInt32)), .val (.int v1), .val (.int ((v2 + (1 : Int32)).toInt8.toInt32))] [])) (fun t k => XS.istore X23.here hx rfl (hb hby at_298) rfl (l' := #[.val (.int p1), .val (.int p2), .val (.int p3), .val (.int p4), .val (.int p5), .val (.int (1 : Int32)), .val (.int v0), .val (.int v1), .val (.int v2), .val (.ref la), .val (.ref a), .val (.ref r), .val (.int (1 : Int32)), .val (.int (1 : Int32)), .val (.int ((v0 + (1 : Int32)).toInt8.toInt32)), .val (.int v1), .val (.int ((v2 + (1 : Int32)).toInt8.toInt32))]) rfl k) ?_
      refine Goes.pre (U' := T23.setTop (mkF m 302 #[.val (.int p1), .val (.int p2), .val (.int p3), .val (.int p4), .val (.int p5), .val (.int (1 : Int32)), .val (.int v0), .val (.int v1), .val (.int v2), .val (.ref la), .val (.ref a), .val (.ref r), .val (.int (1 : Int32)), .val (.int (1 : Int32)), .val (.int ((v0 + (1 : Int32)).toInt8.toInt32)), .val (.int v1), .val (.int ((v2 + (1 : Int32)).toInt8.toInt32))] [(.int (1 : Int32))])) (fun t k => XS.iload X23.here hx rfl (hb hby at_300) rfl k) ?_
      have hc302 : ¬ ((1 : Int32) = (0 : Int32)) := by decide
      refine Goes.pre (U' := T23.setTop (mkF m 305 #[.val (.int p1), .val (.int p2), .val (.int p3), .val (.int p4), .val (.int p5), .val (.int (1 : Int32)), .val (.int v0), .val (.int v1), .val (.int v2), .val (.ref la), .val (.ref a), .val (.ref r), .val (.int (1 : Int32)), .val (.int (1 : Int32)), .val (.int ((v0 + (1 : Int32)).toInt8.toInt32)), .val (.int v1), .val (.int ((v2 + (1 : Int32)).toInt8.toInt32))] [])) (fun t k => XS.ifNo X23.here hx rfl (hb hby at_302) rfl ((if0 _ _).trans (feq hc302).1) k) ?_
      refine Goes.pre (U' := T23.setTop (mkF m 307 #[.val (.int p1), .val (.int p2), .val (.int p3), .val (.int p4), .val (.int p5), .val (.int (1 : Int32)), .val (.int v0), .val (.int v1), .val (.int v2), .val (.ref la), .val (.ref a), .val (.ref r), .val (.int (1 : Int32)), .val (.int (1 : Int32)), .val (.int ((v0 + (1 : Int32)).toInt8.toInt32)), .val (.int v1), .val (.int ((v2 + (1 : Int32)).toInt8.toInt32))] [(.ref r)])) (fun t k => XS.aload X23.here hx rfl (hb hby at_305) rfl rfl k) ?_
      refine Goes.pre (U' := T23.setTop (mkF m 308 #[.val (.int p1), .val (.int p2), .val (.int p3), .val (.int p4), .val (.int p5), .val (.int (1 : Int32)), .val (.int v0), .val (.int v1), .val (.int v2), .val (.ref la), .val (.ref a), .val (.ref r), .val (.int (1 : Int32)), .val (.int (1 : Int32)), .val (.int ((v0 + (1 : Int32)).toInt8.toInt32)), .val (.int v1), .val (.int ((v2 + (1 : Int32)).toInt8.toInt32))] [(.int (0 : Int32)), (.ref r)])) (fun t k => XS.iconst X23.here hx rfl (hb hby at_307) k) ?_
      obtain ⟨cl27, Ar27, q27, Sz27, Ng27, Hs27, Ft27⟩ := id V_r
      have hin27 := inb_of (j := (0 : Int32)) Sz27 ⟨by decide, by decide⟩
      refine Goes.pre (U' := T23.setTop (mkF m 309 #[.val (.int p1), .val (.int p2), .val (.int p3), .val (.int p4), .val (.int p5), .val (.int (1 : Int32)), .val (.int v0), .val (.int v1), .val (.int v2), .val (.ref la), .val (.ref a), .val (.ref r), .val (.int (1 : Int32)), .val (.int (1 : Int32)), .val (.int ((v0 + (1 : Int32)).toInt8.toInt32)), .val (.int v1), .val (.int ((v2 + (1 : Int32)).toInt8.toInt32))] [(.int ((v0 + (1 : Int32)).toInt8.toInt32))])) (fun t k => X23.baloadBytes hx (j := (0 : Int32)) (v := (.int ((v0 + (1 : Int32)).toInt8.toInt32))) Ar27.1 (State.isArrayOf_alike hZ.alike Ar27.2.1) Ar27.2.2 hin27 (Has.at Hs27 hin27 rfl) (g := (mkF m 308 #[.val (.int p1), .val (.int p2), .val (.int p3), .val (.int p4), .val (.int p5), .val (.int (1 : Int32)), .val (.int v0), .val (.int v1), .val (.int v2), .val (.ref la), .val (.ref a), .val (.ref r), .val (.int (1 : Int32)), .val (.int (1 : Int32)), .val (.int ((v0 + (1 : Int32)).toInt8.toInt32)), .val (.int v1), .val (.int ((v2 + (1 : Int32)).toInt8.toInt32))] [(.int (0 : Int32)), (.ref r)])) rfl rfl (hb hby at_308) _ k) ?_
      refine Goes.pre (U' := T23.setTop (mkF m 311 #[.val (.int p1), .val (.int p2), .val (.int p3), .val (.int p4), .val (.int p5), .val (.int (1 : Int32)), .val (.int v0), .val (.int v1), .val (.int v2), .val (.ref la), .val (.ref a), .val (.ref r), .val (.int (1 : Int32)), .val (.int (1 : Int32)), .val (.int ((v0 + (1 : Int32)).toInt8.toInt32)), .val (.int v1), .val (.int ((v2 + (1 : Int32)).toInt8.toInt32))] [(.int ((v0 + (1 : Int32)).toInt8.toInt32)), (.int ((v0 + (1 : Int32)).toInt8.toInt32))])) (fun t k => XS.iload X23.here hx rfl (hb hby at_309) rfl k) ?_
      have hc311 : ((v0 + (1 : Int32)).toInt8.toInt32) = ((v0 + (1 : Int32)).toInt8.toInt32) := rfl
      refine Goes.pre (U' := T23.setTop (mkF m 314 #[.val (.int p1), .val (.int p2), .val (.int p3), .val (.int p4), .val (.int p5), .val (.int (1 : Int32)), .val (.int v0), .val (.int v1), .val (.int v2), .val (.ref la), .val (.ref a), .val (.ref r), .val (.int (1 : Int32)), .val (.int (1 : Int32)), .val (.int ((v0 + (1 : Int32)).toInt8.toInt32)), .val (.int v1), .val (.int ((v2 + (1 : Int32)).toInt8.toInt32))] [])) (fun t k => XS.icmpNo X23.here hx rfl (hb hby at_311) rfl (teq hc311).2 k) ?_
      refine Goes.pre (U' := T23.setTop (mkF m 316 #[.val (.int p1), .val (.int p2), .val (.int p3), .val (.int p4), .val (.int p5), .val (.int (1 : Int32)), .val (.int v0), .val (.int v1), .val (.int v2), .val (.ref la), .val (.ref a), .val (.ref r), .val (.int (1 : Int32)), .val (.int (1 : Int32)), .val (.int ((v0 + (1 : Int32)).toInt8.toInt32)), .val (.int v1), .val (.int ((v2 + (1 : Int32)).toInt8.toInt32))] [(.int (1 : Int32))])) (fun t k => XS.iload X23.here hx rfl (hb hby at_314) rfl k) ?_
      refine Goes.pre (U' := T23.setTop (mkF m 317 #[.val (.int p1), .val (.int p2), .val (.int p3), .val (.int p4), .val (.int p5), .val (.int (1 : Int32)), .val (.int v0), .val (.int v1), .val (.int v2), .val (.ref la), .val (.ref a), .val (.ref r), .val (.int (1 : Int32)), .val (.int (1 : Int32)), .val (.int ((v0 + (1 : Int32)).toInt8.toInt32)), .val (.int v1), .val (.int ((v2 + (1 : Int32)).toInt8.toInt32))] [(.int (2 : Int32)), (.int (1 : Int32))])) (fun t k => XS.iconst X23.here hx rfl (hb hby at_316) k) ?_
      have hc317 : (1 : Int32) < (2 : Int32) := by decide
      refine Goes.pre (U' := T23.setTop (mkF m 329 #[.val (.int p1), .val (.int p2), .val (.int p3), .val (.int p4), .val (.int p5), .val (.int (1 : Int32)), .val (.int v0), .val (.int v1), .val (.int v2), .val (.ref la), .val (.ref a), .val (.ref r), .val (.int (1 : Int32)), .val (.int (1 : Int32)), .val (.int ((v0 + (1 : Int32)).toInt8.toInt32)), .val (.int v1), .val (.int ((v2 + (1 : Int32)).toInt8.toInt32))] [])) (fun t k => XS.icmpYes X23.here hx rfl (pc0 := 317) (pc' := 329) rfl (hb hby at_317) rfl (tlt hc317).1 (by decide) (by decide) k) ?_
      refine Goes.pre (U' := T23.setTop (mkF m 331 #[.val (.int p1), .val (.int p2), .val (.int p3), .val (.int p4), .val (.int p5), .val (.int (1 : Int32)), .val (.int v0), .val (.int v1), .val (.int v2), .val (.ref la), .val (.ref a), .val (.ref r), .val (.int (1 : Int32)), .val (.int (1 : Int32)), .val (.int ((v0 + (1 : Int32)).toInt8.toInt32)), .val (.int v1), .val (.int ((v2 + (1 : Int32)).toInt8.toInt32))] [(.int (1 : Int32))])) (fun t k => XS.iload X23.here hx rfl (hb hby at_329) rfl k) ?_
      refine Goes.pre (U' := T23.setTop (mkF m 332 #[.val (.int p1), .val (.int p2), .val (.int p3), .val (.int p4), .val (.int p5), .val (.int (1 : Int32)), .val (.int v0), .val (.int v1), .val (.int v2), .val (.ref la), .val (.ref a), .val (.ref r), .val (.int (1 : Int32)), .val (.int (1 : Int32)), .val (.int ((v0 + (1 : Int32)).toInt8.toInt32)), .val (.int v1), .val (.int ((v2 + (1 : Int32)).toInt8.toInt32))] [(.int (3 : Int32)), (.int (1 : Int32))])) (fun t k => XS.iconst X23.here hx rfl (hb hby at_331) k) ?_
      have hc332 : (1 : Int32) < (3 : Int32) := by decide
      refine Goes.pre (U' := T23.setTop (mkF m 344 #[.val (.int p1), .val (.int p2), .val (.int p3), .val (.int p4), .val (.int p5), .val (.int (1 : Int32)), .val (.int v0), .val (.int v1), .val (.int v2), .val (.ref la), .val (.ref a), .val (.ref r), .val (.int (1 : Int32)), .val (.int (1 : Int32)), .val (.int ((v0 + (1 : Int32)).toInt8.toInt32)), .val (.int v1), .val (.int ((v2 + (1 : Int32)).toInt8.toInt32))] [])) (fun t k => XS.icmpYes X23.here hx rfl (pc0 := 332) (pc' := 344) rfl (hb hby at_332) rfl (tlt hc332).1 (by decide) (by decide) k) ?_
      refine Goes.pre (U' := T23.setTop (mkF m 345 #[.val (.int p1), .val (.int p2), .val (.int p3), .val (.int p4), .val (.int p5), .val (.int (1 : Int32)), .val (.int v0), .val (.int v1), .val (.int v2), .val (.ref la), .val (.ref a), .val (.ref r), .val (.int (1 : Int32)), .val (.int (1 : Int32)), .val (.int ((v0 + (1 : Int32)).toInt8.toInt32)), .val (.int v1), .val (.int ((v2 + (1 : Int32)).toInt8.toInt32))] [(.int (1 : Int32))])) (fun t k => XS.iconst X23.here hx rfl (hb hby at_344) k) ?_
      refine Goes.pre (U' := T23.setTop (mkF m 349 #[.val (.int p1), .val (.int p2), .val (.int p3), .val (.int p4), .val (.int p5), .val (.int (1 : Int32)), .val (.int v0), .val (.int v1), .val (.int v2), .val (.ref la), .val (.ref a), .val (.ref r), .val (.int (1 : Int32)), .val (.int (1 : Int32)), .val (.int ((v0 + (1 : Int32)).toInt8.toInt32)), .val (.int v1), .val (.int ((v2 + (1 : Int32)).toInt8.toInt32))] [(.int (1 : Int32))])) (fun t k => XS.goto X23.here hx rfl (pc0 := 345) (pc' := 349) rfl (hb hby at_345) (by decide) (by decide) k) ?_
      refine Goes.ret X23 (v := (some (.int (1 : Int32)))) (fun h => by rw [Bd.returns] at h; cases h) Bd.notSynchronized (by decide) (by decide) rfl (fun fs hr => retN X23 hx (t := .boolean) Bd.returns (by simp) (hb hby at_349) hr) ?_
      exact ⟨rfl, N23⟩
  ·
    refine Goes.pre (U' := s₁.setTop (mkF m 52 #[.val (.int p1), .val (.int p2), .val (.int p3), .val (.int p4), .val (.int p5), .val (.int (2 : Int32)), .val (.int v0), .val (.int v1), .val (.int v2), .unset, .unset, .unset, .unset, .unset, .unset, .unset, .unset] [(.int (2 : Int32))])) (fun t k => XS.iload X0.here hx rfl (hb hby at_50) rfl k) ?_
    obtain ⟨T28, h28, k28, X28, e28, E28, A28, B28, st28⟩ := newPE X0 hx hZ (hw _ (List.mem_of_getElem? (i := 0) rfl)) e0 (g := (mkF m 52 #[.val (.int p1), .val (.int p2), .val (.int p3), .val (.int p4), .val (.int p5), .val (.int (2 : Int32)), .val (.int v0), .val (.int v1), .val (.int v2), .unset, .unset, .unset, .unset, .unset, .unset, .unset, .unset] [(.int (2 : Int32))])) rfl (hb hby at_52) rfl (by decide) (cap := 2) (by decide) (by decide) (by decide) (by decide) (ad := "[B") (by decide)
    obtain ⟨la, g28⟩ : ∃ z, z = h0.size := ⟨_, rfl⟩
    rw [← g28] at A28 B28 st28
    have g_la : n0 ≤ la := Nat.le_trans Z0 (Nat.le_of_eq g28.symm)
    have Z28 : n0 ≤ h28.size := Nat.le_trans Z0 E28.1
    have E_la := B28
    have V_la : Arv Z h28 la k28 .byte (2 : Int32) [(.int (0 : Int32)), (.int (0 : Int32))] (.int (0 : Int32)) := (Arv.new A28 (by decide)).pad (pad_rep [] (.int (0 : Int32)) 2)
    refine Goes.pre (U' := T28.setTop (mkF m 54 #[.val (.int p1), .val (.int p2), .val (.int p3), .val (.int p4), .val (.int p5), .val (.int (2 : Int32)), .val (.int v0), .val (.int v1), .val (.int v2), .unset, .unset, .unset, .unset, .unset, .unset, .unset, .unset] [(.ref la)])) (fun t k => st28 t k) ?_
    refine Goes.pre (U' := T28.setTop (mkF m 56 #[.val (.int p1), .val (.int p2), .val (.int p3), .val (.int p4), .val (.int p5), .val (.int (2 : Int32)), .val (.int v0), .val (.int v1), .val (.int v2), .val (.ref la), .unset, .unset, .unset, .unset, .unset, .unset, .unset] [])) (fun t k => XS.astore X28.here hx rfl (hb hby at_54) rfl rfl (l' := #[.val (.int p1), .val (.int p2), .val (.int p3), .val (.int p4), .val (.int p5), .val (.int (2 : Int32)), .val (.int v0), .val (.int v1), .val (.int v2), .val (.ref la), .unset, .unset, .unset, .unset, .unset, .unset, .unset]) rfl k) ?_
    refine Goes.pre (U' := T28.setTop (mkF m 58 #[.val (.int p1), .val (.int p2), .val (.int p3), .val (.int p4), .val (.int p5), .val (.int (2 : Int32)), .val (.int v0), .val (.int v1), .val (.int v2), .val (.ref la), .unset, .unset, .unset, .unset, .unset, .unset, .unset] [(.int (2 : Int32))])) (fun t k => XS.iload X28.here hx rfl (hb hby at_56) rfl k) ?_
    have hc58 : (0 : Int32) < (2 : Int32) := by decide
    refine Goes.pre (U' := T28.setTop (mkF m 61 #[.val (.int p1), .val (.int p2), .val (.int p3), .val (.int p4), .val (.int p5), .val (.int (2 : Int32)), .val (.int v0), .val (.int v1), .val (.int v2), .val (.ref la), .unset, .unset, .unset, .unset, .unset, .unset, .unset] [])) (fun t k => XS.ifNo X28.here hx rfl (hb hby at_58) rfl ((if0 _ _).trans (tlt hc58).2.2.2) k) ?_
    refine Goes.pre (U' := T28.setTop (mkF m 63 #[.val (.int p1), .val (.int p2), .val (.int p3), .val (.int p4), .val (.int p5), .val (.int (2 : Int32)), .val (.int v0), .val (.int v1), .val (.int v2), .val (.ref la), .unset, .unset, .unset, .unset, .unset, .unset, .unset] [(.ref la)])) (fun t k => XS.aload X28.here hx rfl (hb hby at_61) rfl rfl k) ?_
    refine Goes.pre (U' := T28.setTop (mkF m 64 #[.val (.int p1), .val (.int p2), .val (.int p3), .val (.int p4), .val (.int p5), .val (.int (2 : Int32)), .val (.int v0), .val (.int v1), .val (.int v2), .val (.ref la), .unset, .unset, .unset, .unset, .unset, .unset, .unset] [(.int (0 : Int32)), (.ref la)])) (fun t k => XS.iconst X28.here hx rfl (hb hby at_63) k) ?_
    refine Goes.pre (U' := T28.setTop (mkF m 66 #[.val (.int p1), .val (.int p2), .val (.int p3), .val (.int p4), .val (.int p5), .val (.int (2 : Int32)), .val (.int v0), .val (.int v1), .val (.int v2), .val (.ref la), .unset, .unset, .unset, .unset, .unset, .unset, .unset] [(.int v0), (.int (0 : Int32)), (.ref la)])) (fun t k => XS.iload X28.here hx rfl (hb hby at_64) rfl k) ?_
    obtain ⟨cl29, Ar29, q29, Sz29, Ng29, Hs29, Ft29⟩ := id V_la
    obtain ⟨T29, h29, X29, e29, W29, st29⟩ := stB X28 hx hZ e28 Ar29 (j := (0 : Int32)) (inb_of Sz29 ⟨by decide, by decide⟩) (g := (mkF m 66 #[.val (.int p1), .val (.int p2), .val (.int p3), .val (.int p4), .val (.int p5), .val (.int (2 : Int32)), .val (.int v0), .val (.int v1), .val (.int v2), .val (.ref la), .unset, .unset, .unset, .unset, .unset, .unset, .unset] [(.int v0), (.int (0 : Int32)), (.ref la)])) rfl rfl (hb hby at_66)
    have nr29 : nar .byte v0 = v0 := hv0
    have ft29 : fits .byte (.int v0) = true := nr29 ▸ (fits_nar_byte v0 : fits .byte (.int (nar .byte v0)) = true)
    rw [nr29] at W29
    have E_la := E_la.wr W29
    have Z29 : n0 ≤ h29.size := Nat.le_trans Z28 (Keep.of_wr W29).1
    have V_la : Arv Z h29 la k28 .byte (2 : Int32) [(.int v0), (.int (0 : Int32))] (.int (0 : Int32)) := Arv.set Ar29 q29 Sz29 Ng29 Hs29 Ft29 ft29 W29 0 rfl (Nat.le_of_ble_eq_true rfl)
    have N29 := Fr.snoc X29 N0 g_la
    refine Goes.pre (U' := T29.setTop (mkF m 67 #[.val (.int p1), .val (.int p2), .val (.int p3), .val (.int p4), .val (.int p5), .val (.int (2 : Int32)), .val (.int v0), .val (.int v1), .val (.int v2), .val (.ref la), .unset, .unset, .unset, .unset, .unset, .unset, .unset] [])) (fun t k => st29 t k) ?_
    refine Goes.pre (U' := T29.setTop (mkF m 69 #[.val (.int p1), .val (.int p2), .val (.int p3), .val (.int p4), .val (.int p5), .val (.int (2 : Int32)), .val (.int v0), .val (.int v1), .val (.int v2), .val (.ref la), .unset, .unset, .unset, .unset, .unset, .unset, .unset] [(.int (2 : Int32))])) (fun t k => XS.iload X29.here hx rfl (hb hby at_67) rfl k) ?_
    refine Goes.pre (U' := T29.setTop (mkF m 70 #[.val (.int p1), .val (.int p2), .val (.int p3), .val (.int p4), .val (.int p5), .val (.int (2 : Int32)), .val (.int v0), .val (.int v1), .val (.int v2), .val (.ref la), .unset, .unset, .unset, .unset, .unset, .unset, .unset] [(.int (1 : Int32)), (.int (2 : Int32))])) (fun t k => XS.iconst X29.here hx rfl (hb hby at_69) k) ?_
    have hc70 : (1 : Int32) < (2 : Int32) := by decide
    refine Goes.pre (U' := T29.setTop (mkF m 73 #[.val (.int p1), .val (.int p2), .val (.int p3), .val (.int p4), .val (.int p5), .val (.int (2 : Int32)), .val (.int v0), .val (.int v1), .val (.int v2), .val (.ref la), .unset, .unset, .unset, .unset, .unset, .unset, .unset] [])) (fun t k => XS.icmpNo X29.here hx rfl (hb hby at_70) rfl (tlt hc70).2.2.2 k) ?_
    refine Goes.pre (U' := T29.setTop (mkF m 75 #[.val (.int p1), .val (.int p2), .val (.int p3), .val (.int p4), .val (.int p5), .val (.int (2 : Int32)), .val (.int v0), .val (.int v1), .val (.int v2), .val (.ref la), .unset, .unset, .unset, .unset, .unset, .unset, .unset] [(.ref la)])) (fun t k => XS.aload X29.here hx rfl (hb hby at_73) rfl rfl k) ?_
    refine Goes.pre (U' := T29.setTop (mkF m 76 #[.val (.int p1), .val (.int p2), .val (.int p3), .val (.int p4), .val (.int p5), .val (.int (2 : Int32)), .val (.int v0), .val (.int v1), .val (.int v2), .val (.ref la), .unset, .unset, .unset, .unset, .unset, .unset, .unset] [(.int (1 : Int32)), (.ref la)])) (fun t k => XS.iconst X29.here hx rfl (hb hby at_75) k) ?_
    refine Goes.pre (U' := T29.setTop (mkF m 78 #[.val (.int p1), .val (.int p2), .val (.int p3), .val (.int p4), .val (.int p5), .val (.int (2 : Int32)), .val (.int v0), .val (.int v1), .val (.int v2), .val (.ref la), .unset, .unset, .unset, .unset, .unset, .unset, .unset] [(.int v1), (.int (1 : Int32)), (.ref la)])) (fun t k => XS.iload X29.here hx rfl (hb hby at_76) rfl k) ?_
    obtain ⟨cl30, Ar30, q30, Sz30, Ng30, Hs30, Ft30⟩ := id V_la
    obtain ⟨T30, h30, X30, e30, W30, st30⟩ := stB X29 hx hZ e29 Ar30 (j := (1 : Int32)) (inb_of Sz30 ⟨by decide, by decide⟩) (g := (mkF m 78 #[.val (.int p1), .val (.int p2), .val (.int p3), .val (.int p4), .val (.int p5), .val (.int (2 : Int32)), .val (.int v0), .val (.int v1), .val (.int v2), .val (.ref la), .unset, .unset, .unset, .unset, .unset, .unset, .unset] [(.int v1), (.int (1 : Int32)), (.ref la)])) rfl rfl (hb hby at_78)
    have nr30 : nar .byte v1 = v1 := hv1
    have ft30 : fits .byte (.int v1) = true := nr30 ▸ (fits_nar_byte v1 : fits .byte (.int (nar .byte v1)) = true)
    rw [nr30] at W30
    have E_la := E_la.wr W30
    have Z30 : n0 ≤ h30.size := Nat.le_trans Z29 (Keep.of_wr W30).1
    have V_la : Arv Z h30 la k28 .byte (2 : Int32) [(.int v0), (.int v1)] (.int (0 : Int32)) := Arv.set Ar30 q30 Sz30 Ng30 Hs30 Ft30 ft30 W30 1 rfl (Nat.le_of_ble_eq_true rfl)
    have N30 := Fr.snoc X30 N29 g_la
    refine Goes.pre (U' := T30.setTop (mkF m 79 #[.val (.int p1), .val (.int p2), .val (.int p3), .val (.int p4), .val (.int p5), .val (.int (2 : Int32)), .val (.int v0), .val (.int v1), .val (.int v2), .val (.ref la), .unset, .unset, .unset, .unset, .unset, .unset, .unset] [])) (fun t k => st30 t k) ?_
    refine Goes.pre (U' := T30.setTop (mkF m 81 #[.val (.int p1), .val (.int p2), .val (.int p3), .val (.int p4), .val (.int p5), .val (.int (2 : Int32)), .val (.int v0), .val (.int v1), .val (.int v2), .val (.ref la), .unset, .unset, .unset, .unset, .unset, .unset, .unset] [(.int (2 : Int32))])) (fun t k => XS.iload X30.here hx rfl (hb hby at_79) rfl k) ?_
    refine Goes.pre (U' := T30.setTop (mkF m 82 #[.val (.int p1), .val (.int p2), .val (.int p3), .val (.int p4), .val (.int p5), .val (.int (2 : Int32)), .val (.int v0), .val (.int v1), .val (.int v2), .val (.ref la), .unset, .unset, .unset, .unset, .unset, .unset, .unset] [(.int (2 : Int32)), (.int (2 : Int32))])) (fun t k => XS.iconst X30.here hx rfl (hb hby at_81) k) ?_
    have hc82 : ¬ ((2 : Int32) < (2 : Int32)) := by decide
    refine Goes.pre (U' := T30.setTop (mkF m 91 #[.val (.int p1), .val (.int p2), .val (.int p3), .val (.int p4), .val (.int p5), .val (.int (2 : Int32)), .val (.int v0), .val (.int v1), .val (.int v2), .val (.ref la), .unset, .unset, .unset, .unset, .unset, .unset, .unset] [])) (fun t k => XS.icmpYes X30.here hx rfl (pc0 := 82) (pc' := 91) rfl (hb hby at_82) rfl (flt hc82).2.2.2 (by decide) (by decide) k) ?_
    obtain ⟨T31, h31, X31, e31, E31, A31, D31, -, st31⟩ := newO X30 hx hZ hown (hw _ (List.mem_of_getElem? (i := 1) rfl)) (hw _ (List.mem_of_getElem? (i := 2) rfl)) (hw _ (List.mem_of_getElem? (i := 3) rfl)) e30 (g := (mkF m 91 #[.val (.int p1), .val (.int p2), .val (.int p3), .val (.int p4), .val (.int p5), .val (.int (2 : Int32)), .val (.int v0), .val (.int v1), .val (.int v2), .val (.ref la), .unset, .unset, .unset, .unset, .unset, .unset, .unset] [])) rfl (hb hby at_91) (by decide) (by decide)
    obtain ⟨a, g31⟩ : ∃ z, z = h30.size := ⟨_, rfl⟩
    rw [← g31] at A31 D31 st31
    have ne_la_a : la ≠ a := Nat.ne_of_lt (Nat.lt_of_lt_of_le E_la.lt (Nat.le_of_eq g31.symm))
    have ne_a_la := ne_la_a.symm
    have g_a : n0 ≤ a := Nat.le_trans Z30 (Nat.le_of_eq g31.symm)
    have E_la := E_la.ext E31
    have V_la := V_la.ext E31
    have Z31 : n0 ≤ h31.size := Nat.le_trans Z30 E31.1
    have E_a := A31
    have F_first_a : Fld Z h31 a "com/example/known_paths/knownpaths/key/KeyRange" "first" "[B" .null := D31 (Or.inr (hw _ (List.mem_of_getElem? (i := 16) rfl))) (ty := (.array .byte)) (by decide)
    have F_last_a : Fld Z h31 a "com/example/known_paths/knownpaths/key/KeyRange" "last" "[B" .null := D31 (Or.inr (hw _ (List.mem_of_getElem? (i := 18) rfl))) (ty := (.array .byte)) (by decide)
    refine Goes.pre (U' := T31.setTop (mkF m 94 #[.val (.int p1), .val (.int p2), .val (.int p3), .val (.int p4), .val (.int p5), .val (.int (2 : Int32)), .val (.int v0), .val (.int v1), .val (.int v2), .val (.ref la), .unset, .unset, .unset, .unset, .unset, .unset, .unset] [(.ref a)])) (fun t k => st31 t k) ?_
    refine Goes.pre (U' := T31.setTop (mkF m 95 #[.val (.int p1), .val (.int p2), .val (.int p3), .val (.int p4), .val (.int p5), .val (.int (2 : Int32)), .val (.int v0), .val (.int v1), .val (.int v2), .val (.ref la), .unset, .unset, .unset, .unset, .unset, .unset, .unset] [(.ref a), (.ref a)])) (fun t k => XS.dup X31.here hx rfl (hb hby at_94) rfl rfl k) ?_
    refine Goes.pre (U' := T31.setTop (mkF m 96 #[.val (.int p1), .val (.int p2), .val (.int p3), .val (.int p4), .val (.int p5), .val (.int (2 : Int32)), .val (.int v0), .val (.int v1), .val (.int v2), .val (.ref la), .unset, .unset, .unset, .unset, .unset, .unset, .unset] [(.int (0 : Int32)), (.ref a), (.ref a)])) (fun t k => XS.iconst X31.here hx rfl (hb hby at_95) k) ?_
    obtain ⟨T32, h32, k32, X32, e32, E32, A32, B32, st32⟩ := newPE X31 hx hZ (hw _ (List.mem_of_getElem? (i := 0) rfl)) e31 (g := (mkF m 96 #[.val (.int p1), .val (.int p2), .val (.int p3), .val (.int p4), .val (.int p5), .val (.int (2 : Int32)), .val (.int v0), .val (.int v1), .val (.int v2), .val (.ref la), .unset, .unset, .unset, .unset, .unset, .unset, .unset] [(.int (0 : Int32)), (.ref a), (.ref a)])) rfl (hb hby at_96) rfl (by decide) (cap := 0) (by decide) (by decide) (by decide) (by decide) (ad := "[B") (by decide)
    obtain ⟨fa, g32⟩ : ∃ z, z = h31.size := ⟨_, rfl⟩
    rw [← g32] at A32 B32 st32
    have ne_a_fa : a ≠ fa := Nat.ne_of_lt (Nat.lt_of_lt_of_le E_a.lt (Nat.le_of_eq g32.symm))
    have ne_fa_a := ne_a_fa.symm
    have ne_la_fa : la ≠ fa := Nat.ne_of_lt (Nat.lt_of_lt_of_le E_la.lt (Nat.le_of_eq g32.symm))
    have ne_fa_la := ne_la_fa.symm
    have g_fa : n0 ≤ fa := Nat.le_trans Z31 (Nat.le_of_eq g32.symm)
    have E_la := E_la.ext E32
    have V_la := V_la.ext E32
    have E_a := E_a.ext E32
    have F_first_a := F_first_a.ext E32
    have F_last_a := F_last_a.ext E32
    have Z32 : n0 ≤ h32.size := Nat.le_trans Z31 E32.1
    have E_fa := B32
    have V_fa : Arv Z h32 fa k32 .byte (0 : Int32) [] (.int (0 : Int32)) := (Arv.new A32 (by decide)).pad (pad_rep [] (.int (0 : Int32)) 0)
    refine Goes.pre (U' := T32.setTop (mkF m 98 #[.val (.int p1), .val (.int p2), .val (.int p3), .val (.int p4), .val (.int p5), .val (.int (2 : Int32)), .val (.int v0), .val (.int v1), .val (.int v2), .val (.ref la), .unset, .unset, .unset, .unset, .unset, .unset, .unset] [(.ref fa), (.ref a), (.ref a)])) (fun t k => st32 t k) ?_
    refine Goes.pre (U' := T32.setTop (mkF m 100 #[.val (.int p1), .val (.int p2), .val (.int p3), .val (.int p4), .val (.int p5), .val (.int (2 : Int32)), .val (.int v0), .val (.int v1), .val (.int v2), .val (.ref la), .unset, .unset, .unset, .unset, .unset, .unset, .unset] [(.ref la), (.ref fa), (.ref a), (.ref a)])) (fun t k => XS.aload X32.here hx rfl (hb hby at_98) rfl rfl k) ?_
    obtain ⟨_, _, ⟨T33, L33, k33, n33⟩, -, X33, ⟨Lc33, hQ33, l33, y33, z33⟩, st33⟩ := X32.specialBack hx (y := (⟨"com/example/known_paths/knownpaths/key/KeyRange", "<init>", "([B[B)V"⟩ : MethodName)) rfl hown (mvT hZ (hw _ (List.mem_of_getElem? (i := 4) rfl))) (mvT hZ (hw _ (List.mem_of_getElem? (i := 5) rfl))) (mvT hZ (hw _ (List.mem_of_getElem? (i := 6) rfl))) (by decide) (backOf (W := 1) (rm_init l Z a0 hw [] a fa la h32 n0 Z32 E_a F_first_a F_last_a g_a) hZ (hw _ (List.mem_of_getElem? (i := 6) rfl)) (hw _ (List.mem_of_getElem? (i := 3) rfl)) (by decide) (by decide)) (g := (mkF m 100 #[.val (.int p1), .val (.int p2), .val (.int p3), .val (.int p4), .val (.int p5), .val (.int (2 : Int32)), .val (.int v0), .val (.int v1), .val (.int v2), .val (.ref la), .unset, .unset, .unset, .unset, .unset, .unset, .unset] [(.ref la), (.ref fa), (.ref a), (.ref a)])) rfl (by rw [hml]; rfl) (Steps.refl _) (a := a) (argsL := [(.ref fa), (.ref la)]) (rest := [(.ref a)]) (lenOf pd__28_5bB_5bB_29V rfl) rfl (by show 2 * 0 + _ ≤ _; exact Nat.le_of_eq rfl) (hb hby at_100) (fun _ _ => ⟨rfl, e32, (by decide : 3 + 0 ≤ _), (by decide : 4 + 0 ≤ _)⟩)
    dsimp only [Pt.U, Pt.locs, Pt.cells, Pt.slots] at X33 l33 y33 z33 st33 hQ33
    subst l33 y33 z33
    obtain ⟨rfl, N33q, KQ33, fq_33⟩ := hQ33
    have N33 := Fr.app N30 N33q
    have E_la := E_la.keep KQ33
    have V_la := V_la.keep KQ33 (ninS ne_la_a nin0)
    have E_a := E_a.keep KQ33
    have E_fa := E_fa.keep KQ33
    have V_fa := V_fa.keep KQ33 (ninS ne_fa_a nin0)
    have Z34 : n0 ≤ T33.heap.size := Nat.le_trans Z32 KQ33.1
    have F_last_a := fq_33
    refine Goes.pre (U' := T33.setTop (mkF m 103 #[.val (.int p1), .val (.int p2), .val (.int p3), .val (.int p4), .val (.int p5), .val (.int (2 : Int32)), .val (.int v0), .val (.int v1), .val (.int v2), .val (.ref la), .unset, .unset, .unset, .unset, .unset, .unset, .unset] [(.ref a)])) (fun t k => st33.trans k) ?_
    refine Goes.pre (U' := T33.setTop (mkF m 105 #[.val (.int p1), .val (.int p2), .val (.int p3), .val (.int p4), .val (.int p5), .val (.int (2 : Int32)), .val (.int v0), .val (.int v1), .val (.int v2), .val (.ref la), .val (.ref a), .unset, .unset, .unset, .unset, .unset, .unset] [])) (fun t k => XS.astore X33.here hx rfl (hb hby at_103) rfl rfl (l' := #[.val (.int p1), .val (.int p2), .val (.int p3), .val (.int p4), .val (.int p5), .val (.int (2 : Int32)), .val (.int v0), .val (.int v1), .val (.int v2), .val (.ref la), .val (.ref a), .unset, .unset, .unset, .unset, .unset, .unset]) rfl k) ?_
    by_cases hq1 : v1 = (-1 : Int32)
    ·
      by_cases hq0 : v0 = (-1 : Int32)
      ·
        refine Goes.pre (U' := T33.setTop (mkF m 107 #[.val (.int p1), .val (.int p2), .val (.int p3), .val (.int p4), .val (.int p5), .val (.int (2 : Int32)), .val (.int v0), .val (.int v1), .val (.int v2), .val (.ref la), .val (.ref a), .unset, .unset, .unset, .unset, .unset, .unset] [(.ref a)])) (fun t k => XS.aload X33.here hx rfl (hb hby at_105) rfl rfl k) ?_
        have lt_a := E_a.lt
        have lt_fa := E_fa.lt
        have lt_la := E_la.lt
        obtain ⟨cq35, kq35, q35a, q35b, q35c⟩ := isOf hZ rfl E_a
        obtain ⟨_, _, ⟨T35, L35, k35, n35⟩, -, X35, ⟨Lc35, hQ35, l35, y35, z35⟩, st35⟩ := X33.virtualBack hx (y := (⟨"com/example/known_paths/knownpaths/key/KeyRange", "end", "()[B"⟩ : MethodName)) (z := (⟨"com/example/known_paths/knownpaths/key/KeyRange", "end", "()[B"⟩ : MethodName)) hown (mvT hZ (hw _ (List.mem_of_getElem? (i := 19) rfl))) (mvT hZ (hw _ (List.mem_of_getElem? (i := 20) rfl))) (notFace_of_selects (args := #[]) (mvT hZ (hw _ (List.mem_of_getElem? (i := 22) rfl)))) (mvT hZ (hw _ (List.mem_of_getElem? (i := 22) rfl))) (mvT hZ (hw _ (List.mem_of_getElem? (i := 21) rfl))) (by decide) (backOf (W := 0) (rm_end20 l Z a0 hw [] a la k28 v0 v1 T33.heap n0 Z34 F_last_a E_la V_la hq0 hq1) hZ (hw _ (List.mem_of_getElem? (i := 23) rfl)) (hw _ (List.mem_of_getElem? (i := 3) rfl)) (by decide) (by decide)) q35a q35c (g := (mkF m 107 #[.val (.int p1), .val (.int p2), .val (.int p3), .val (.int p4), .val (.int p5), .val (.int (2 : Int32)), .val (.int v0), .val (.int v1), .val (.int v2), .val (.ref la), .val (.ref a), .unset, .unset, .unset, .unset, .unset, .unset] [(.ref a)])) rfl (by rw [hml]; rfl) (Steps.refl _) (argsL := []) (rest := []) (lenOf pd__28_29_5bB rfl) rfl (by show 2 * 0 + _ ≤ _; exact Nat.le_of_eq rfl) (hb hby at_107) (fun _ _ => ⟨rfl, rfl, (by decide : 3 + 0 ≤ _), (by decide : 4 + 0 ≤ _)⟩)
        dsimp only [Pt.U, Pt.locs, Pt.cells, Pt.slots] at X35 l35 y35 z35 st35 hQ35
        subst l35 y35 z35
        obtain ⟨rfl, N35q, KQ35⟩ := hQ35
        have N35 := Fr.app N33 N35q
        have E_la := E_la.keep KQ35
        have V_la := V_la.keep KQ35 nin0
        have E_a := E_a.keep KQ35
        have E_fa := E_fa.keep KQ35
        have V_fa := V_fa.keep KQ35 nin0
        have F_last_a := F_last_a.keep KQ35 nin0
        have Z36 : n0 ≤ T35.heap.size := Nat.le_trans Z34 KQ35.1
        refine Goes.pre (U' := T35.setTop (mkF m 110 #[.val (.int p1), .val (.int p2), .val (.int p3), .val (.int p4), .val (.int p5), .val (.int (2 : Int32)), .val (.int v0), .val (.int v1), .val (.int v2), .val (.ref la), .val (.ref a), .unset, .unset, .unset, .unset, .unset, .unset] [.null])) (fun t k => st35.trans k) ?_
        refine Goes.pre (U' := T35.setTop (mkF m 112 #[.val (.int p1), .val (.int p2), .val (.int p3), .val (.int p4), .val (.int p5), .val (.int (2 : Int32)), .val (.int v0), .val (.int v1), .val (.int v2), .val (.ref la), .val (.ref a), .val .null, .unset, .unset, .unset, .unset, .unset] [])) (fun t k => XS.astore X35.here hx rfl (hb hby at_110) rfl rfl (l' := #[.val (.int p1), .val (.int p2), .val (.int p3), .val (.int p4), .val (.int p5), .val (.int (2 : Int32)), .val (.int v0), .val (.int v1), .val (.int v2), .val (.ref la), .val (.ref a), .val .null, .unset, .unset, .unset, .unset, .unset]) rfl k) ?_
        refine Goes.pre (U' := T35.setTop (mkF m 114 #[.val (.int p1), .val (.int p2), .val (.int p3), .val (.int p4), .val (.int p5), .val (.int (2 : Int32)), .val (.int v0), .val (.int v1), .val (.int v2), .val (.ref la), .val (.ref a), .val .null, .unset, .unset, .unset, .unset, .unset] [(.int (2 : Int32))])) (fun t k => XS.iload X35.here hx rfl (hb hby at_112) rfl k) ?_
        refine Goes.pre (U' := T35.setTop (mkF m 115 #[.val (.int p1), .val (.int p2), .val (.int p3), .val (.int p4), .val (.int p5), .val (.int (2 : Int32)), .val (.int v0), .val (.int v1), .val (.int v2), .val (.ref la), .val (.ref a), .val .null, .unset, .unset, .unset, .unset, .unset] [(.int (1 : Int32)), (.int (2 : Int32))])) (fun t k => XS.iconst X35.here hx rfl (hb hby at_114) k) ?_
        have hc115 : ¬ ((2 : Int32) < (1 : Int32)) := by decide
        refine Goes.pre (U' := T35.setTop (mkF m 118 #[.val (.int p1), .val (.int p2), .val (.int p3), .val (.int p4), .val (.int p5), .val (.int (2 : Int32)), .val (.int v0), .val (.int v1), .val (.int v2), .val (.ref la), .val (.ref a), .val .null, .unset, .unset, .unset, .unset, .unset] [])) (fun t k => XS.icmpNo X35.here hx rfl (hb hby at_115) rfl (flt hc115).1 k) ?_
        refine Goes.pre (U' := T35.setTop (mkF m 120 #[.val (.int p1), .val (.int p2), .val (.int p3), .val (.int p4), .val (.int p5), .val (.int (2 : Int32)), .val (.int v0), .val (.int v1), .val (.int v2), .val (.ref la), .val (.ref a), .val .null, .unset, .unset, .unset, .unset, .unset] [(.ref la)])) (fun t k => XS.aload X35.here hx rfl (hb hby at_118) rfl rfl k) ?_
        refine Goes.pre (U' := T35.setTop (mkF m 121 #[.val (.int p1), .val (.int p2), .val (.int p3), .val (.int p4), .val (.int p5), .val (.int (2 : Int32)), .val (.int v0), .val (.int v1), .val (.int v2), .val (.ref la), .val (.ref a), .val .null, .unset, .unset, .unset, .unset, .unset] [(.int (0 : Int32)), (.ref la)])) (fun t k => XS.iconst X35.here hx rfl (hb hby at_120) k) ?_
        obtain ⟨cl37, Ar37, q37, Sz37, Ng37, Hs37, Ft37⟩ := id V_la
        have hin37 := inb_of (j := (0 : Int32)) Sz37 ⟨by decide, by decide⟩
        refine Goes.pre (U' := T35.setTop (mkF m 122 #[.val (.int p1), .val (.int p2), .val (.int p3), .val (.int p4), .val (.int p5), .val (.int (2 : Int32)), .val (.int v0), .val (.int v1), .val (.int v2), .val (.ref la), .val (.ref a), .val .null, .unset, .unset, .unset, .unset, .unset] [(.int v0)])) (fun t k => X35.baloadBytes hx (j := (0 : Int32)) (v := (.int v0)) Ar37.1 (State.isArrayOf_alike hZ.alike Ar37.2.1) Ar37.2.2 hin37 (Has.at Hs37 hin37 rfl) (g := (mkF m 121 #[.val (.int p1), .val (.int p2), .val (.int p3), .val (.int p4), .val (.int p5), .val (.int (2 : Int32)), .val (.int v0), .val (.int v1), .val (.int v2), .val (.ref la), .val (.ref a), .val .null, .unset, .unset, .unset, .unset, .unset] [(.int (0 : Int32)), (.ref la)])) rfl rfl (hb hby at_121) _ k) ?_
        refine Goes.pre (U' := T35.setTop (mkF m 124 #[.val (.int p1), .val (.int p2), .val (.int p3), .val (.int p4), .val (.int p5), .val (.int (2 : Int32)), .val (.int v0), .val (.int v1), .val (.int v2), .val (.ref la), .val (.ref a), .val .null, .unset, .unset, .unset, .unset, .unset] [(.int v0), (.int v0)])) (fun t k => XS.iload X35.here hx rfl (hb hby at_122) rfl k) ?_
        have hc124 : v0 = v0 := rfl
        refine Goes.pre (U' := T35.setTop (mkF m 127 #[.val (.int p1), .val (.int p2), .val (.int p3), .val (.int p4), .val (.int p5), .val (.int (2 : Int32)), .val (.int v0), .val (.int v1), .val (.int v2), .val (.ref la), .val (.ref a), .val .null, .unset, .unset, .unset, .unset, .unset] [])) (fun t k => XS.icmpNo X35.here hx rfl (hb hby at_124) rfl (teq hc124).2 k) ?_
        refine Goes.pre (U' := T35.setTop (mkF m 129 #[.val (.int p1), .val (.int p2), .val (.int p3), .val (.int p4), .val (.int p5), .val (.int (2 : Int32)), .val (.int v0), .val (.int v1), .val (.int v2), .val (.ref la), .val (.ref a), .val .null, .unset, .unset, .unset, .unset, .unset] [(.int (2 : Int32))])) (fun t k => XS.iload X35.here hx rfl (hb hby at_127) rfl k) ?_
        refine Goes.pre (U' := T35.setTop (mkF m 130 #[.val (.int p1), .val (.int p2), .val (.int p3), .val (.int p4), .val (.int p5), .val (.int (2 : Int32)), .val (.int v0), .val (.int v1), .val (.int v2), .val (.ref la), .val (.ref a), .val .null, .unset, .unset, .unset, .unset, .unset] [(.int (2 : Int32)), (.int (2 : Int32))])) (fun t k => XS.iconst X35.here hx rfl (hb hby at_129) k) ?_
        have hc130 : ¬ ((2 : Int32) < (2 : Int32)) := by decide
        refine Goes.pre (U' := T35.setTop (mkF m 133 #[.val (.int p1), .val (.int p2), .val (.int p3), .val (.int p4), .val (.int p5), .val (.int (2 : Int32)), .val (.int v0), .val (.int v1), .val (.int v2), .val (.ref la), .val (.ref a), .val .null, .unset, .unset, .unset, .unset, .unset] [])) (fun t k => XS.icmpNo X35.here hx rfl (hb hby at_130) rfl (flt hc130).1 k) ?_
        refine Goes.pre (U' := T35.setTop (mkF m 135 #[.val (.int p1), .val (.int p2), .val (.int p3), .val (.int p4), .val (.int p5), .val (.int (2 : Int32)), .val (.int v0), .val (.int v1), .val (.int v2), .val (.ref la), .val (.ref a), .val .null, .unset, .unset, .unset, .unset, .unset] [(.ref la)])) (fun t k => XS.aload X35.here hx rfl (hb hby at_133) rfl rfl k) ?_
        refine Goes.pre (U' := T35.setTop (mkF m 136 #[.val (.int p1), .val (.int p2), .val (.int p3), .val (.int p4), .val (.int p5), .val (.int (2 : Int32)), .val (.int v0), .val (.int v1), .val (.int v2), .val (.ref la), .val (.ref a), .val .null, .unset, .unset, .unset, .unset, .unset] [(.int (1 : Int32)), (.ref la)])) (fun t k => XS.iconst X35.here hx rfl (hb hby at_135) k) ?_
        obtain ⟨cl38, Ar38, q38, Sz38, Ng38, Hs38, Ft38⟩ := id V_la
        have hin38 := inb_of (j := (1 : Int32)) Sz38 ⟨by decide, by decide⟩
        refine Goes.pre (U' := T35.setTop (mkF m 137 #[.val (.int p1), .val (.int p2), .val (.int p3), .val (.int p4), .val (.int p5), .val (.int (2 : Int32)), .val (.int v0), .val (.int v1), .val (.int v2), .val (.ref la), .val (.ref a), .val .null, .unset, .unset, .unset, .unset, .unset] [(.int v1)])) (fun t k => X35.baloadBytes hx (j := (1 : Int32)) (v := (.int v1)) Ar38.1 (State.isArrayOf_alike hZ.alike Ar38.2.1) Ar38.2.2 hin38 (Has.at Hs38 hin38 rfl) (g := (mkF m 136 #[.val (.int p1), .val (.int p2), .val (.int p3), .val (.int p4), .val (.int p5), .val (.int (2 : Int32)), .val (.int v0), .val (.int v1), .val (.int v2), .val (.ref la), .val (.ref a), .val .null, .unset, .unset, .unset, .unset, .unset] [(.int (1 : Int32)), (.ref la)])) rfl rfl (hb hby at_136) _ k) ?_
        refine Goes.pre (U' := T35.setTop (mkF m 139 #[.val (.int p1), .val (.int p2), .val (.int p3), .val (.int p4), .val (.int p5), .val (.int (2 : Int32)), .val (.int v0), .val (.int v1), .val (.int v2), .val (.ref la), .val (.ref a), .val .null, .unset, .unset, .unset, .unset, .unset] [(.int v1), (.int v1)])) (fun t k => XS.iload X35.here hx rfl (hb hby at_137) rfl k) ?_
        have hc139 : v1 = v1 := rfl
        refine Goes.pre (U' := T35.setTop (mkF m 142 #[.val (.int p1), .val (.int p2), .val (.int p3), .val (.int p4), .val (.int p5), .val (.int (2 : Int32)), .val (.int v0), .val (.int v1), .val (.int v2), .val (.ref la), .val (.ref a), .val .null, .unset, .unset, .unset, .unset, .unset] [])) (fun t k => XS.icmpNo X35.here hx rfl (hb hby at_139) rfl (teq hc139).2 k) ?_
        refine Goes.pre (U' := T35.setTop (mkF m 144 #[.val (.int p1), .val (.int p2), .val (.int p3), .val (.int p4), .val (.int p5), .val (.int (2 : Int32)), .val (.int v0), .val (.int v1), .val (.int v2), .val (.ref la), .val (.ref a), .val .null, .unset, .unset, .unset, .unset, .unset] [(.int (2 : Int32))])) (fun t k => XS.iload X35.here hx rfl (hb hby at_142) rfl k) ?_
        refine Goes.pre (U' := T35.setTop (mkF m 145 #[.val (.int p1), .val (.int p2), .val (.int p3), .val (.int p4), .val (.int p5), .val (.int (2 : Int32)), .val (.int v0), .val (.int v1), .val (.int v2), .val (.ref la), .val (.ref a), .val .null, .unset, .unset, .unset, .unset, .unset] [(.int (3 : Int32)), (.int (2 : Int32))])) (fun t k => XS.iconst X35.here hx rfl (hb hby at_144) k) ?_
        have hc145 : (2 : Int32) < (3 : Int32) := by decide
        refine Goes.pre (U' := T35.setTop (mkF m 157 #[.val (.int p1), .val (.int p2), .val (.int p3), .val (.int p4), .val (.int p5), .val (.int (2 : Int32)), .val (.int v0), .val (.int v1), .val (.int v2), .val (.ref la), .val (.ref a), .val .null, .unset, .unset, .unset, .unset, .unset] [])) (fun t k => XS.icmpYes X35.here hx rfl (pc0 := 145) (pc' := 157) rfl (hb hby at_145) rfl (tlt hc145).1 (by decide) (by decide) k) ?_
        refine Goes.pre (U' := T35.setTop (mkF m 158 #[.val (.int p1), .val (.int p2), .val (.int p3), .val (.int p4), .val (.int p5), .val (.int (2 : Int32)), .val (.int v0), .val (.int v1), .val (.int v2), .val (.ref la), .val (.ref a), .val .null, .unset, .unset, .unset, .unset, .unset] [(.int (1 : Int32))])) (fun t k => XS.iconst X35.here hx rfl (hb hby at_157) k) ?_
        refine Goes.pre (U' := T35.setTop (mkF m 162 #[.val (.int p1), .val (.int p2), .val (.int p3), .val (.int p4), .val (.int p5), .val (.int (2 : Int32)), .val (.int v0), .val (.int v1), .val (.int v2), .val (.ref la), .val (.ref a), .val .null, .unset, .unset, .unset, .unset, .unset] [(.int (1 : Int32))])) (fun t k => XS.goto X35.here hx rfl (pc0 := 158) (pc' := 162) rfl (hb hby at_158) (by decide) (by decide) k) ?_
        refine Goes.pre (U' := T35.setTop (mkF m 164 #[.val (.int p1), .val (.int p2), .val (.int p3), .val (.int p4), .val (.int p5), .val (.int (2 : Int32)), .val (.int v0), .val (.int v1), .val (.int v2), .val (.ref la), .val (.ref a), .val .null, .val (.int (1 : Int32)), .unset, .unset, .unset, .unset] [])) (fun t k => XS.istore X35.here hx rfl (hb hby at_162) rfl (l' := #[.val (.int p1), .val (.int p2), .val (.int p3), .val (.int p4), .val (.int p5), .val (.int (2 : Int32)), .val (.int v0), .val (.int v1), .val (.int v2), .val (.ref la), .val (.ref a), .val .null, .val (.int (1 : Int32)), .unset, .unset, .unset, .unset]) rfl k) ?_
        refine Goes.pre (U' := T35.setTop (mkF m 166 #[.val (.int p1), .val (.int p2), .val (.int p3), .val (.int p4), .val (.int p5), .val (.int (2 : Int32)), .val (.int v0), .val (.int v1), .val (.int v2), .val (.ref la), .val (.ref a), .val .null, .val (.int (1 : Int32)), .unset, .unset, .unset, .unset] [(.int (2 : Int32))])) (fun t k => XS.iload X35.here hx rfl (hb hby at_164) rfl k) ?_
        refine Goes.pre (U' := T35.setTop (mkF m 167 #[.val (.int p1), .val (.int p2), .val (.int p3), .val (.int p4), .val (.int p5), .val (.int (2 : Int32)), .val (.int v0), .val (.int v1), .val (.int v2), .val (.ref la), .val (.ref a), .val .null, .val (.int (1 : Int32)), .unset, .unset, .unset, .unset] [(.int (3 : Int32)), (.int (2 : Int32))])) (fun t k => XS.iconst X35.here hx rfl (hb hby at_166) k) ?_
        have hc167 : (2 : Int32) < (3 : Int32) := by decide
        refine Goes.pre (U' := T35.setTop (mkF m 182 #[.val (.int p1), .val (.int p2), .val (.int p3), .val (.int p4), .val (.int p5), .val (.int (2 : Int32)), .val (.int v0), .val (.int v1), .val (.int v2), .val (.ref la), .val (.ref a), .val .null, .val (.int (1 : Int32)), .unset, .unset, .unset, .unset] [])) (fun t k => XS.icmpYes X35.here hx rfl (pc0 := 167) (pc' := 182) rfl (hb hby at_167) rfl (tlt hc167).1 (by decide) (by decide) k) ?_
        refine Goes.pre (U' := T35.setTop (mkF m 184 #[.val (.int p1), .val (.int p2), .val (.int p3), .val (.int p4), .val (.int p5), .val (.int (2 : Int32)), .val (.int v0), .val (.int v1), .val (.int v2), .val (.ref la), .val (.ref a), .val .null, .val (.int (1 : Int32)), .unset, .unset, .unset, .unset] [(.int (2 : Int32))])) (fun t k => XS.iload X35.here hx rfl (hb hby at_182) rfl k) ?_
        refine Goes.pre (U' := T35.setTop (mkF m 185 #[.val (.int p1), .val (.int p2), .val (.int p3), .val (.int p4), .val (.int p5), .val (.int (2 : Int32)), .val (.int v0), .val (.int v1), .val (.int v2), .val (.ref la), .val (.ref a), .val .null, .val (.int (1 : Int32)), .unset, .unset, .unset, .unset] [(.int (2 : Int32)), (.int (2 : Int32))])) (fun t k => XS.iconst X35.here hx rfl (hb hby at_184) k) ?_
        have hc185 : ¬ ((2 : Int32) < (2 : Int32)) := by decide
        refine Goes.pre (U' := T35.setTop (mkF m 188 #[.val (.int p1), .val (.int p2), .val (.int p3), .val (.int p4), .val (.int p5), .val (.int (2 : Int32)), .val (.int v0), .val (.int v1), .val (.int v2), .val (.ref la), .val (.ref a), .val .null, .val (.int (1 : Int32)), .unset, .unset, .unset, .unset] [])) (fun t k => XS.icmpNo X35.here hx rfl (hb hby at_185) rfl (flt hc185).1 k) ?_
        refine Goes.pre (U' := T35.setTop (mkF m 190 #[.val (.int p1), .val (.int p2), .val (.int p3), .val (.int p4), .val (.int p5), .val (.int (2 : Int32)), .val (.int v0), .val (.int v1), .val (.int v2), .val (.ref la), .val (.ref a), .val .null, .val (.int (1 : Int32)), .unset, .unset, .unset, .unset] [(.int v1)])) (fun t k => XS.iload X35.here hx rfl (hb hby at_188) rfl k) ?_
        refine Goes.pre (U' := T35.setTop (mkF m 191 #[.val (.int p1), .val (.int p2), .val (.int p3), .val (.int p4), .val (.int p5), .val (.int (2 : Int32)), .val (.int v0), .val (.int v1), .val (.int v2), .val (.ref la), .val (.ref a), .val .null, .val (.int (1 : Int32)), .unset, .unset, .unset, .unset] [(.int (-1 : Int32)), (.int v1)])) (fun t k => XS.iconst X35.here hx rfl (hb hby at_190) k) ?_
        have hc191 : v1 = (-1 : Int32) := hq1
        refine Goes.pre (U' := T35.setTop (mkF m 200 #[.val (.int p1), .val (.int p2), .val (.int p3), .val (.int p4), .val (.int p5), .val (.int (2 : Int32)), .val (.int v0), .val (.int v1), .val (.int v2), .val (.ref la), .val (.ref a), .val .null, .val (.int (1 : Int32)), .unset, .unset, .unset, .unset] [])) (fun t k => XS.icmpYes X35.here hx rfl (pc0 := 191) (pc' := 200) rfl (hb hby at_191) rfl (teq hc191).1 (by decide) (by decide) k) ?_
        refine Goes.pre (U' := T35.setTop (mkF m 202 #[.val (.int p1), .val (.int p2), .val (.int p3), .val (.int p4), .val (.int p5), .val (.int (2 : Int32)), .val (.int v0), .val (.int v1), .val (.int v2), .val (.ref la), .val (.ref a), .val .null, .val (.int (1 : Int32)), .unset, .unset, .unset, .unset] [(.int (2 : Int32))])) (fun t k => XS.iload X35.here hx rfl (hb hby at_200) rfl k) ?_
        refine Goes.pre (U' := T35.setTop (mkF m 203 #[.val (.int p1), .val (.int p2), .val (.int p3), .val (.int p4), .val (.int p5), .val (.int (2 : Int32)), .val (.int v0), .val (.int v1), .val (.int v2), .val (.ref la), .val (.ref a), .val .null, .val (.int (1 : Int32)), .unset, .unset, .unset, .unset] [(.int (1 : Int32)), (.int (2 : Int32))])) (fun t k => XS.iconst X35.here hx rfl (hb hby at_202) k) ?_
        have hc203 : ¬ ((2 : Int32) < (1 : Int32)) := by decide
        refine Goes.pre (U' := T35.setTop (mkF m 206 #[.val (.int p1), .val (.int p2), .val (.int p3), .val (.int p4), .val (.int p5), .val (.int (2 : Int32)), .val (.int v0), .val (.int v1), .val (.int v2), .val (.ref la), .val (.ref a), .val .null, .val (.int (1 : Int32)), .unset, .unset, .unset, .unset] [])) (fun t k => XS.icmpNo X35.here hx rfl (hb hby at_203) rfl (flt hc203).1 k) ?_
        refine Goes.pre (U' := T35.setTop (mkF m 208 #[.val (.int p1), .val (.int p2), .val (.int p3), .val (.int p4), .val (.int p5), .val (.int (2 : Int32)), .val (.int v0), .val (.int v1), .val (.int v2), .val (.ref la), .val (.ref a), .val .null, .val (.int (1 : Int32)), .unset, .unset, .unset, .unset] [(.int v0)])) (fun t k => XS.iload X35.here hx rfl (hb hby at_206) rfl k) ?_
        refine Goes.pre (U' := T35.setTop (mkF m 209 #[.val (.int p1), .val (.int p2), .val (.int p3), .val (.int p4), .val (.int p5), .val (.int (2 : Int32)), .val (.int v0), .val (.int v1), .val (.int v2), .val (.ref la), .val (.ref a), .val .null, .val (.int (1 : Int32)), .unset, .unset, .unset, .unset] [(.int (-1 : Int32)), (.int v0)])) (fun t k => XS.iconst X35.here hx rfl (hb hby at_208) k) ?_
        have hc209 : v0 = (-1 : Int32) := hq0
        refine Goes.pre (U' := T35.setTop (mkF m 218 #[.val (.int p1), .val (.int p2), .val (.int p3), .val (.int p4), .val (.int p5), .val (.int (2 : Int32)), .val (.int v0), .val (.int v1), .val (.int v2), .val (.ref la), .val (.ref a), .val .null, .val (.int (1 : Int32)), .unset, .unset, .unset, .unset] [])) (fun t k => XS.icmpYes X35.here hx rfl (pc0 := 209) (pc' := 218) rfl (hb hby at_209) rfl (teq hc209).1 (by decide) (by decide) k) ?_
        refine Goes.pre (U' := T35.setTop (mkF m 219 #[.val (.int p1), .val (.int p2), .val (.int p3), .val (.int p4), .val (.int p5), .val (.int (2 : Int32)), .val (.int v0), .val (.int v1), .val (.int v2), .val (.ref la), .val (.ref a), .val .null, .val (.int (1 : Int32)), .unset, .unset, .unset, .unset] [(.int (0 : Int32))])) (fun t k => XS.iconst X35.here hx rfl (hb hby at_218) k) ?_
        refine Goes.pre (U' := T35.setTop (mkF m 221 #[.val (.int p1), .val (.int p2), .val (.int p3), .val (.int p4), .val (.int p5), .val (.int (2 : Int32)), .val (.int v0), .val (.int v1), .val (.int v2), .val (.ref la), .val (.ref a), .val .null, .val (.int (1 : Int32)), .val (.int (0 : Int32)), .unset, .unset, .unset] [])) (fun t k => XS.istore X35.here hx rfl (hb hby at_219) rfl (l' := #[.val (.int p1), .val (.int p2), .val (.int p3), .val (.int p4), .val (.int p5), .val (.int (2 : Int32)), .val (.int v0), .val (.int v1), .val (.int v2), .val (.ref la), .val (.ref a), .val .null, .val (.int (1 : Int32)), .val (.int (0 : Int32)), .unset, .unset, .unset]) rfl k) ?_
        refine Goes.pre (U' := T35.setTop (mkF m 223 #[.val (.int p1), .val (.int p2), .val (.int p3), .val (.int p4), .val (.int p5), .val (.int (2 : Int32)), .val (.int v0), .val (.int v1), .val (.int v2), .val (.ref la), .val (.ref a), .val .null, .val (.int (1 : Int32)), .val (.int (0 : Int32)), .unset, .unset, .unset] [(.int (0 : Int32))])) (fun t k => XS.iload X35.here hx rfl (hb hby at_221) rfl k) ?_
        have hc223 : (0 : Int32) = (0 : Int32) := rfl
        refine Goes.pre (U' := T35.setTop (mkF m 226 #[.val (.int p1), .val (.int p2), .val (.int p3), .val (.int p4), .val (.int p5), .val (.int (2 : Int32)), .val (.int v0), .val (.int v1), .val (.int v2), .val (.ref la), .val (.ref a), .val .null, .val (.int (1 : Int32)), .val (.int (0 : Int32)), .unset, .unset, .unset] [])) (fun t k => XS.ifNo X35.here hx rfl (hb hby at_223) rfl ((if0 _ _).trans (teq hc223).2) k) ?_
        refine Goes.pre (U' := T35.setTop (mkF m 228 #[.val (.int p1), .val (.int p2), .val (.int p3), .val (.int p4), .val (.int p5), .val (.int (2 : Int32)), .val (.int v0), .val (.int v1), .val (.int v2), .val (.ref la), .val (.ref a), .val .null, .val (.int (1 : Int32)), .val (.int (0 : Int32)), .unset, .unset, .unset] [(.int (1 : Int32))])) (fun t k => XS.iload X35.here hx rfl (hb hby at_226) rfl k) ?_
        have hc228 : ¬ ((1 : Int32) = (0 : Int32)) := by decide
        refine Goes.pre (U' := T35.setTop (mkF m 231 #[.val (.int p1), .val (.int p2), .val (.int p3), .val (.int p4), .val (.int p5), .val (.int (2 : Int32)), .val (.int v0), .val (.int v1), .val (.int v2), .val (.ref la), .val (.ref a), .val .null, .val (.int (1 : Int32)), .val (.int (0 : Int32)), .unset, .unset, .unset] [])) (fun t k => XS.ifNo X35.here hx rfl (hb hby at_228) rfl ((if0 _ _).trans (feq hc228).1) k) ?_
        refine Goes.pre (U' := T35.setTop (mkF m 233 #[.val (.int p1), .val (.int p2), .val (.int p3), .val (.int p4), .val (.int p5), .val (.int (2 : Int32)), .val (.int v0), .val (.int v1), .val (.int v2), .val (.ref la), .val (.ref a), .val .null, .val (.int (1 : Int32)), .val (.int (0 : Int32)), .unset, .unset, .unset] [.null])) (fun t k => XS.aload X35.here hx rfl (hb hby at_231) rfl rfl k) ?_
        refine Goes.pre (U' := T35.setTop (mkF m 236 #[.val (.int p1), .val (.int p2), .val (.int p3), .val (.int p4), .val (.int p5), .val (.int (2 : Int32)), .val (.int v0), .val (.int v1), .val (.int v2), .val (.ref la), .val (.ref a), .val .null, .val (.int (1 : Int32)), .val (.int (0 : Int32)), .unset, .unset, .unset] [])) (fun t k => XS.ifnonnullNo X35.here hx rfl (hb hby at_233) rfl k) ?_
        refine Goes.pre (U' := T35.setTop (mkF m 237 #[.val (.int p1), .val (.int p2), .val (.int p3), .val (.int p4), .val (.int p5), .val (.int (2 : Int32)), .val (.int v0), .val (.int v1), .val (.int v2), .val (.ref la), .val (.ref a), .val .null, .val (.int (1 : Int32)), .val (.int (0 : Int32)), .unset, .unset, .unset] [(.int (1 : Int32))])) (fun t k => XS.iconst X35.here hx rfl (hb hby at_236) k) ?_
        refine Goes.pre (U' := T35.setTop (mkF m 241 #[.val (.int p1), .val (.int p2), .val (.int p3), .val (.int p4), .val (.int p5), .val (.int (2 : Int32)), .val (.int v0), .val (.int v1), .val (.int v2), .val (.ref la), .val (.ref a), .val .null, .val (.int (1 : Int32)), .val (.int (0 : Int32)), .unset, .unset, .unset] [(.int (1 : Int32))])) (fun t k => XS.goto X35.here hx rfl (pc0 := 237) (pc' := 241) rfl (hb hby at_237) (by decide) (by decide) k) ?_
        refine Goes.ret X35 (v := (some (.int (1 : Int32)))) (fun h => by rw [Bd.returns] at h; cases h) Bd.notSynchronized (by decide) (by decide) rfl (fun fs hr => retN X35 hx (t := .boolean) Bd.returns (by simp) (hb hby at_241) hr) ?_
        exact ⟨rfl, N35⟩
      ·
        have hk := hq0
        refine Goes.pre (U' := T33.setTop (mkF m 107 #[.val (.int p1), .val (.int p2), .val (.int p3), .val (.int p4), .val (.int p5), .val (.int (2 : Int32)), .val (.int v0), .val (.int v1), .val (.int v2), .val (.ref la), .val (.ref a), .unset, .unset, .unset, .unset, .unset, .unset] [(.ref a)])) (fun t k => XS.aload X33.here hx rfl (hb hby at_105) rfl rfl k) ?_
        have lt_a := E_a.lt
        have lt_fa := E_fa.lt
        have lt_la := E_la.lt
        obtain ⟨cq39, kq39, q39a, q39b, q39c⟩ := isOf hZ rfl E_a
        obtain ⟨_, _, ⟨T39, L39, k39, n39⟩, -, X39, ⟨Lc39, hQ39, l39, y39, z39⟩, st39⟩ := X33.virtualBack hx (y := (⟨"com/example/known_paths/knownpaths/key/KeyRange", "end", "()[B"⟩ : MethodName)) (z := (⟨"com/example/known_paths/knownpaths/key/KeyRange", "end", "()[B"⟩ : MethodName)) hown (mvT hZ (hw _ (List.mem_of_getElem? (i := 19) rfl))) (mvT hZ (hw _ (List.mem_of_getElem? (i := 20) rfl))) (notFace_of_selects (args := #[]) (mvT hZ (hw _ (List.mem_of_getElem? (i := 22) rfl)))) (mvT hZ (hw _ (List.mem_of_getElem? (i := 22) rfl))) (mvT hZ (hw _ (List.mem_of_getElem? (i := 21) rfl))) (by decide) (backOf (W := 0) (rm_end21 l Z a0 hw [] a la k28 v0 v1 T33.heap n0 Z34 F_last_a E_la V_la hq1 hk) hZ (hw _ (List.mem_of_getElem? (i := 23) rfl)) (hw _ (List.mem_of_getElem? (i := 3) rfl)) (by decide) (by decide)) q39a q39c (g := (mkF m 107 #[.val (.int p1), .val (.int p2), .val (.int p3), .val (.int p4), .val (.int p5), .val (.int (2 : Int32)), .val (.int v0), .val (.int v1), .val (.int v2), .val (.ref la), .val (.ref a), .unset, .unset, .unset, .unset, .unset, .unset] [(.ref a)])) rfl (by rw [hml]; rfl) (Steps.refl _) (argsL := []) (rest := []) (lenOf pd__28_29_5bB rfl) rfl (by show 2 * 0 + _ ≤ _; exact Nat.le_of_eq rfl) (hb hby at_107) (fun _ _ => ⟨rfl, rfl, (by decide : 3 + 1 ≤ _), (by decide : 4 + 1 ≤ _)⟩)
        dsimp only [Pt.U, Pt.locs, Pt.cells, Pt.slots] at X39 l39 y39 z39 st39 hQ39
        subst l39 y39 z39
        obtain ⟨r, kr, rfl, N39q, KQ39, V_r, g_r, sz_r0⟩ := hQ39
        have N39 := Fr.app N33 N39q
        have E_la := E_la.keep KQ39
        have V_la := V_la.keep KQ39 nin0
        have E_a := E_a.keep KQ39
        have E_fa := E_fa.keep KQ39
        have V_fa := V_fa.keep KQ39 nin0
        have F_last_a := F_last_a.keep KQ39 nin0
        have Z40 : n0 ≤ T39.heap.size := Nat.le_trans Z34 KQ39.1
        have ne_a_r : a ≠ r := Nat.ne_of_lt (Nat.lt_of_lt_of_le lt_a sz_r0)
        have ne_r_a := ne_a_r.symm
        have ne_fa_r : fa ≠ r := Nat.ne_of_lt (Nat.lt_of_lt_of_le lt_fa sz_r0)
        have ne_r_fa := ne_fa_r.symm
        have ne_la_r : la ≠ r := Nat.ne_of_lt (Nat.lt_of_lt_of_le lt_la sz_r0)
        have ne_r_la := ne_la_r.symm
        refine Goes.pre (U' := T39.setTop (mkF m 110 #[.val (.int p1), .val (.int p2), .val (.int p3), .val (.int p4), .val (.int p5), .val (.int (2 : Int32)), .val (.int v0), .val (.int v1), .val (.int v2), .val (.ref la), .val (.ref a), .unset, .unset, .unset, .unset, .unset, .unset] [(.ref r)])) (fun t k => st39.trans k) ?_
        refine Goes.pre (U' := T39.setTop (mkF m 112 #[.val (.int p1), .val (.int p2), .val (.int p3), .val (.int p4), .val (.int p5), .val (.int (2 : Int32)), .val (.int v0), .val (.int v1), .val (.int v2), .val (.ref la), .val (.ref a), .val (.ref r), .unset, .unset, .unset, .unset, .unset] [])) (fun t k => XS.astore X39.here hx rfl (hb hby at_110) rfl rfl (l' := #[.val (.int p1), .val (.int p2), .val (.int p3), .val (.int p4), .val (.int p5), .val (.int (2 : Int32)), .val (.int v0), .val (.int v1), .val (.int v2), .val (.ref la), .val (.ref a), .val (.ref r), .unset, .unset, .unset, .unset, .unset]) rfl k) ?_
        refine Goes.pre (U' := T39.setTop (mkF m 114 #[.val (.int p1), .val (.int p2), .val (.int p3), .val (.int p4), .val (.int p5), .val (.int (2 : Int32)), .val (.int v0), .val (.int v1), .val (.int v2), .val (.ref la), .val (.ref a), .val (.ref r), .unset, .unset, .unset, .unset, .unset] [(.int (2 : Int32))])) (fun t k => XS.iload X39.here hx rfl (hb hby at_112) rfl k) ?_
        refine Goes.pre (U' := T39.setTop (mkF m 115 #[.val (.int p1), .val (.int p2), .val (.int p3), .val (.int p4), .val (.int p5), .val (.int (2 : Int32)), .val (.int v0), .val (.int v1), .val (.int v2), .val (.ref la), .val (.ref a), .val (.ref r), .unset, .unset, .unset, .unset, .unset] [(.int (1 : Int32)), (.int (2 : Int32))])) (fun t k => XS.iconst X39.here hx rfl (hb hby at_114) k) ?_
        have hc115 : ¬ ((2 : Int32) < (1 : Int32)) := by decide
        refine Goes.pre (U' := T39.setTop (mkF m 118 #[.val (.int p1), .val (.int p2), .val (.int p3), .val (.int p4), .val (.int p5), .val (.int (2 : Int32)), .val (.int v0), .val (.int v1), .val (.int v2), .val (.ref la), .val (.ref a), .val (.ref r), .unset, .unset, .unset, .unset, .unset] [])) (fun t k => XS.icmpNo X39.here hx rfl (hb hby at_115) rfl (flt hc115).1 k) ?_
        refine Goes.pre (U' := T39.setTop (mkF m 120 #[.val (.int p1), .val (.int p2), .val (.int p3), .val (.int p4), .val (.int p5), .val (.int (2 : Int32)), .val (.int v0), .val (.int v1), .val (.int v2), .val (.ref la), .val (.ref a), .val (.ref r), .unset, .unset, .unset, .unset, .unset] [(.ref la)])) (fun t k => XS.aload X39.here hx rfl (hb hby at_118) rfl rfl k) ?_
        refine Goes.pre (U' := T39.setTop (mkF m 121 #[.val (.int p1), .val (.int p2), .val (.int p3), .val (.int p4), .val (.int p5), .val (.int (2 : Int32)), .val (.int v0), .val (.int v1), .val (.int v2), .val (.ref la), .val (.ref a), .val (.ref r), .unset, .unset, .unset, .unset, .unset] [(.int (0 : Int32)), (.ref la)])) (fun t k => XS.iconst X39.here hx rfl (hb hby at_120) k) ?_
        obtain ⟨cl41, Ar41, q41, Sz41, Ng41, Hs41, Ft41⟩ := id V_la
        have hin41 := inb_of (j := (0 : Int32)) Sz41 ⟨by decide, by decide⟩
        refine Goes.pre (U' := T39.setTop (mkF m 122 #[.val (.int p1), .val (.int p2), .val (.int p3), .val (.int p4), .val (.int p5), .val (.int (2 : Int32)), .val (.int v0), .val (.int v1), .val (.int v2), .val (.ref la), .val (.ref a), .val (.ref r), .unset, .unset, .unset, .unset, .unset] [(.int v0)])) (fun t k => X39.baloadBytes hx (j := (0 : Int32)) (v := (.int v0)) Ar41.1 (State.isArrayOf_alike hZ.alike Ar41.2.1) Ar41.2.2 hin41 (Has.at Hs41 hin41 rfl) (g := (mkF m 121 #[.val (.int p1), .val (.int p2), .val (.int p3), .val (.int p4), .val (.int p5), .val (.int (2 : Int32)), .val (.int v0), .val (.int v1), .val (.int v2), .val (.ref la), .val (.ref a), .val (.ref r), .unset, .unset, .unset, .unset, .unset] [(.int (0 : Int32)), (.ref la)])) rfl rfl (hb hby at_121) _ k) ?_
        refine Goes.pre (U' := T39.setTop (mkF m 124 #[.val (.int p1), .val (.int p2), .val (.int p3), .val (.int p4), .val (.int p5), .val (.int (2 : Int32)), .val (.int v0), .val (.int v1), .val (.int v2), .val (.ref la), .val (.ref a), .val (.ref r), .unset, .unset, .unset, .unset, .unset] [(.int v0), (.int v0)])) (fun t k => XS.iload X39.here hx rfl (hb hby at_122) rfl k) ?_
        have hc124 : v0 = v0 := rfl
        refine Goes.pre (U' := T39.setTop (mkF m 127 #[.val (.int p1), .val (.int p2), .val (.int p3), .val (.int p4), .val (.int p5), .val (.int (2 : Int32)), .val (.int v0), .val (.int v1), .val (.int v2), .val (.ref la), .val (.ref a), .val (.ref r), .unset, .unset, .unset, .unset, .unset] [])) (fun t k => XS.icmpNo X39.here hx rfl (hb hby at_124) rfl (teq hc124).2 k) ?_
        refine Goes.pre (U' := T39.setTop (mkF m 129 #[.val (.int p1), .val (.int p2), .val (.int p3), .val (.int p4), .val (.int p5), .val (.int (2 : Int32)), .val (.int v0), .val (.int v1), .val (.int v2), .val (.ref la), .val (.ref a), .val (.ref r), .unset, .unset, .unset, .unset, .unset] [(.int (2 : Int32))])) (fun t k => XS.iload X39.here hx rfl (hb hby at_127) rfl k) ?_
        refine Goes.pre (U' := T39.setTop (mkF m 130 #[.val (.int p1), .val (.int p2), .val (.int p3), .val (.int p4), .val (.int p5), .val (.int (2 : Int32)), .val (.int v0), .val (.int v1), .val (.int v2), .val (.ref la), .val (.ref a), .val (.ref r), .unset, .unset, .unset, .unset, .unset] [(.int (2 : Int32)), (.int (2 : Int32))])) (fun t k => XS.iconst X39.here hx rfl (hb hby at_129) k) ?_
        have hc130 : ¬ ((2 : Int32) < (2 : Int32)) := by decide
        refine Goes.pre (U' := T39.setTop (mkF m 133 #[.val (.int p1), .val (.int p2), .val (.int p3), .val (.int p4), .val (.int p5), .val (.int (2 : Int32)), .val (.int v0), .val (.int v1), .val (.int v2), .val (.ref la), .val (.ref a), .val (.ref r), .unset, .unset, .unset, .unset, .unset] [])) (fun t k => XS.icmpNo X39.here hx rfl (hb hby at_130) rfl (flt hc130).1 k) ?_
        refine Goes.pre (U' := T39.setTop (mkF m 135 #[.val (.int p1), .val (.int p2), .val (.int p3), .val (.int p4), .val (.int p5), .val (.int (2 : Int32)), .val (.int v0), .val (.int v1), .val (.int v2), .val (.ref la), .val (.ref a), .val (.ref r), .unset, .unset, .unset, .unset, .unset] [(.ref la)])) (fun t k => XS.aload X39.here hx rfl (hb hby at_133) rfl rfl k) ?_
        refine Goes.pre (U' := T39.setTop (mkF m 136 #[.val (.int p1), .val (.int p2), .val (.int p3), .val (.int p4), .val (.int p5), .val (.int (2 : Int32)), .val (.int v0), .val (.int v1), .val (.int v2), .val (.ref la), .val (.ref a), .val (.ref r), .unset, .unset, .unset, .unset, .unset] [(.int (1 : Int32)), (.ref la)])) (fun t k => XS.iconst X39.here hx rfl (hb hby at_135) k) ?_
        obtain ⟨cl42, Ar42, q42, Sz42, Ng42, Hs42, Ft42⟩ := id V_la
        have hin42 := inb_of (j := (1 : Int32)) Sz42 ⟨by decide, by decide⟩
        refine Goes.pre (U' := T39.setTop (mkF m 137 #[.val (.int p1), .val (.int p2), .val (.int p3), .val (.int p4), .val (.int p5), .val (.int (2 : Int32)), .val (.int v0), .val (.int v1), .val (.int v2), .val (.ref la), .val (.ref a), .val (.ref r), .unset, .unset, .unset, .unset, .unset] [(.int v1)])) (fun t k => X39.baloadBytes hx (j := (1 : Int32)) (v := (.int v1)) Ar42.1 (State.isArrayOf_alike hZ.alike Ar42.2.1) Ar42.2.2 hin42 (Has.at Hs42 hin42 rfl) (g := (mkF m 136 #[.val (.int p1), .val (.int p2), .val (.int p3), .val (.int p4), .val (.int p5), .val (.int (2 : Int32)), .val (.int v0), .val (.int v1), .val (.int v2), .val (.ref la), .val (.ref a), .val (.ref r), .unset, .unset, .unset, .unset, .unset] [(.int (1 : Int32)), (.ref la)])) rfl rfl (hb hby at_136) _ k) ?_
        refine Goes.pre (U' := T39.setTop (mkF m 139 #[.val (.int p1), .val (.int p2), .val (.int p3), .val (.int p4), .val (.int p5), .val (.int (2 : Int32)), .val (.int v0), .val (.int v1), .val (.int v2), .val (.ref la), .val (.ref a), .val (.ref r), .unset, .unset, .unset, .unset, .unset] [(.int v1), (.int v1)])) (fun t k => XS.iload X39.here hx rfl (hb hby at_137) rfl k) ?_
        have hc139 : v1 = v1 := rfl
        refine Goes.pre (U' := T39.setTop (mkF m 142 #[.val (.int p1), .val (.int p2), .val (.int p3), .val (.int p4), .val (.int p5), .val (.int (2 : Int32)), .val (.int v0), .val (.int v1), .val (.int v2), .val (.ref la), .val (.ref a), .val (.ref r), .unset, .unset, .unset, .unset, .unset] [])) (fun t k => XS.icmpNo X39.here hx rfl (hb hby at_139) rfl (teq hc139).2 k) ?_
        refine Goes.pre (U' := T39.setTop (mkF m 144 #[.val (.int p1), .val (.int p2), .val (.int p3), .val (.int p4), .val (.int p5), .val (.int (2 : Int32)), .val (.int v0), .val (.int v1), .val (.int v2), .val (.ref la), .val (.ref a), .val (.ref r), .unset, .unset, .unset, .unset, .unset] [(.int (2 : Int32))])) (fun t k => XS.iload X39.here hx rfl (hb hby at_142) rfl k) ?_
        refine Goes.pre (U' := T39.setTop (mkF m 145 #[.val (.int p1), .val (.int p2), .val (.int p3), .val (.int p4), .val (.int p5), .val (.int (2 : Int32)), .val (.int v0), .val (.int v1), .val (.int v2), .val (.ref la), .val (.ref a), .val (.ref r), .unset, .unset, .unset, .unset, .unset] [(.int (3 : Int32)), (.int (2 : Int32))])) (fun t k => XS.iconst X39.here hx rfl (hb hby at_144) k) ?_
        have hc145 : (2 : Int32) < (3 : Int32) := by decide
        refine Goes.pre (U' := T39.setTop (mkF m 157 #[.val (.int p1), .val (.int p2), .val (.int p3), .val (.int p4), .val (.int p5), .val (.int (2 : Int32)), .val (.int v0), .val (.int v1), .val (.int v2), .val (.ref la), .val (.ref a), .val (.ref r), .unset, .unset, .unset, .unset, .unset] [])) (fun t k => XS.icmpYes X39.here hx rfl (pc0 := 145) (pc' := 157) rfl (hb hby at_145) rfl (tlt hc145).1 (by decide) (by decide) k) ?_
        refine Goes.pre (U' := T39.setTop (mkF m 158 #[.val (.int p1), .val (.int p2), .val (.int p3), .val (.int p4), .val (.int p5), .val (.int (2 : Int32)), .val (.int v0), .val (.int v1), .val (.int v2), .val (.ref la), .val (.ref a), .val (.ref r), .unset, .unset, .unset, .unset, .unset] [(.int (1 : Int32))])) (fun t k => XS.iconst X39.here hx rfl (hb hby at_157) k) ?_
        refine Goes.pre (U' := T39.setTop (mkF m 162 #[.val (.int p1), .val (.int p2), .val (.int p3), .val (.int p4), .val (.int p5), .val (.int (2 : Int32)), .val (.int v0), .val (.int v1), .val (.int v2), .val (.ref la), .val (.ref a), .val (.ref r), .unset, .unset, .unset, .unset, .unset] [(.int (1 : Int32))])) (fun t k => XS.goto X39.here hx rfl (pc0 := 158) (pc' := 162) rfl (hb hby at_158) (by decide) (by decide) k) ?_
        refine Goes.pre (U' := T39.setTop (mkF m 164 #[.val (.int p1), .val (.int p2), .val (.int p3), .val (.int p4), .val (.int p5), .val (.int (2 : Int32)), .val (.int v0), .val (.int v1), .val (.int v2), .val (.ref la), .val (.ref a), .val (.ref r), .val (.int (1 : Int32)), .unset, .unset, .unset, .unset] [])) (fun t k => XS.istore X39.here hx rfl (hb hby at_162) rfl (l' := #[.val (.int p1), .val (.int p2), .val (.int p3), .val (.int p4), .val (.int p5), .val (.int (2 : Int32)), .val (.int v0), .val (.int v1), .val (.int v2), .val (.ref la), .val (.ref a), .val (.ref r), .val (.int (1 : Int32)), .unset, .unset, .unset, .unset]) rfl k) ?_
        refine Goes.pre (U' := T39.setTop (mkF m 166 #[.val (.int p1), .val (.int p2), .val (.int p3), .val (.int p4), .val (.int p5), .val (.int (2 : Int32)), .val (.int v0), .val (.int v1), .val (.int v2), .val (.ref la), .val (.ref a), .val (.ref r), .val (.int (1 : Int32)), .unset, .unset, .unset, .unset] [(.int (2 : Int32))])) (fun t k => XS.iload X39.here hx rfl (hb hby at_164) rfl k) ?_
        refine Goes.pre (U' := T39.setTop (mkF m 167 #[.val (.int p1), .val (.int p2), .val (.int p3), .val (.int p4), .val (.int p5), .val (.int (2 : Int32)), .val (.int v0), .val (.int v1), .val (.int v2), .val (.ref la), .val (.ref a), .val (.ref r), .val (.int (1 : Int32)), .unset, .unset, .unset, .unset] [(.int (3 : Int32)), (.int (2 : Int32))])) (fun t k => XS.iconst X39.here hx rfl (hb hby at_166) k) ?_
        have hc167 : (2 : Int32) < (3 : Int32) := by decide
        refine Goes.pre (U' := T39.setTop (mkF m 182 #[.val (.int p1), .val (.int p2), .val (.int p3), .val (.int p4), .val (.int p5), .val (.int (2 : Int32)), .val (.int v0), .val (.int v1), .val (.int v2), .val (.ref la), .val (.ref a), .val (.ref r), .val (.int (1 : Int32)), .unset, .unset, .unset, .unset] [])) (fun t k => XS.icmpYes X39.here hx rfl (pc0 := 167) (pc' := 182) rfl (hb hby at_167) rfl (tlt hc167).1 (by decide) (by decide) k) ?_
        refine Goes.pre (U' := T39.setTop (mkF m 184 #[.val (.int p1), .val (.int p2), .val (.int p3), .val (.int p4), .val (.int p5), .val (.int (2 : Int32)), .val (.int v0), .val (.int v1), .val (.int v2), .val (.ref la), .val (.ref a), .val (.ref r), .val (.int (1 : Int32)), .unset, .unset, .unset, .unset] [(.int (2 : Int32))])) (fun t k => XS.iload X39.here hx rfl (hb hby at_182) rfl k) ?_
        refine Goes.pre (U' := T39.setTop (mkF m 185 #[.val (.int p1), .val (.int p2), .val (.int p3), .val (.int p4), .val (.int p5), .val (.int (2 : Int32)), .val (.int v0), .val (.int v1), .val (.int v2), .val (.ref la), .val (.ref a), .val (.ref r), .val (.int (1 : Int32)), .unset, .unset, .unset, .unset] [(.int (2 : Int32)), (.int (2 : Int32))])) (fun t k => XS.iconst X39.here hx rfl (hb hby at_184) k) ?_
        have hc185 : ¬ ((2 : Int32) < (2 : Int32)) := by decide
        refine Goes.pre (U' := T39.setTop (mkF m 188 #[.val (.int p1), .val (.int p2), .val (.int p3), .val (.int p4), .val (.int p5), .val (.int (2 : Int32)), .val (.int v0), .val (.int v1), .val (.int v2), .val (.ref la), .val (.ref a), .val (.ref r), .val (.int (1 : Int32)), .unset, .unset, .unset, .unset] [])) (fun t k => XS.icmpNo X39.here hx rfl (hb hby at_185) rfl (flt hc185).1 k) ?_
        refine Goes.pre (U' := T39.setTop (mkF m 190 #[.val (.int p1), .val (.int p2), .val (.int p3), .val (.int p4), .val (.int p5), .val (.int (2 : Int32)), .val (.int v0), .val (.int v1), .val (.int v2), .val (.ref la), .val (.ref a), .val (.ref r), .val (.int (1 : Int32)), .unset, .unset, .unset, .unset] [(.int v1)])) (fun t k => XS.iload X39.here hx rfl (hb hby at_188) rfl k) ?_
        refine Goes.pre (U' := T39.setTop (mkF m 191 #[.val (.int p1), .val (.int p2), .val (.int p3), .val (.int p4), .val (.int p5), .val (.int (2 : Int32)), .val (.int v0), .val (.int v1), .val (.int v2), .val (.ref la), .val (.ref a), .val (.ref r), .val (.int (1 : Int32)), .unset, .unset, .unset, .unset] [(.int (-1 : Int32)), (.int v1)])) (fun t k => XS.iconst X39.here hx rfl (hb hby at_190) k) ?_
        have hc191 : v1 = (-1 : Int32) := hq1
        refine Goes.pre (U' := T39.setTop (mkF m 200 #[.val (.int p1), .val (.int p2), .val (.int p3), .val (.int p4), .val (.int p5), .val (.int (2 : Int32)), .val (.int v0), .val (.int v1), .val (.int v2), .val (.ref la), .val (.ref a), .val (.ref r), .val (.int (1 : Int32)), .unset, .unset, .unset, .unset] [])) (fun t k => XS.icmpYes X39.here hx rfl (pc0 := 191) (pc' := 200) rfl (hb hby at_191) rfl (teq hc191).1 (by decide) (by decide) k) ?_
        refine Goes.pre (U' := T39.setTop (mkF m 202 #[.val (.int p1), .val (.int p2), .val (.int p3), .val (.int p4), .val (.int p5), .val (.int (2 : Int32)), .val (.int v0), .val (.int v1), .val (.int v2), .val (.ref la), .val (.ref a), .val (.ref r), .val (.int (1 : Int32)), .unset, .unset, .unset, .unset] [(.int (2 : Int32))])) (fun t k => XS.iload X39.here hx rfl (hb hby at_200) rfl k) ?_
        refine Goes.pre (U' := T39.setTop (mkF m 203 #[.val (.int p1), .val (.int p2), .val (.int p3), .val (.int p4), .val (.int p5), .val (.int (2 : Int32)), .val (.int v0), .val (.int v1), .val (.int v2), .val (.ref la), .val (.ref a), .val (.ref r), .val (.int (1 : Int32)), .unset, .unset, .unset, .unset] [(.int (1 : Int32)), (.int (2 : Int32))])) (fun t k => XS.iconst X39.here hx rfl (hb hby at_202) k) ?_
        have hc203 : ¬ ((2 : Int32) < (1 : Int32)) := by decide
        refine Goes.pre (U' := T39.setTop (mkF m 206 #[.val (.int p1), .val (.int p2), .val (.int p3), .val (.int p4), .val (.int p5), .val (.int (2 : Int32)), .val (.int v0), .val (.int v1), .val (.int v2), .val (.ref la), .val (.ref a), .val (.ref r), .val (.int (1 : Int32)), .unset, .unset, .unset, .unset] [])) (fun t k => XS.icmpNo X39.here hx rfl (hb hby at_203) rfl (flt hc203).1 k) ?_
        refine Goes.pre (U' := T39.setTop (mkF m 208 #[.val (.int p1), .val (.int p2), .val (.int p3), .val (.int p4), .val (.int p5), .val (.int (2 : Int32)), .val (.int v0), .val (.int v1), .val (.int v2), .val (.ref la), .val (.ref a), .val (.ref r), .val (.int (1 : Int32)), .unset, .unset, .unset, .unset] [(.int v0)])) (fun t k => XS.iload X39.here hx rfl (hb hby at_206) rfl k) ?_
        refine Goes.pre (U' := T39.setTop (mkF m 209 #[.val (.int p1), .val (.int p2), .val (.int p3), .val (.int p4), .val (.int p5), .val (.int (2 : Int32)), .val (.int v0), .val (.int v1), .val (.int v2), .val (.ref la), .val (.ref a), .val (.ref r), .val (.int (1 : Int32)), .unset, .unset, .unset, .unset] [(.int (-1 : Int32)), (.int v0)])) (fun t k => XS.iconst X39.here hx rfl (hb hby at_208) k) ?_
        have hc209 : ¬ (v0 = (-1 : Int32)) := hq0
        refine Goes.pre (U' := T39.setTop (mkF m 212 #[.val (.int p1), .val (.int p2), .val (.int p3), .val (.int p4), .val (.int p5), .val (.int (2 : Int32)), .val (.int v0), .val (.int v1), .val (.int v2), .val (.ref la), .val (.ref a), .val (.ref r), .val (.int (1 : Int32)), .unset, .unset, .unset, .unset] [])) (fun t k => XS.icmpNo X39.here hx rfl (hb hby at_209) rfl (feq hc209).1 k) ?_
        refine Goes.pre (U' := T39.setTop (mkF m 213 #[.val (.int p1), .val (.int p2), .val (.int p3), .val (.int p4), .val (.int p5), .val (.int (2 : Int32)), .val (.int v0), .val (.int v1), .val (.int v2), .val (.ref la), .val (.ref a), .val (.ref r), .val (.int (1 : Int32)), .unset, .unset, .unset, .unset] [(.int (1 : Int32))])) (fun t k => XS.iconst X39.here hx rfl (hb hby at_212) k) ?_
        refine Goes.pre (U' := T39.setTop (mkF m 215 #[.val (.int p1), .val (.int p2), .val (.int p3), .val (.int p4), .val (.int p5), .val (.int (2 : Int32)), .val (.int v0), .val (.int v1), .val (.int v2), .val (.ref la), .val (.ref a), .val (.ref r), .val (.int (1 : Int32)), .val (.int (1 : Int32)), .unset, .unset, .unset] [])) (fun t k => XS.istore X39.here hx rfl (hb hby at_213) rfl (l' := #[.val (.int p1), .val (.int p2), .val (.int p3), .val (.int p4), .val (.int p5), .val (.int (2 : Int32)), .val (.int v0), .val (.int v1), .val (.int v2), .val (.ref la), .val (.ref a), .val (.ref r), .val (.int (1 : Int32)), .val (.int (1 : Int32)), .unset, .unset, .unset]) rfl k) ?_
        refine Goes.pre (U' := T39.setTop (mkF m 221 #[.val (.int p1), .val (.int p2), .val (.int p3), .val (.int p4), .val (.int p5), .val (.int (2 : Int32)), .val (.int v0), .val (.int v1), .val (.int v2), .val (.ref la), .val (.ref a), .val (.ref r), .val (.int (1 : Int32)), .val (.int (1 : Int32)), .unset, .unset, .unset] [])) (fun t k => XS.goto X39.here hx rfl (pc0 := 215) (pc' := 221) rfl (hb hby at_215) (by decide) (by decide) k) ?_
        refine Goes.pre (U' := T39.setTop (mkF m 223 #[.val (.int p1), .val (.int p2), .val (.int p3), .val (.int p4), .val (.int p5), .val (.int (2 : Int32)), .val (.int v0), .val (.int v1), .val (.int v2), .val (.ref la), .val (.ref a), .val (.ref r), .val (.int (1 : Int32)), .val (.int (1 : Int32)), .unset, .unset, .unset] [(.int (1 : Int32))])) (fun t k => XS.iload X39.here hx rfl (hb hby at_221) rfl k) ?_
        have hc223 : ¬ ((1 : Int32) = (0 : Int32)) := by decide
        refine Goes.pre (U' := T39.setTop (mkF m 242 #[.val (.int p1), .val (.int p2), .val (.int p3), .val (.int p4), .val (.int p5), .val (.int (2 : Int32)), .val (.int v0), .val (.int v1), .val (.int v2), .val (.ref la), .val (.ref a), .val (.ref r), .val (.int (1 : Int32)), .val (.int (1 : Int32)), .unset, .unset, .unset] [])) (fun t k => XS.ifYes X39.here hx rfl (pc0 := 223) (pc' := 242) rfl (hb hby at_223) rfl ((if0 _ _).trans (feq hc223).2) (by decide) (by decide) k) ?_
        refine Goes.pre (U' := T39.setTop (mkF m 244 #[.val (.int p1), .val (.int p2), .val (.int p3), .val (.int p4), .val (.int p5), .val (.int (2 : Int32)), .val (.int v0), .val (.int v1), .val (.int v2), .val (.ref la), .val (.ref a), .val (.ref r), .val (.int (1 : Int32)), .val (.int (1 : Int32)), .unset, .unset, .unset] [(.ref r)])) (fun t k => XS.aload X39.here hx rfl (hb hby at_242) rfl rfl k) ?_
        refine Goes.pre (U' := T39.setTop (mkF m 247 #[.val (.int p1), .val (.int p2), .val (.int p3), .val (.int p4), .val (.int p5), .val (.int (2 : Int32)), .val (.int v0), .val (.int v1), .val (.int v2), .val (.ref la), .val (.ref a), .val (.ref r), .val (.int (1 : Int32)), .val (.int (1 : Int32)), .unset, .unset, .unset] [])) (fun t k => XS.ifnullNo X39.here hx rfl (hb hby at_244) rfl k) ?_
        refine Goes.pre (U' := T39.setTop (mkF m 249 #[.val (.int p1), .val (.int p2), .val (.int p3), .val (.int p4), .val (.int p5), .val (.int (2 : Int32)), .val (.int v0), .val (.int v1), .val (.int v2), .val (.ref la), .val (.ref a), .val (.ref r), .val (.int (1 : Int32)), .val (.int (1 : Int32)), .unset, .unset, .unset] [(.ref r)])) (fun t k => XS.aload X39.here hx rfl (hb hby at_247) rfl rfl k) ?_
        obtain ⟨cl43, Ar43, q43, Sz43, Ng43, -, -⟩ := id V_r
        have ln43 := len_of Sz43 Ng43
        refine Goes.pre (U' := T39.setTop (mkF m 250 #[.val (.int p1), .val (.int p2), .val (.int p3), .val (.int p4), .val (.int p5), .val (.int (2 : Int32)), .val (.int v0), .val (.int v1), .val (.int v2), .val (.ref la), .val (.ref a), .val (.ref r), .val (.int (1 : Int32)), .val (.int (1 : Int32)), .unset, .unset, .unset] [(.int (1 : Int32))])) (fun t k => X39.arraylength hx Ar43.1 (State.isArrayOf_alike hZ.alike Ar43.2.1) (g := (mkF m 249 #[.val (.int p1), .val (.int p2), .val (.int p3), .val (.int p4), .val (.int p5), .val (.int (2 : Int32)), .val (.int v0), .val (.int v1), .val (.int v2), .val (.ref la), .val (.ref a), .val (.ref r), .val (.int (1 : Int32)), .val (.int (1 : Int32)), .unset, .unset, .unset] [(.ref r)])) rfl rfl (hb hby at_249) _ (by rw [ln43]; exact k)) ?_
        refine Goes.pre (U' := T39.setTop (mkF m 252 #[.val (.int p1), .val (.int p2), .val (.int p3), .val (.int p4), .val (.int p5), .val (.int (2 : Int32)), .val (.int v0), .val (.int v1), .val (.int v2), .val (.ref la), .val (.ref a), .val (.ref r), .val (.int (1 : Int32)), .val (.int (1 : Int32)), .unset, .unset, .unset] [(.int (1 : Int32)), (.int (1 : Int32))])) (fun t k => XS.iload X39.here hx rfl (hb hby at_250) rfl k) ?_
        have hc252 : (1 : Int32) = (1 : Int32) := rfl
        refine Goes.pre (U' := T39.setTop (mkF m 257 #[.val (.int p1), .val (.int p2), .val (.int p3), .val (.int p4), .val (.int p5), .val (.int (2 : Int32)), .val (.int v0), .val (.int v1), .val (.int v2), .val (.ref la), .val (.ref a), .val (.ref r), .val (.int (1 : Int32)), .val (.int (1 : Int32)), .unset, .unset, .unset] [])) (fun t k => XS.icmpYes X39.here hx rfl (pc0 := 252) (pc' := 257) rfl (hb hby at_252) rfl (teq hc252).1 (by decide) (by decide) k) ?_
        refine Goes.pre (U' := T39.setTop (mkF m 259 #[.val (.int p1), .val (.int p2), .val (.int p3), .val (.int p4), .val (.int p5), .val (.int (2 : Int32)), .val (.int v0), .val (.int v1), .val (.int v2), .val (.ref la), .val (.ref a), .val (.ref r), .val (.int (1 : Int32)), .val (.int (1 : Int32)), .unset, .unset, .unset] [(.int (1 : Int32))])) (fun t k => XS.iload X39.here hx rfl (hb hby at_257) rfl k) ?_
        refine Goes.pre (U' := T39.setTop (mkF m 260 #[.val (.int p1), .val (.int p2), .val (.int p3), .val (.int p4), .val (.int p5), .val (.int (2 : Int32)), .val (.int v0), .val (.int v1), .val (.int v2), .val (.ref la), .val (.ref a), .val (.ref r), .val (.int (1 : Int32)), .val (.int (1 : Int32)), .unset, .unset, .unset] [(.int (1 : Int32)), (.int (1 : Int32))])) (fun t k => XS.iconst X39.here hx rfl (hb hby at_259) k) ?_
        have hc260 : (1 : Int32) = (1 : Int32) := rfl
        refine Goes.pre (U' := T39.setTop (mkF m 263 #[.val (.int p1), .val (.int p2), .val (.int p3), .val (.int p4), .val (.int p5), .val (.int (2 : Int32)), .val (.int v0), .val (.int v1), .val (.int v2), .val (.ref la), .val (.ref a), .val (.ref r), .val (.int (1 : Int32)), .val (.int (1 : Int32)), .unset, .unset, .unset] [])) (fun t k => XS.icmpNo X39.here hx rfl (hb hby at_260) rfl (teq hc260).2 k) ?_
        refine Goes.pre (U' := T39.setTop (mkF m 265 #[.val (.int p1), .val (.int p2), .val (.int p3), .val (.int p4), .val (.int p5), .val (.int (2 : Int32)), .val (.int v0), .val (.int v1), .val (.int v2), .val (.ref la), .val (.ref a), .val (.ref r), .val (.int (1 : Int32)), .val (.int (1 : Int32)), .unset, .unset, .unset] [(.int v0)])) (fun t k => XS.iload X39.here hx rfl (hb hby at_263) rfl k) ?_
        refine Goes.pre (U' := T39.setTop (mkF m 266 #[.val (.int p1), .val (.int p2), .val (.int p3), .val (.int p4), .val (.int p5), .val (.int (2 : Int32)), .val (.int v0), .val (.int v1), .val (.int v2), .val (.ref la), .val (.ref a), .val (.ref r), .val (.int (1 : Int32)), .val (.int (1 : Int32)), .unset, .unset, .unset] [(.int (1 : Int32)), (.int v0)])) (fun t k => XS.iconst X39.here hx rfl (hb hby at_265) k) ?_
        refine Goes.pre (U' := T39.setTop (mkF m 267 #[.val (.int p1), .val (.int p2), .val (.int p3), .val (.int p4), .val (.int p5), .val (.int (2 : Int32)), .val (.int v0), .val (.int v1), .val (.int v2), .val (.ref la), .val (.ref a), .val (.ref r), .val (.int (1 : Int32)), .val (.int (1 : Int32)), .unset, .unset, .unset] [(.int (v0 + (1 : Int32)))])) (fun t k => XS.iadd X39.here hx rfl (hb hby at_266) rfl k) ?_
        refine Goes.pre (U' := T39.setTop (mkF m 268 #[.val (.int p1), .val (.int p2), .val (.int p3), .val (.int p4), .val (.int p5), .val (.int (2 : Int32)), .val (.int v0), .val (.int v1), .val (.int v2), .val (.ref la), .val (.ref a), .val (.ref r), .val (.int (1 : Int32)), .val (.int (1 : Int32)), .unset, .unset, .unset] [(.int ((v0 + (1 : Int32)).toInt8.toInt32))])) (fun t k => XS.i2b X39.here hx rfl (hb hby at_267) rfl k) ?_
        refine Goes.pre (U' := T39.setTop (mkF m 273 #[.val (.int p1), .val (.int p2), .val (.int p3), .val (.int p4), .val (.int p5), .val (.int (2 : Int32)), .val (.int v0), .val (.int v1), .val (.int v2), .val (.ref la), .val (.ref a), .val (.ref r), .val (.int (1 : Int32)), .val (.int (1 : Int32)), .unset, .unset, .unset] [(.int ((v0 + (1 : Int32)).toInt8.toInt32))])) (fun t k => XS.goto X39.here hx rfl (pc0 := 268) (pc' := 273) rfl (hb hby at_268) (by decide) (by decide) k) ?_
        refine Goes.pre (U' := T39.setTop (mkF m 275 #[.val (.int p1), .val (.int p2), .val (.int p3), .val (.int p4), .val (.int p5), .val (.int (2 : Int32)), .val (.int v0), .val (.int v1), .val (.int v2), .val (.ref la), .val (.ref a), .val (.ref r), .val (.int (1 : Int32)), .val (.int (1 : Int32)), .val (.int ((v0 + (1 : Int32)).toInt8.toInt32)), .unset, .unset] [])) (fun t k => XS.istore X39.here hx rfl (hb hby at_273) rfl (l' := #[.val (.int p1), .val (.int p2), .val (.int p3), .val (.int p4), .val (.int p5), .val (.int (2 : Int32)), .val (.int v0), .val (.int v1), .val (.int v2), .val (.ref la), .val (.ref a), .val (.ref r), .val (.int (1 : Int32)), .val (.int (1 : Int32)), .val (.int ((v0 + (1 : Int32)).toInt8.toInt32)), .unset, .unset]) rfl k) ?_
        refine Goes.pre (U' := T39.setTop (mkF m 277 #[.val (.int p1), .val (.int p2), .val (.int p3), .val (.int p4), .val (.int p5), .val (.int (2 : Int32)), .val (.int v0), .val (.int v1), .val (.int v2), .val (.ref la), .val (.ref a), .val (.ref r), .val (.int (1 : Int32)), .val (.int (1 : Int32)), .val (.int ((v0 + (1 : Int32)).toInt8.toInt32)), .unset, .unset] [(.int (1 : Int32))])) (fun t k => XS.iload X39.here hx rfl (hb hby at_275) rfl k) ?_
        refine Goes.pre (U' := T39.setTop (mkF m 278 #[.val (.int p1), .val (.int p2), .val (.int p3), .val (.int p4), .val (.int p5), .val (.int (2 : Int32)), .val (.int v0), .val (.int v1), .val (.int v2), .val (.ref la), .val (.ref a), .val (.ref r), .val (.int (1 : Int32)), .val (.int (1 : Int32)), .val (.int ((v0 + (1 : Int32)).toInt8.toInt32)), .unset, .unset] [(.int (2 : Int32)), (.int (1 : Int32))])) (fun t k => XS.iconst X39.here hx rfl (hb hby at_277) k) ?_
        have hc278 : ¬ ((1 : Int32) = (2 : Int32)) := by decide
        refine Goes.pre (U' := T39.setTop (mkF m 289 #[.val (.int p1), .val (.int p2), .val (.int p3), .val (.int p4), .val (.int p5), .val (.int (2 : Int32)), .val (.int v0), .val (.int v1), .val (.int v2), .val (.ref la), .val (.ref a), .val (.ref r), .val (.int (1 : Int32)), .val (.int (1 : Int32)), .val (.int ((v0 + (1 : Int32)).toInt8.toInt32)), .unset, .unset] [])) (fun t k => XS.icmpYes X39.here hx rfl (pc0 := 278) (pc' := 289) rfl (hb hby at_278) rfl (feq hc278).2 (by decide) (by decide) k) ?_
        refine Goes.pre (U' := T39.setTop (mkF m 291 #[.val (.int p1), .val (.int p2), .val (.int p3), .val (.int p4), .val (.int p5), .val (.int (2 : Int32)), .val (.int v0), .val (.int v1), .val (.int v2), .val (.ref la), .val (.ref a), .val (.ref r), .val (.int (1 : Int32)), .val (.int (1 : Int32)), .val (.int ((v0 + (1 : Int32)).toInt8.toInt32)), .unset, .unset] [(.int v1)])) (fun t k => XS.iload X39.here hx rfl (hb hby at_289) rfl k) ?_
        refine Goes.pre (U' := T39.setTop (mkF m 293 #[.val (.int p1), .val (.int p2), .val (.int p3), .val (.int p4), .val (.int p5), .val (.int (2 : Int32)), .val (.int v0), .val (.int v1), .val (.int v2), .val (.ref la), .val (.ref a), .val (.ref r), .val (.int (1 : Int32)), .val (.int (1 : Int32)), .val (.int ((v0 + (1 : Int32)).toInt8.toInt32)), .val (.int v1), .unset] [])) (fun t k => XS.istore X39.here hx rfl (hb hby at_291) rfl (l' := #[.val (.int p1), .val (.int p2), .val (.int p3), .val (.int p4), .val (.int p5), .val (.int (2 : Int32)), .val (.int v0), .val (.int v1), .val (.int v2), .val (.ref la), .val (.ref a), .val (.ref r), .val (.int (1 : Int32)), .val (.int (1 : Int32)), .val (.int ((v0 + (1 : Int32)).toInt8.toInt32)), .val (.int v1), .unset]) rfl k) ?_
        refine Goes.pre (U' := T39.setTop (mkF m 295 #[.val (.int p1), .val (.int p2), .val (.int p3), .val (.int p4), .val (.int p5), .val (.int (2 : Int32)), .val (.int v0), .val (.int v1), .val (.int v2), .val (.ref la), .val (.ref a), .val (.ref r), .val (.int (1 : Int32)), .val (.int (1 : Int32)), .val (.int ((v0 + (1 : Int32)).toInt8.toInt32)), .val (.int v1), .unset] [(.int v2)])) (fun t k => XS.iload X39.here hx rfl (hb hby at_293) rfl k) ?_
        refine Goes.pre (U' := T39.setTop (mkF m 296 #[.val (.int p1), .val (.int p2), .val (.int p3), .val (.int p4), .val (.int p5), .val (.int (2 : Int32)), .val (.int v0), .val (.int v1), .val (.int v2), .val (.ref la), .val (.ref a), .val (.ref r), .val (.int (1 : Int32)), .val (.int (1 : Int32)), .val (.int ((v0 + (1 : Int32)).toInt8.toInt32)), .val (.int v1), .unset] [(.int (1 : Int32)), (.int v2)])) (fun t k => XS.iconst X39.here hx rfl (hb hby at_295) k) ?_
        refine Goes.pre (U' := T39.setTop (mkF m 297 #[.val (.int p1), .val (.int p2), .val (.int p3), .val (.int p4), .val (.int p5), .val (.int (2 : Int32)), .val (.int v0), .val (.int v1), .val (.int v2), .val (.ref la), .val (.ref a), .val (.ref r), .val (.int (1 : Int32)), .val (.int (1 : Int32)), .val (.int ((v0 + (1 : Int32)).toInt8.toInt32)), .val (.int v1), .unset] [(.int (v2 + (1 : Int32)))])) (fun t k => XS.iadd X39.here hx rfl (hb hby at_296) rfl k) ?_
        refine Goes.pre (U' := T39.setTop (mkF m 298 #[.val (.int p1), .val (.int p2), .val (.int p3), .val (.int p4), .val (.int p5), .val (.int (2 : Int32)), .val (.int v0), .val (.int v1), .val (.int v2), .val (.ref la), .val (.ref a), .val (.ref r), .val (.int (1 : Int32)), .val (.int (1 : Int32)), .val (.int ((v0 + (1 : Int32)).toInt8.toInt32)), .val (.int v1), .unset] [(.int ((v2 + (1 : Int32)).toInt8.toInt32))])) (fun t k => XS.i2b X39.here hx rfl (hb hby at_297) rfl k) ?_
        refine Goes.pre (U' := T39.setTop (mkF m 300 #[.val (.int p1), .val (.int p2), .val (.int p3), .val (.int p4), .val (.int p5), .val (.int (2 : Int32)), .val (.int v0), .val (.int v1), .val (.int v2), .val (.ref la), .val (.ref a), .val (.ref r), .val (.int (1 : Int32)), .val (.int (1 : Int32)), .val (.int ((v0 + (1 : Int32)).toInt8.toInt32)), .val (.int v1), .val (.int ((v2 + (1 : Int32)).toInt8.toInt32))] [])) (fun t k => XS.istore X39.here hx rfl (hb hby at_298) rfl (l' := #[.val (.int p1), .val (.int p2), .val (.int p3), .val (.int p4), .val (.int p5), .val (.int (2 : Int32)), .val (.int v0), .val (.int v1), .val (.int v2), .val (.ref la), .val (.ref a), .val (.ref r), .val (.int (1 : Int32)), .val (.int (1 : Int32)), .val (.int ((v0 + (1 : Int32)).toInt8.toInt32)), .val (.int v1), .val (.int ((v2 + (1 : Int32)).toInt8.toInt32))]) rfl k) ?_
        refine Goes.pre (U' := T39.setTop (mkF m 302 #[.val (.int p1), .val (.int p2), .val (.int p3), .val (.int p4), .val (.int p5), .val (.int (2 : Int32)), .val (.int v0), .val (.int v1), .val (.int v2), .val (.ref la), .val (.ref a), .val (.ref r), .val (.int (1 : Int32)), .val (.int (1 : Int32)), .val (.int ((v0 + (1 : Int32)).toInt8.toInt32)), .val (.int v1), .val (.int ((v2 + (1 : Int32)).toInt8.toInt32))] [(.int (1 : Int32))])) (fun t k => XS.iload X39.here hx rfl (hb hby at_300) rfl k) ?_
        have hc302 : ¬ ((1 : Int32) = (0 : Int32)) := by decide
        refine Goes.pre (U' := T39.setTop (mkF m 305 #[.val (.int p1), .val (.int p2), .val (.int p3), .val (.int p4), .val (.int p5), .val (.int (2 : Int32)), .val (.int v0), .val (.int v1), .val (.int v2), .val (.ref la), .val (.ref a), .val (.ref r), .val (.int (1 : Int32)), .val (.int (1 : Int32)), .val (.int ((v0 + (1 : Int32)).toInt8.toInt32)), .val (.int v1), .val (.int ((v2 + (1 : Int32)).toInt8.toInt32))] [])) (fun t k => XS.ifNo X39.here hx rfl (hb hby at_302) rfl ((if0 _ _).trans (feq hc302).1) k) ?_
        refine Goes.pre (U' := T39.setTop (mkF m 307 #[.val (.int p1), .val (.int p2), .val (.int p3), .val (.int p4), .val (.int p5), .val (.int (2 : Int32)), .val (.int v0), .val (.int v1), .val (.int v2), .val (.ref la), .val (.ref a), .val (.ref r), .val (.int (1 : Int32)), .val (.int (1 : Int32)), .val (.int ((v0 + (1 : Int32)).toInt8.toInt32)), .val (.int v1), .val (.int ((v2 + (1 : Int32)).toInt8.toInt32))] [(.ref r)])) (fun t k => XS.aload X39.here hx rfl (hb hby at_305) rfl rfl k) ?_
        refine Goes.pre (U' := T39.setTop (mkF m 308 #[.val (.int p1), .val (.int p2), .val (.int p3), .val (.int p4), .val (.int p5), .val (.int (2 : Int32)), .val (.int v0), .val (.int v1), .val (.int v2), .val (.ref la), .val (.ref a), .val (.ref r), .val (.int (1 : Int32)), .val (.int (1 : Int32)), .val (.int ((v0 + (1 : Int32)).toInt8.toInt32)), .val (.int v1), .val (.int ((v2 + (1 : Int32)).toInt8.toInt32))] [(.int (0 : Int32)), (.ref r)])) (fun t k => XS.iconst X39.here hx rfl (hb hby at_307) k) ?_
        obtain ⟨cl44, Ar44, q44, Sz44, Ng44, Hs44, Ft44⟩ := id V_r
        have hin44 := inb_of (j := (0 : Int32)) Sz44 ⟨by decide, by decide⟩
        refine Goes.pre (U' := T39.setTop (mkF m 309 #[.val (.int p1), .val (.int p2), .val (.int p3), .val (.int p4), .val (.int p5), .val (.int (2 : Int32)), .val (.int v0), .val (.int v1), .val (.int v2), .val (.ref la), .val (.ref a), .val (.ref r), .val (.int (1 : Int32)), .val (.int (1 : Int32)), .val (.int ((v0 + (1 : Int32)).toInt8.toInt32)), .val (.int v1), .val (.int ((v2 + (1 : Int32)).toInt8.toInt32))] [(.int ((v0 + (1 : Int32)).toInt8.toInt32))])) (fun t k => X39.baloadBytes hx (j := (0 : Int32)) (v := (.int ((v0 + (1 : Int32)).toInt8.toInt32))) Ar44.1 (State.isArrayOf_alike hZ.alike Ar44.2.1) Ar44.2.2 hin44 (Has.at Hs44 hin44 rfl) (g := (mkF m 308 #[.val (.int p1), .val (.int p2), .val (.int p3), .val (.int p4), .val (.int p5), .val (.int (2 : Int32)), .val (.int v0), .val (.int v1), .val (.int v2), .val (.ref la), .val (.ref a), .val (.ref r), .val (.int (1 : Int32)), .val (.int (1 : Int32)), .val (.int ((v0 + (1 : Int32)).toInt8.toInt32)), .val (.int v1), .val (.int ((v2 + (1 : Int32)).toInt8.toInt32))] [(.int (0 : Int32)), (.ref r)])) rfl rfl (hb hby at_308) _ k) ?_
        refine Goes.pre (U' := T39.setTop (mkF m 311 #[.val (.int p1), .val (.int p2), .val (.int p3), .val (.int p4), .val (.int p5), .val (.int (2 : Int32)), .val (.int v0), .val (.int v1), .val (.int v2), .val (.ref la), .val (.ref a), .val (.ref r), .val (.int (1 : Int32)), .val (.int (1 : Int32)), .val (.int ((v0 + (1 : Int32)).toInt8.toInt32)), .val (.int v1), .val (.int ((v2 + (1 : Int32)).toInt8.toInt32))] [(.int ((v0 + (1 : Int32)).toInt8.toInt32)), (.int ((v0 + (1 : Int32)).toInt8.toInt32))])) (fun t k => XS.iload X39.here hx rfl (hb hby at_309) rfl k) ?_
        have hc311 : ((v0 + (1 : Int32)).toInt8.toInt32) = ((v0 + (1 : Int32)).toInt8.toInt32) := rfl
        refine Goes.pre (U' := T39.setTop (mkF m 314 #[.val (.int p1), .val (.int p2), .val (.int p3), .val (.int p4), .val (.int p5), .val (.int (2 : Int32)), .val (.int v0), .val (.int v1), .val (.int v2), .val (.ref la), .val (.ref a), .val (.ref r), .val (.int (1 : Int32)), .val (.int (1 : Int32)), .val (.int ((v0 + (1 : Int32)).toInt8.toInt32)), .val (.int v1), .val (.int ((v2 + (1 : Int32)).toInt8.toInt32))] [])) (fun t k => XS.icmpNo X39.here hx rfl (hb hby at_311) rfl (teq hc311).2 k) ?_
        refine Goes.pre (U' := T39.setTop (mkF m 316 #[.val (.int p1), .val (.int p2), .val (.int p3), .val (.int p4), .val (.int p5), .val (.int (2 : Int32)), .val (.int v0), .val (.int v1), .val (.int v2), .val (.ref la), .val (.ref a), .val (.ref r), .val (.int (1 : Int32)), .val (.int (1 : Int32)), .val (.int ((v0 + (1 : Int32)).toInt8.toInt32)), .val (.int v1), .val (.int ((v2 + (1 : Int32)).toInt8.toInt32))] [(.int (1 : Int32))])) (fun t k => XS.iload X39.here hx rfl (hb hby at_314) rfl k) ?_
        refine Goes.pre (U' := T39.setTop (mkF m 317 #[.val (.int p1), .val (.int p2), .val (.int p3), .val (.int p4), .val (.int p5), .val (.int (2 : Int32)), .val (.int v0), .val (.int v1), .val (.int v2), .val (.ref la), .val (.ref a), .val (.ref r), .val (.int (1 : Int32)), .val (.int (1 : Int32)), .val (.int ((v0 + (1 : Int32)).toInt8.toInt32)), .val (.int v1), .val (.int ((v2 + (1 : Int32)).toInt8.toInt32))] [(.int (2 : Int32)), (.int (1 : Int32))])) (fun t k => XS.iconst X39.here hx rfl (hb hby at_316) k) ?_
        have hc317 : (1 : Int32) < (2 : Int32) := by decide
        refine Goes.pre (U' := T39.setTop (mkF m 329 #[.val (.int p1), .val (.int p2), .val (.int p3), .val (.int p4), .val (.int p5), .val (.int (2 : Int32)), .val (.int v0), .val (.int v1), .val (.int v2), .val (.ref la), .val (.ref a), .val (.ref r), .val (.int (1 : Int32)), .val (.int (1 : Int32)), .val (.int ((v0 + (1 : Int32)).toInt8.toInt32)), .val (.int v1), .val (.int ((v2 + (1 : Int32)).toInt8.toInt32))] [])) (fun t k => XS.icmpYes X39.here hx rfl (pc0 := 317) (pc' := 329) rfl (hb hby at_317) rfl (tlt hc317).1 (by decide) (by decide) k) ?_
        refine Goes.pre (U' := T39.setTop (mkF m 331 #[.val (.int p1), .val (.int p2), .val (.int p3), .val (.int p4), .val (.int p5), .val (.int (2 : Int32)), .val (.int v0), .val (.int v1), .val (.int v2), .val (.ref la), .val (.ref a), .val (.ref r), .val (.int (1 : Int32)), .val (.int (1 : Int32)), .val (.int ((v0 + (1 : Int32)).toInt8.toInt32)), .val (.int v1), .val (.int ((v2 + (1 : Int32)).toInt8.toInt32))] [(.int (1 : Int32))])) (fun t k => XS.iload X39.here hx rfl (hb hby at_329) rfl k) ?_
        refine Goes.pre (U' := T39.setTop (mkF m 332 #[.val (.int p1), .val (.int p2), .val (.int p3), .val (.int p4), .val (.int p5), .val (.int (2 : Int32)), .val (.int v0), .val (.int v1), .val (.int v2), .val (.ref la), .val (.ref a), .val (.ref r), .val (.int (1 : Int32)), .val (.int (1 : Int32)), .val (.int ((v0 + (1 : Int32)).toInt8.toInt32)), .val (.int v1), .val (.int ((v2 + (1 : Int32)).toInt8.toInt32))] [(.int (3 : Int32)), (.int (1 : Int32))])) (fun t k => XS.iconst X39.here hx rfl (hb hby at_331) k) ?_
        have hc332 : (1 : Int32) < (3 : Int32) := by decide
        refine Goes.pre (U' := T39.setTop (mkF m 344 #[.val (.int p1), .val (.int p2), .val (.int p3), .val (.int p4), .val (.int p5), .val (.int (2 : Int32)), .val (.int v0), .val (.int v1), .val (.int v2), .val (.ref la), .val (.ref a), .val (.ref r), .val (.int (1 : Int32)), .val (.int (1 : Int32)), .val (.int ((v0 + (1 : Int32)).toInt8.toInt32)), .val (.int v1), .val (.int ((v2 + (1 : Int32)).toInt8.toInt32))] [])) (fun t k => XS.icmpYes X39.here hx rfl (pc0 := 332) (pc' := 344) rfl (hb hby at_332) rfl (tlt hc332).1 (by decide) (by decide) k) ?_
        refine Goes.pre (U' := T39.setTop (mkF m 345 #[.val (.int p1), .val (.int p2), .val (.int p3), .val (.int p4), .val (.int p5), .val (.int (2 : Int32)), .val (.int v0), .val (.int v1), .val (.int v2), .val (.ref la), .val (.ref a), .val (.ref r), .val (.int (1 : Int32)), .val (.int (1 : Int32)), .val (.int ((v0 + (1 : Int32)).toInt8.toInt32)), .val (.int v1), .val (.int ((v2 + (1 : Int32)).toInt8.toInt32))] [(.int (1 : Int32))])) (fun t k => XS.iconst X39.here hx rfl (hb hby at_344) k) ?_
        refine Goes.pre (U' := T39.setTop (mkF m 349 #[.val (.int p1), .val (.int p2), .val (.int p3), .val (.int p4), .val (.int p5), .val (.int (2 : Int32)), .val (.int v0), .val (.int v1), .val (.int v2), .val (.ref la), .val (.ref a), .val (.ref r), .val (.int (1 : Int32)), .val (.int (1 : Int32)), .val (.int ((v0 + (1 : Int32)).toInt8.toInt32)), .val (.int v1), .val (.int ((v2 + (1 : Int32)).toInt8.toInt32))] [(.int (1 : Int32))])) (fun t k => XS.goto X39.here hx rfl (pc0 := 345) (pc' := 349) rfl (hb hby at_345) (by decide) (by decide) k) ?_
        refine Goes.ret X39 (v := (some (.int (1 : Int32)))) (fun h => by rw [Bd.returns] at h; cases h) Bd.notSynchronized (by decide) (by decide) rfl (fun fs hr => retN X39 hx (t := .boolean) Bd.returns (by simp) (hb hby at_349) hr) ?_
        exact ⟨rfl, N39⟩
    ·
      have hk := hq1
      refine Goes.pre (U' := T33.setTop (mkF m 107 #[.val (.int p1), .val (.int p2), .val (.int p3), .val (.int p4), .val (.int p5), .val (.int (2 : Int32)), .val (.int v0), .val (.int v1), .val (.int v2), .val (.ref la), .val (.ref a), .unset, .unset, .unset, .unset, .unset, .unset] [(.ref a)])) (fun t k => XS.aload X33.here hx rfl (hb hby at_105) rfl rfl k) ?_
      have lt_a := E_a.lt
      have lt_fa := E_fa.lt
      have lt_la := E_la.lt
      obtain ⟨cq45, kq45, q45a, q45b, q45c⟩ := isOf hZ rfl E_a
      obtain ⟨_, _, ⟨T45, L45, k45, n45⟩, -, X45, ⟨Lc45, hQ45, l45, y45, z45⟩, st45⟩ := X33.virtualBack hx (y := (⟨"com/example/known_paths/knownpaths/key/KeyRange", "end", "()[B"⟩ : MethodName)) (z := (⟨"com/example/known_paths/knownpaths/key/KeyRange", "end", "()[B"⟩ : MethodName)) hown (mvT hZ (hw _ (List.mem_of_getElem? (i := 19) rfl))) (mvT hZ (hw _ (List.mem_of_getElem? (i := 20) rfl))) (notFace_of_selects (args := #[]) (mvT hZ (hw _ (List.mem_of_getElem? (i := 22) rfl)))) (mvT hZ (hw _ (List.mem_of_getElem? (i := 22) rfl))) (mvT hZ (hw _ (List.mem_of_getElem? (i := 21) rfl))) (by decide) (backOf (W := 0) (rm_end22 l Z a0 hw [] a la k28 v0 v1 T33.heap n0 Z34 F_last_a E_la V_la hk) hZ (hw _ (List.mem_of_getElem? (i := 23) rfl)) (hw _ (List.mem_of_getElem? (i := 3) rfl)) (by decide) (by decide)) q45a q45c (g := (mkF m 107 #[.val (.int p1), .val (.int p2), .val (.int p3), .val (.int p4), .val (.int p5), .val (.int (2 : Int32)), .val (.int v0), .val (.int v1), .val (.int v2), .val (.ref la), .val (.ref a), .unset, .unset, .unset, .unset, .unset, .unset] [(.ref a)])) rfl (by rw [hml]; rfl) (Steps.refl _) (argsL := []) (rest := []) (lenOf pd__28_29_5bB rfl) rfl (by show 2 * 0 + _ ≤ _; exact Nat.le_of_eq rfl) (hb hby at_107) (fun _ _ => ⟨rfl, rfl, (by decide : 3 + 1 ≤ _), (by decide : 4 + 2 ≤ _)⟩)
      dsimp only [Pt.U, Pt.locs, Pt.cells, Pt.slots] at X45 l45 y45 z45 st45 hQ45
      subst l45 y45 z45
      obtain ⟨r, kr, rfl, N45q, KQ45, V_r, g_r, sz_r0⟩ := hQ45
      have N45 := Fr.app N33 N45q
      have E_la := E_la.keep KQ45
      have V_la := V_la.keep KQ45 nin0
      have E_a := E_a.keep KQ45
      have E_fa := E_fa.keep KQ45
      have V_fa := V_fa.keep KQ45 nin0
      have F_last_a := F_last_a.keep KQ45 nin0
      have Z46 : n0 ≤ T45.heap.size := Nat.le_trans Z34 KQ45.1
      have ne_a_r : a ≠ r := Nat.ne_of_lt (Nat.lt_of_lt_of_le lt_a sz_r0)
      have ne_r_a := ne_a_r.symm
      have ne_fa_r : fa ≠ r := Nat.ne_of_lt (Nat.lt_of_lt_of_le lt_fa sz_r0)
      have ne_r_fa := ne_fa_r.symm
      have ne_la_r : la ≠ r := Nat.ne_of_lt (Nat.lt_of_lt_of_le lt_la sz_r0)
      have ne_r_la := ne_la_r.symm
      refine Goes.pre (U' := T45.setTop (mkF m 110 #[.val (.int p1), .val (.int p2), .val (.int p3), .val (.int p4), .val (.int p5), .val (.int (2 : Int32)), .val (.int v0), .val (.int v1), .val (.int v2), .val (.ref la), .val (.ref a), .unset, .unset, .unset, .unset, .unset, .unset] [(.ref r)])) (fun t k => st45.trans k) ?_
      refine Goes.pre (U' := T45.setTop (mkF m 112 #[.val (.int p1), .val (.int p2), .val (.int p3), .val (.int p4), .val (.int p5), .val (.int (2 : Int32)), .val (.int v0), .val (.int v1), .val (.int v2), .val (.ref la), .val (.ref a), .val (.ref r), .unset, .unset, .unset, .unset, .unset] [])) (fun t k => XS.astore X45.here hx rfl (hb hby at_110) rfl rfl (l' := #[.val (.int p1), .val (.int p2), .val (.int p3), .val (.int p4), .val (.int p5), .val (.int (2 : Int32)), .val (.int v0), .val (.int v1), .val (.int v2), .val (.ref la), .val (.ref a), .val (.ref r), .unset, .unset, .unset, .unset, .unset]) rfl k) ?_
      refine Goes.pre (U' := T45.setTop (mkF m 114 #[.val (.int p1), .val (.int p2), .val (.int p3), .val (.int p4), .val (.int p5), .val (.int (2 : Int32)), .val (.int v0), .val (.int v1), .val (.int v2), .val (.ref la), .val (.ref a), .val (.ref r), .unset, .unset, .unset, .unset, .unset] [(.int (2 : Int32))])) (fun t k => XS.iload X45.here hx rfl (hb hby at_112) rfl k) ?_
      refine Goes.pre (U' := T45.setTop (mkF m 115 #[.val (.int p1), .val (.int p2), .val (.int p3), .val (.int p4), .val (.int p5), .val (.int (2 : Int32)), .val (.int v0), .val (.int v1), .val (.int v2), .val (.ref la), .val (.ref a), .val (.ref r), .unset, .unset, .unset, .unset, .unset] [(.int (1 : Int32)), (.int (2 : Int32))])) (fun t k => XS.iconst X45.here hx rfl (hb hby at_114) k) ?_
      have hc115 : ¬ ((2 : Int32) < (1 : Int32)) := by decide
      refine Goes.pre (U' := T45.setTop (mkF m 118 #[.val (.int p1), .val (.int p2), .val (.int p3), .val (.int p4), .val (.int p5), .val (.int (2 : Int32)), .val (.int v0), .val (.int v1), .val (.int v2), .val (.ref la), .val (.ref a), .val (.ref r), .unset, .unset, .unset, .unset, .unset] [])) (fun t k => XS.icmpNo X45.here hx rfl (hb hby at_115) rfl (flt hc115).1 k) ?_
      refine Goes.pre (U' := T45.setTop (mkF m 120 #[.val (.int p1), .val (.int p2), .val (.int p3), .val (.int p4), .val (.int p5), .val (.int (2 : Int32)), .val (.int v0), .val (.int v1), .val (.int v2), .val (.ref la), .val (.ref a), .val (.ref r), .unset, .unset, .unset, .unset, .unset] [(.ref la)])) (fun t k => XS.aload X45.here hx rfl (hb hby at_118) rfl rfl k) ?_
      refine Goes.pre (U' := T45.setTop (mkF m 121 #[.val (.int p1), .val (.int p2), .val (.int p3), .val (.int p4), .val (.int p5), .val (.int (2 : Int32)), .val (.int v0), .val (.int v1), .val (.int v2), .val (.ref la), .val (.ref a), .val (.ref r), .unset, .unset, .unset, .unset, .unset] [(.int (0 : Int32)), (.ref la)])) (fun t k => XS.iconst X45.here hx rfl (hb hby at_120) k) ?_
      obtain ⟨cl47, Ar47, q47, Sz47, Ng47, Hs47, Ft47⟩ := id V_la
      have hin47 := inb_of (j := (0 : Int32)) Sz47 ⟨by decide, by decide⟩
      refine Goes.pre (U' := T45.setTop (mkF m 122 #[.val (.int p1), .val (.int p2), .val (.int p3), .val (.int p4), .val (.int p5), .val (.int (2 : Int32)), .val (.int v0), .val (.int v1), .val (.int v2), .val (.ref la), .val (.ref a), .val (.ref r), .unset, .unset, .unset, .unset, .unset] [(.int v0)])) (fun t k => X45.baloadBytes hx (j := (0 : Int32)) (v := (.int v0)) Ar47.1 (State.isArrayOf_alike hZ.alike Ar47.2.1) Ar47.2.2 hin47 (Has.at Hs47 hin47 rfl) (g := (mkF m 121 #[.val (.int p1), .val (.int p2), .val (.int p3), .val (.int p4), .val (.int p5), .val (.int (2 : Int32)), .val (.int v0), .val (.int v1), .val (.int v2), .val (.ref la), .val (.ref a), .val (.ref r), .unset, .unset, .unset, .unset, .unset] [(.int (0 : Int32)), (.ref la)])) rfl rfl (hb hby at_121) _ k) ?_
      refine Goes.pre (U' := T45.setTop (mkF m 124 #[.val (.int p1), .val (.int p2), .val (.int p3), .val (.int p4), .val (.int p5), .val (.int (2 : Int32)), .val (.int v0), .val (.int v1), .val (.int v2), .val (.ref la), .val (.ref a), .val (.ref r), .unset, .unset, .unset, .unset, .unset] [(.int v0), (.int v0)])) (fun t k => XS.iload X45.here hx rfl (hb hby at_122) rfl k) ?_
      have hc124 : v0 = v0 := rfl
      refine Goes.pre (U' := T45.setTop (mkF m 127 #[.val (.int p1), .val (.int p2), .val (.int p3), .val (.int p4), .val (.int p5), .val (.int (2 : Int32)), .val (.int v0), .val (.int v1), .val (.int v2), .val (.ref la), .val (.ref a), .val (.ref r), .unset, .unset, .unset, .unset, .unset] [])) (fun t k => XS.icmpNo X45.here hx rfl (hb hby at_124) rfl (teq hc124).2 k) ?_
      refine Goes.pre (U' := T45.setTop (mkF m 129 #[.val (.int p1), .val (.int p2), .val (.int p3), .val (.int p4), .val (.int p5), .val (.int (2 : Int32)), .val (.int v0), .val (.int v1), .val (.int v2), .val (.ref la), .val (.ref a), .val (.ref r), .unset, .unset, .unset, .unset, .unset] [(.int (2 : Int32))])) (fun t k => XS.iload X45.here hx rfl (hb hby at_127) rfl k) ?_
      refine Goes.pre (U' := T45.setTop (mkF m 130 #[.val (.int p1), .val (.int p2), .val (.int p3), .val (.int p4), .val (.int p5), .val (.int (2 : Int32)), .val (.int v0), .val (.int v1), .val (.int v2), .val (.ref la), .val (.ref a), .val (.ref r), .unset, .unset, .unset, .unset, .unset] [(.int (2 : Int32)), (.int (2 : Int32))])) (fun t k => XS.iconst X45.here hx rfl (hb hby at_129) k) ?_
      have hc130 : ¬ ((2 : Int32) < (2 : Int32)) := by decide
      refine Goes.pre (U' := T45.setTop (mkF m 133 #[.val (.int p1), .val (.int p2), .val (.int p3), .val (.int p4), .val (.int p5), .val (.int (2 : Int32)), .val (.int v0), .val (.int v1), .val (.int v2), .val (.ref la), .val (.ref a), .val (.ref r), .unset, .unset, .unset, .unset, .unset] [])) (fun t k => XS.icmpNo X45.here hx rfl (hb hby at_130) rfl (flt hc130).1 k) ?_
      refine Goes.pre (U' := T45.setTop (mkF m 135 #[.val (.int p1), .val (.int p2), .val (.int p3), .val (.int p4), .val (.int p5), .val (.int (2 : Int32)), .val (.int v0), .val (.int v1), .val (.int v2), .val (.ref la), .val (.ref a), .val (.ref r), .unset, .unset, .unset, .unset, .unset] [(.ref la)])) (fun t k => XS.aload X45.here hx rfl (hb hby at_133) rfl rfl k) ?_
      refine Goes.pre (U' := T45.setTop (mkF m 136 #[.val (.int p1), .val (.int p2), .val (.int p3), .val (.int p4), .val (.int p5), .val (.int (2 : Int32)), .val (.int v0), .val (.int v1), .val (.int v2), .val (.ref la), .val (.ref a), .val (.ref r), .unset, .unset, .unset, .unset, .unset] [(.int (1 : Int32)), (.ref la)])) (fun t k => XS.iconst X45.here hx rfl (hb hby at_135) k) ?_
      obtain ⟨cl48, Ar48, q48, Sz48, Ng48, Hs48, Ft48⟩ := id V_la
      have hin48 := inb_of (j := (1 : Int32)) Sz48 ⟨by decide, by decide⟩
      refine Goes.pre (U' := T45.setTop (mkF m 137 #[.val (.int p1), .val (.int p2), .val (.int p3), .val (.int p4), .val (.int p5), .val (.int (2 : Int32)), .val (.int v0), .val (.int v1), .val (.int v2), .val (.ref la), .val (.ref a), .val (.ref r), .unset, .unset, .unset, .unset, .unset] [(.int v1)])) (fun t k => X45.baloadBytes hx (j := (1 : Int32)) (v := (.int v1)) Ar48.1 (State.isArrayOf_alike hZ.alike Ar48.2.1) Ar48.2.2 hin48 (Has.at Hs48 hin48 rfl) (g := (mkF m 136 #[.val (.int p1), .val (.int p2), .val (.int p3), .val (.int p4), .val (.int p5), .val (.int (2 : Int32)), .val (.int v0), .val (.int v1), .val (.int v2), .val (.ref la), .val (.ref a), .val (.ref r), .unset, .unset, .unset, .unset, .unset] [(.int (1 : Int32)), (.ref la)])) rfl rfl (hb hby at_136) _ k) ?_
      refine Goes.pre (U' := T45.setTop (mkF m 139 #[.val (.int p1), .val (.int p2), .val (.int p3), .val (.int p4), .val (.int p5), .val (.int (2 : Int32)), .val (.int v0), .val (.int v1), .val (.int v2), .val (.ref la), .val (.ref a), .val (.ref r), .unset, .unset, .unset, .unset, .unset] [(.int v1), (.int v1)])) (fun t k => XS.iload X45.here hx rfl (hb hby at_137) rfl k) ?_
      have hc139 : v1 = v1 := rfl
      refine Goes.pre (U' := T45.setTop (mkF m 142 #[.val (.int p1), .val (.int p2), .val (.int p3), .val (.int p4), .val (.int p5), .val (.int (2 : Int32)), .val (.int v0), .val (.int v1), .val (.int v2), .val (.ref la), .val (.ref a), .val (.ref r), .unset, .unset, .unset, .unset, .unset] [])) (fun t k => XS.icmpNo X45.here hx rfl (hb hby at_139) rfl (teq hc139).2 k) ?_
      refine Goes.pre (U' := T45.setTop (mkF m 144 #[.val (.int p1), .val (.int p2), .val (.int p3), .val (.int p4), .val (.int p5), .val (.int (2 : Int32)), .val (.int v0), .val (.int v1), .val (.int v2), .val (.ref la), .val (.ref a), .val (.ref r), .unset, .unset, .unset, .unset, .unset] [(.int (2 : Int32))])) (fun t k => XS.iload X45.here hx rfl (hb hby at_142) rfl k) ?_
      refine Goes.pre (U' := T45.setTop (mkF m 145 #[.val (.int p1), .val (.int p2), .val (.int p3), .val (.int p4), .val (.int p5), .val (.int (2 : Int32)), .val (.int v0), .val (.int v1), .val (.int v2), .val (.ref la), .val (.ref a), .val (.ref r), .unset, .unset, .unset, .unset, .unset] [(.int (3 : Int32)), (.int (2 : Int32))])) (fun t k => XS.iconst X45.here hx rfl (hb hby at_144) k) ?_
      have hc145 : (2 : Int32) < (3 : Int32) := by decide
      refine Goes.pre (U' := T45.setTop (mkF m 157 #[.val (.int p1), .val (.int p2), .val (.int p3), .val (.int p4), .val (.int p5), .val (.int (2 : Int32)), .val (.int v0), .val (.int v1), .val (.int v2), .val (.ref la), .val (.ref a), .val (.ref r), .unset, .unset, .unset, .unset, .unset] [])) (fun t k => XS.icmpYes X45.here hx rfl (pc0 := 145) (pc' := 157) rfl (hb hby at_145) rfl (tlt hc145).1 (by decide) (by decide) k) ?_
      refine Goes.pre (U' := T45.setTop (mkF m 158 #[.val (.int p1), .val (.int p2), .val (.int p3), .val (.int p4), .val (.int p5), .val (.int (2 : Int32)), .val (.int v0), .val (.int v1), .val (.int v2), .val (.ref la), .val (.ref a), .val (.ref r), .unset, .unset, .unset, .unset, .unset] [(.int (1 : Int32))])) (fun t k => XS.iconst X45.here hx rfl (hb hby at_157) k) ?_
      refine Goes.pre (U' := T45.setTop (mkF m 162 #[.val (.int p1), .val (.int p2), .val (.int p3), .val (.int p4), .val (.int p5), .val (.int (2 : Int32)), .val (.int v0), .val (.int v1), .val (.int v2), .val (.ref la), .val (.ref a), .val (.ref r), .unset, .unset, .unset, .unset, .unset] [(.int (1 : Int32))])) (fun t k => XS.goto X45.here hx rfl (pc0 := 158) (pc' := 162) rfl (hb hby at_158) (by decide) (by decide) k) ?_
      refine Goes.pre (U' := T45.setTop (mkF m 164 #[.val (.int p1), .val (.int p2), .val (.int p3), .val (.int p4), .val (.int p5), .val (.int (2 : Int32)), .val (.int v0), .val (.int v1), .val (.int v2), .val (.ref la), .val (.ref a), .val (.ref r), .val (.int (1 : Int32)), .unset, .unset, .unset, .unset] [])) (fun t k => XS.istore X45.here hx rfl (hb hby at_162) rfl (l' := #[.val (.int p1), .val (.int p2), .val (.int p3), .val (.int p4), .val (.int p5), .val (.int (2 : Int32)), .val (.int v0), .val (.int v1), .val (.int v2), .val (.ref la), .val (.ref a), .val (.ref r), .val (.int (1 : Int32)), .unset, .unset, .unset, .unset]) rfl k) ?_
      refine Goes.pre (U' := T45.setTop (mkF m 166 #[.val (.int p1), .val (.int p2), .val (.int p3), .val (.int p4), .val (.int p5), .val (.int (2 : Int32)), .val (.int v0), .val (.int v1), .val (.int v2), .val (.ref la), .val (.ref a), .val (.ref r), .val (.int (1 : Int32)), .unset, .unset, .unset, .unset] [(.int (2 : Int32))])) (fun t k => XS.iload X45.here hx rfl (hb hby at_164) rfl k) ?_
      refine Goes.pre (U' := T45.setTop (mkF m 167 #[.val (.int p1), .val (.int p2), .val (.int p3), .val (.int p4), .val (.int p5), .val (.int (2 : Int32)), .val (.int v0), .val (.int v1), .val (.int v2), .val (.ref la), .val (.ref a), .val (.ref r), .val (.int (1 : Int32)), .unset, .unset, .unset, .unset] [(.int (3 : Int32)), (.int (2 : Int32))])) (fun t k => XS.iconst X45.here hx rfl (hb hby at_166) k) ?_
      have hc167 : (2 : Int32) < (3 : Int32) := by decide
      refine Goes.pre (U' := T45.setTop (mkF m 182 #[.val (.int p1), .val (.int p2), .val (.int p3), .val (.int p4), .val (.int p5), .val (.int (2 : Int32)), .val (.int v0), .val (.int v1), .val (.int v2), .val (.ref la), .val (.ref a), .val (.ref r), .val (.int (1 : Int32)), .unset, .unset, .unset, .unset] [])) (fun t k => XS.icmpYes X45.here hx rfl (pc0 := 167) (pc' := 182) rfl (hb hby at_167) rfl (tlt hc167).1 (by decide) (by decide) k) ?_
      refine Goes.pre (U' := T45.setTop (mkF m 184 #[.val (.int p1), .val (.int p2), .val (.int p3), .val (.int p4), .val (.int p5), .val (.int (2 : Int32)), .val (.int v0), .val (.int v1), .val (.int v2), .val (.ref la), .val (.ref a), .val (.ref r), .val (.int (1 : Int32)), .unset, .unset, .unset, .unset] [(.int (2 : Int32))])) (fun t k => XS.iload X45.here hx rfl (hb hby at_182) rfl k) ?_
      refine Goes.pre (U' := T45.setTop (mkF m 185 #[.val (.int p1), .val (.int p2), .val (.int p3), .val (.int p4), .val (.int p5), .val (.int (2 : Int32)), .val (.int v0), .val (.int v1), .val (.int v2), .val (.ref la), .val (.ref a), .val (.ref r), .val (.int (1 : Int32)), .unset, .unset, .unset, .unset] [(.int (2 : Int32)), (.int (2 : Int32))])) (fun t k => XS.iconst X45.here hx rfl (hb hby at_184) k) ?_
      have hc185 : ¬ ((2 : Int32) < (2 : Int32)) := by decide
      refine Goes.pre (U' := T45.setTop (mkF m 188 #[.val (.int p1), .val (.int p2), .val (.int p3), .val (.int p4), .val (.int p5), .val (.int (2 : Int32)), .val (.int v0), .val (.int v1), .val (.int v2), .val (.ref la), .val (.ref a), .val (.ref r), .val (.int (1 : Int32)), .unset, .unset, .unset, .unset] [])) (fun t k => XS.icmpNo X45.here hx rfl (hb hby at_185) rfl (flt hc185).1 k) ?_
      refine Goes.pre (U' := T45.setTop (mkF m 190 #[.val (.int p1), .val (.int p2), .val (.int p3), .val (.int p4), .val (.int p5), .val (.int (2 : Int32)), .val (.int v0), .val (.int v1), .val (.int v2), .val (.ref la), .val (.ref a), .val (.ref r), .val (.int (1 : Int32)), .unset, .unset, .unset, .unset] [(.int v1)])) (fun t k => XS.iload X45.here hx rfl (hb hby at_188) rfl k) ?_
      refine Goes.pre (U' := T45.setTop (mkF m 191 #[.val (.int p1), .val (.int p2), .val (.int p3), .val (.int p4), .val (.int p5), .val (.int (2 : Int32)), .val (.int v0), .val (.int v1), .val (.int v2), .val (.ref la), .val (.ref a), .val (.ref r), .val (.int (1 : Int32)), .unset, .unset, .unset, .unset] [(.int (-1 : Int32)), (.int v1)])) (fun t k => XS.iconst X45.here hx rfl (hb hby at_190) k) ?_
      have hc191 : ¬ (v1 = (-1 : Int32)) := hq1
      refine Goes.pre (U' := T45.setTop (mkF m 194 #[.val (.int p1), .val (.int p2), .val (.int p3), .val (.int p4), .val (.int p5), .val (.int (2 : Int32)), .val (.int v0), .val (.int v1), .val (.int v2), .val (.ref la), .val (.ref a), .val (.ref r), .val (.int (1 : Int32)), .unset, .unset, .unset, .unset] [])) (fun t k => XS.icmpNo X45.here hx rfl (hb hby at_191) rfl (feq hc191).1 k) ?_
      refine Goes.pre (U' := T45.setTop (mkF m 195 #[.val (.int p1), .val (.int p2), .val (.int p3), .val (.int p4), .val (.int p5), .val (.int (2 : Int32)), .val (.int v0), .val (.int v1), .val (.int v2), .val (.ref la), .val (.ref a), .val (.ref r), .val (.int (1 : Int32)), .unset, .unset, .unset, .unset] [(.int (2 : Int32))])) (fun t k => XS.iconst X45.here hx rfl (hb hby at_194) k) ?_
      refine Goes.pre (U' := T45.setTop (mkF m 197 #[.val (.int p1), .val (.int p2), .val (.int p3), .val (.int p4), .val (.int p5), .val (.int (2 : Int32)), .val (.int v0), .val (.int v1), .val (.int v2), .val (.ref la), .val (.ref a), .val (.ref r), .val (.int (1 : Int32)), .val (.int (2 : Int32)), .unset, .unset, .unset] [])) (fun t k => XS.istore X45.here hx rfl (hb hby at_195) rfl (l' := #[.val (.int p1), .val (.int p2), .val (.int p3), .val (.int p4), .val (.int p5), .val (.int (2 : Int32)), .val (.int v0), .val (.int v1), .val (.int v2), .val (.ref la), .val (.ref a), .val (.ref r), .val (.int (1 : Int32)), .val (.int (2 : Int32)), .unset, .unset, .unset]) rfl k) ?_
      refine Goes.pre (U' := T45.setTop (mkF m 221 #[.val (.int p1), .val (.int p2), .val (.int p3), .val (.int p4), .val (.int p5), .val (.int (2 : Int32)), .val (.int v0), .val (.int v1), .val (.int v2), .val (.ref la), .val (.ref a), .val (.ref r), .val (.int (1 : Int32)), .val (.int (2 : Int32)), .unset, .unset, .unset] [])) (fun t k => XS.goto X45.here hx rfl (pc0 := 197) (pc' := 221) rfl (hb hby at_197) (by decide) (by decide) k) ?_
      refine Goes.pre (U' := T45.setTop (mkF m 223 #[.val (.int p1), .val (.int p2), .val (.int p3), .val (.int p4), .val (.int p5), .val (.int (2 : Int32)), .val (.int v0), .val (.int v1), .val (.int v2), .val (.ref la), .val (.ref a), .val (.ref r), .val (.int (1 : Int32)), .val (.int (2 : Int32)), .unset, .unset, .unset] [(.int (2 : Int32))])) (fun t k => XS.iload X45.here hx rfl (hb hby at_221) rfl k) ?_
      have hc223 : ¬ ((2 : Int32) = (0 : Int32)) := by decide
      refine Goes.pre (U' := T45.setTop (mkF m 242 #[.val (.int p1), .val (.int p2), .val (.int p3), .val (.int p4), .val (.int p5), .val (.int (2 : Int32)), .val (.int v0), .val (.int v1), .val (.int v2), .val (.ref la), .val (.ref a), .val (.ref r), .val (.int (1 : Int32)), .val (.int (2 : Int32)), .unset, .unset, .unset] [])) (fun t k => XS.ifYes X45.here hx rfl (pc0 := 223) (pc' := 242) rfl (hb hby at_223) rfl ((if0 _ _).trans (feq hc223).2) (by decide) (by decide) k) ?_
      refine Goes.pre (U' := T45.setTop (mkF m 244 #[.val (.int p1), .val (.int p2), .val (.int p3), .val (.int p4), .val (.int p5), .val (.int (2 : Int32)), .val (.int v0), .val (.int v1), .val (.int v2), .val (.ref la), .val (.ref a), .val (.ref r), .val (.int (1 : Int32)), .val (.int (2 : Int32)), .unset, .unset, .unset] [(.ref r)])) (fun t k => XS.aload X45.here hx rfl (hb hby at_242) rfl rfl k) ?_
      refine Goes.pre (U' := T45.setTop (mkF m 247 #[.val (.int p1), .val (.int p2), .val (.int p3), .val (.int p4), .val (.int p5), .val (.int (2 : Int32)), .val (.int v0), .val (.int v1), .val (.int v2), .val (.ref la), .val (.ref a), .val (.ref r), .val (.int (1 : Int32)), .val (.int (2 : Int32)), .unset, .unset, .unset] [])) (fun t k => XS.ifnullNo X45.here hx rfl (hb hby at_244) rfl k) ?_
      refine Goes.pre (U' := T45.setTop (mkF m 249 #[.val (.int p1), .val (.int p2), .val (.int p3), .val (.int p4), .val (.int p5), .val (.int (2 : Int32)), .val (.int v0), .val (.int v1), .val (.int v2), .val (.ref la), .val (.ref a), .val (.ref r), .val (.int (1 : Int32)), .val (.int (2 : Int32)), .unset, .unset, .unset] [(.ref r)])) (fun t k => XS.aload X45.here hx rfl (hb hby at_247) rfl rfl k) ?_
      obtain ⟨cl49, Ar49, q49, Sz49, Ng49, -, -⟩ := id V_r
      have ln49 := len_of Sz49 Ng49
      refine Goes.pre (U' := T45.setTop (mkF m 250 #[.val (.int p1), .val (.int p2), .val (.int p3), .val (.int p4), .val (.int p5), .val (.int (2 : Int32)), .val (.int v0), .val (.int v1), .val (.int v2), .val (.ref la), .val (.ref a), .val (.ref r), .val (.int (1 : Int32)), .val (.int (2 : Int32)), .unset, .unset, .unset] [(.int (2 : Int32))])) (fun t k => X45.arraylength hx Ar49.1 (State.isArrayOf_alike hZ.alike Ar49.2.1) (g := (mkF m 249 #[.val (.int p1), .val (.int p2), .val (.int p3), .val (.int p4), .val (.int p5), .val (.int (2 : Int32)), .val (.int v0), .val (.int v1), .val (.int v2), .val (.ref la), .val (.ref a), .val (.ref r), .val (.int (1 : Int32)), .val (.int (2 : Int32)), .unset, .unset, .unset] [(.ref r)])) rfl rfl (hb hby at_249) _ (by rw [ln49]; exact k)) ?_
      refine Goes.pre (U' := T45.setTop (mkF m 252 #[.val (.int p1), .val (.int p2), .val (.int p3), .val (.int p4), .val (.int p5), .val (.int (2 : Int32)), .val (.int v0), .val (.int v1), .val (.int v2), .val (.ref la), .val (.ref a), .val (.ref r), .val (.int (1 : Int32)), .val (.int (2 : Int32)), .unset, .unset, .unset] [(.int (2 : Int32)), (.int (2 : Int32))])) (fun t k => XS.iload X45.here hx rfl (hb hby at_250) rfl k) ?_
      have hc252 : (2 : Int32) = (2 : Int32) := rfl
      refine Goes.pre (U' := T45.setTop (mkF m 257 #[.val (.int p1), .val (.int p2), .val (.int p3), .val (.int p4), .val (.int p5), .val (.int (2 : Int32)), .val (.int v0), .val (.int v1), .val (.int v2), .val (.ref la), .val (.ref a), .val (.ref r), .val (.int (1 : Int32)), .val (.int (2 : Int32)), .unset, .unset, .unset] [])) (fun t k => XS.icmpYes X45.here hx rfl (pc0 := 252) (pc' := 257) rfl (hb hby at_252) rfl (teq hc252).1 (by decide) (by decide) k) ?_
      refine Goes.pre (U' := T45.setTop (mkF m 259 #[.val (.int p1), .val (.int p2), .val (.int p3), .val (.int p4), .val (.int p5), .val (.int (2 : Int32)), .val (.int v0), .val (.int v1), .val (.int v2), .val (.ref la), .val (.ref a), .val (.ref r), .val (.int (1 : Int32)), .val (.int (2 : Int32)), .unset, .unset, .unset] [(.int (2 : Int32))])) (fun t k => XS.iload X45.here hx rfl (hb hby at_257) rfl k) ?_
      refine Goes.pre (U' := T45.setTop (mkF m 260 #[.val (.int p1), .val (.int p2), .val (.int p3), .val (.int p4), .val (.int p5), .val (.int (2 : Int32)), .val (.int v0), .val (.int v1), .val (.int v2), .val (.ref la), .val (.ref a), .val (.ref r), .val (.int (1 : Int32)), .val (.int (2 : Int32)), .unset, .unset, .unset] [(.int (1 : Int32)), (.int (2 : Int32))])) (fun t k => XS.iconst X45.here hx rfl (hb hby at_259) k) ?_
      have hc260 : ¬ ((2 : Int32) = (1 : Int32)) := by decide
      refine Goes.pre (U' := T45.setTop (mkF m 271 #[.val (.int p1), .val (.int p2), .val (.int p3), .val (.int p4), .val (.int p5), .val (.int (2 : Int32)), .val (.int v0), .val (.int v1), .val (.int v2), .val (.ref la), .val (.ref a), .val (.ref r), .val (.int (1 : Int32)), .val (.int (2 : Int32)), .unset, .unset, .unset] [])) (fun t k => XS.icmpYes X45.here hx rfl (pc0 := 260) (pc' := 271) rfl (hb hby at_260) rfl (feq hc260).2 (by decide) (by decide) k) ?_
      refine Goes.pre (U' := T45.setTop (mkF m 273 #[.val (.int p1), .val (.int p2), .val (.int p3), .val (.int p4), .val (.int p5), .val (.int (2 : Int32)), .val (.int v0), .val (.int v1), .val (.int v2), .val (.ref la), .val (.ref a), .val (.ref r), .val (.int (1 : Int32)), .val (.int (2 : Int32)), .unset, .unset, .unset] [(.int v0)])) (fun t k => XS.iload X45.here hx rfl (hb hby at_271) rfl k) ?_
      refine Goes.pre (U' := T45.setTop (mkF m 275 #[.val (.int p1), .val (.int p2), .val (.int p3), .val (.int p4), .val (.int p5), .val (.int (2 : Int32)), .val (.int v0), .val (.int v1), .val (.int v2), .val (.ref la), .val (.ref a), .val (.ref r), .val (.int (1 : Int32)), .val (.int (2 : Int32)), .val (.int v0), .unset, .unset] [])) (fun t k => XS.istore X45.here hx rfl (hb hby at_273) rfl (l' := #[.val (.int p1), .val (.int p2), .val (.int p3), .val (.int p4), .val (.int p5), .val (.int (2 : Int32)), .val (.int v0), .val (.int v1), .val (.int v2), .val (.ref la), .val (.ref a), .val (.ref r), .val (.int (1 : Int32)), .val (.int (2 : Int32)), .val (.int v0), .unset, .unset]) rfl k) ?_
      refine Goes.pre (U' := T45.setTop (mkF m 277 #[.val (.int p1), .val (.int p2), .val (.int p3), .val (.int p4), .val (.int p5), .val (.int (2 : Int32)), .val (.int v0), .val (.int v1), .val (.int v2), .val (.ref la), .val (.ref a), .val (.ref r), .val (.int (1 : Int32)), .val (.int (2 : Int32)), .val (.int v0), .unset, .unset] [(.int (2 : Int32))])) (fun t k => XS.iload X45.here hx rfl (hb hby at_275) rfl k) ?_
      refine Goes.pre (U' := T45.setTop (mkF m 278 #[.val (.int p1), .val (.int p2), .val (.int p3), .val (.int p4), .val (.int p5), .val (.int (2 : Int32)), .val (.int v0), .val (.int v1), .val (.int v2), .val (.ref la), .val (.ref a), .val (.ref r), .val (.int (1 : Int32)), .val (.int (2 : Int32)), .val (.int v0), .unset, .unset] [(.int (2 : Int32)), (.int (2 : Int32))])) (fun t k => XS.iconst X45.here hx rfl (hb hby at_277) k) ?_
      have hc278 : (2 : Int32) = (2 : Int32) := rfl
      refine Goes.pre (U' := T45.setTop (mkF m 281 #[.val (.int p1), .val (.int p2), .val (.int p3), .val (.int p4), .val (.int p5), .val (.int (2 : Int32)), .val (.int v0), .val (.int v1), .val (.int v2), .val (.ref la), .val (.ref a), .val (.ref r), .val (.int (1 : Int32)), .val (.int (2 : Int32)), .val (.int v0), .unset, .unset] [])) (fun t k => XS.icmpNo X45.here hx rfl (hb hby at_278) rfl (teq hc278).2 k) ?_
      refine Goes.pre (U' := T45.setTop (mkF m 283 #[.val (.int p1), .val (.int p2), .val (.int p3), .val (.int p4), .val (.int p5), .val (.int (2 : Int32)), .val (.int v0), .val (.int v1), .val (.int v2), .val (.ref la), .val (.ref a), .val (.ref r), .val (.int (1 : Int32)), .val (.int (2 : Int32)), .val (.int v0), .unset, .unset] [(.int v1)])) (fun t k => XS.iload X45.here hx rfl (hb hby at_281) rfl k) ?_
      refine Goes.pre (U' := T45.setTop (mkF m 284 #[.val (.int p1), .val (.int p2), .val (.int p3), .val (.int p4), .val (.int p5), .val (.int (2 : Int32)), .val (.int v0), .val (.int v1), .val (.int v2), .val (.ref la), .val (.ref a), .val (.ref r), .val (.int (1 : Int32)), .val (.int (2 : Int32)), .val (.int v0), .unset, .unset] [(.int (1 : Int32)), (.int v1)])) (fun t k => XS.iconst X45.here hx rfl (hb hby at_283) k) ?_
      refine Goes.pre (U' := T45.setTop (mkF m 285 #[.val (.int p1), .val (.int p2), .val (.int p3), .val (.int p4), .val (.int p5), .val (.int (2 : Int32)), .val (.int v0), .val (.int v1), .val (.int v2), .val (.ref la), .val (.ref a), .val (.ref r), .val (.int (1 : Int32)), .val (.int (2 : Int32)), .val (.int v0), .unset, .unset] [(.int (v1 + (1 : Int32)))])) (fun t k => XS.iadd X45.here hx rfl (hb hby at_284) rfl k) ?_
      refine Goes.pre (U' := T45.setTop (mkF m 286 #[.val (.int p1), .val (.int p2), .val (.int p3), .val (.int p4), .val (.int p5), .val (.int (2 : Int32)), .val (.int v0), .val (.int v1), .val (.int v2), .val (.ref la), .val (.ref a), .val (.ref r), .val (.int (1 : Int32)), .val (.int (2 : Int32)), .val (.int v0), .unset, .unset] [(.int ((v1 + (1 : Int32)).toInt8.toInt32))])) (fun t k => XS.i2b X45.here hx rfl (hb hby at_285) rfl k) ?_
      refine Goes.pre (U' := T45.setTop (mkF m 291 #[.val (.int p1), .val (.int p2), .val (.int p3), .val (.int p4), .val (.int p5), .val (.int (2 : Int32)), .val (.int v0), .val (.int v1), .val (.int v2), .val (.ref la), .val (.ref a), .val (.ref r), .val (.int (1 : Int32)), .val (.int (2 : Int32)), .val (.int v0), .unset, .unset] [(.int ((v1 + (1 : Int32)).toInt8.toInt32))])) (fun t k => XS.goto X45.here hx rfl (pc0 := 286) (pc' := 291) rfl (hb hby at_286) (by decide) (by decide) k) ?_
      refine Goes.pre (U' := T45.setTop (mkF m 293 #[.val (.int p1), .val (.int p2), .val (.int p3), .val (.int p4), .val (.int p5), .val (.int (2 : Int32)), .val (.int v0), .val (.int v1), .val (.int v2), .val (.ref la), .val (.ref a), .val (.ref r), .val (.int (1 : Int32)), .val (.int (2 : Int32)), .val (.int v0), .val (.int ((v1 + (1 : Int32)).toInt8.toInt32)), .unset] [])) (fun t k => XS.istore X45.here hx rfl (hb hby at_291) rfl (l' := #[.val (.int p1), .val (.int p2), .val (.int p3), .val (.int p4), .val (.int p5), .val (.int (2 : Int32)), .val (.int v0), .val (.int v1), .val (.int v2), .val (.ref la), .val (.ref a), .val (.ref r), .val (.int (1 : Int32)), .val (.int (2 : Int32)), .val (.int v0), .val (.int ((v1 + (1 : Int32)).toInt8.toInt32)), .unset]) rfl k) ?_
      refine Goes.pre (U' := T45.setTop (mkF m 295 #[.val (.int p1), .val (.int p2), .val (.int p3), .val (.int p4), .val (.int p5), .val (.int (2 : Int32)), .val (.int v0), .val (.int v1), .val (.int v2), .val (.ref la), .val (.ref a), .val (.ref r), .val (.int (1 : Int32)), .val (.int (2 : Int32)), .val (.int v0), .val (.int ((v1 + (1 : Int32)).toInt8.toInt32)), .unset] [(.int v2)])) (fun t k => XS.iload X45.here hx rfl (hb hby at_293) rfl k) ?_
      refine Goes.pre (U' := T45.setTop (mkF m 296 #[.val (.int p1), .val (.int p2), .val (.int p3), .val (.int p4), .val (.int p5), .val (.int (2 : Int32)), .val (.int v0), .val (.int v1), .val (.int v2), .val (.ref la), .val (.ref a), .val (.ref r), .val (.int (1 : Int32)), .val (.int (2 : Int32)), .val (.int v0), .val (.int ((v1 + (1 : Int32)).toInt8.toInt32)), .unset] [(.int (1 : Int32)), (.int v2)])) (fun t k => XS.iconst X45.here hx rfl (hb hby at_295) k) ?_
      refine Goes.pre (U' := T45.setTop (mkF m 297 #[.val (.int p1), .val (.int p2), .val (.int p3), .val (.int p4), .val (.int p5), .val (.int (2 : Int32)), .val (.int v0), .val (.int v1), .val (.int v2), .val (.ref la), .val (.ref a), .val (.ref r), .val (.int (1 : Int32)), .val (.int (2 : Int32)), .val (.int v0), .val (.int ((v1 + (1 : Int32)).toInt8.toInt32)), .unset] [(.int (v2 + (1 : Int32)))])) (fun t k => XS.iadd X45.here hx rfl (hb hby at_296) rfl k) ?_
      refine Goes.pre (U' := T45.setTop (mkF m 298 #[.val (.int p1), .val (.int p2), .val (.int p3), .val (.int p4), .val (.int p5), .val (.int (2 : Int32)), .val (.int v0), .val (.int v1), .val (.int v2), .val (.ref la), .val (.ref a), .val (.ref r), .val (.int (1 : Int32)), .val (.int (2 : Int32)), .val (.int v0), .val (.int ((v1 + (1 : Int32)).toInt8.toInt32)), .unset] [(.int ((v2 + (1 : Int32)).toInt8.toInt32))])) (fun t k => XS.i2b X45.here hx rfl (hb hby at_297) rfl k) ?_
      refine Goes.pre (U' := T45.setTop (mkF m 300 #[.val (.int p1), .val (.int p2), .val (.int p3), .val (.int p4), .val (.int p5), .val (.int (2 : Int32)), .val (.int v0), .val (.int v1), .val (.int v2), .val (.ref la), .val (.ref a), .val (.ref r), .val (.int (1 : Int32)), .val (.int (2 : Int32)), .val (.int v0), .val (.int ((v1 + (1 : Int32)).toInt8.toInt32)), .val (.int ((v2 + (1 : Int32)).toInt8.toInt32))] [])) (fun t k => XS.istore X45.here hx rfl (hb hby at_298) rfl (l' := #[.val (.int p1), .val (.int p2), .val (.int p3), .val (.int p4), .val (.int p5), .val (.int (2 : Int32)), .val (.int v0), .val (.int v1), .val (.int v2), .val (.ref la), .val (.ref a), .val (.ref r), .val (.int (1 : Int32)), .val (.int (2 : Int32)), .val (.int v0), .val (.int ((v1 + (1 : Int32)).toInt8.toInt32)), .val (.int ((v2 + (1 : Int32)).toInt8.toInt32))]) rfl k) ?_
      refine Goes.pre (U' := T45.setTop (mkF m 302 #[.val (.int p1), .val (.int p2), .val (.int p3), .val (.int p4), .val (.int p5), .val (.int (2 : Int32)), .val (.int v0), .val (.int v1), .val (.int v2), .val (.ref la), .val (.ref a), .val (.ref r), .val (.int (1 : Int32)), .val (.int (2 : Int32)), .val (.int v0), .val (.int ((v1 + (1 : Int32)).toInt8.toInt32)), .val (.int ((v2 + (1 : Int32)).toInt8.toInt32))] [(.int (1 : Int32))])) (fun t k => XS.iload X45.here hx rfl (hb hby at_300) rfl k) ?_
      have hc302 : ¬ ((1 : Int32) = (0 : Int32)) := by decide
      refine Goes.pre (U' := T45.setTop (mkF m 305 #[.val (.int p1), .val (.int p2), .val (.int p3), .val (.int p4), .val (.int p5), .val (.int (2 : Int32)), .val (.int v0), .val (.int v1), .val (.int v2), .val (.ref la), .val (.ref a), .val (.ref r), .val (.int (1 : Int32)), .val (.int (2 : Int32)), .val (.int v0), .val (.int ((v1 + (1 : Int32)).toInt8.toInt32)), .val (.int ((v2 + (1 : Int32)).toInt8.toInt32))] [])) (fun t k => XS.ifNo X45.here hx rfl (hb hby at_302) rfl ((if0 _ _).trans (feq hc302).1) k) ?_
      refine Goes.pre (U' := T45.setTop (mkF m 307 #[.val (.int p1), .val (.int p2), .val (.int p3), .val (.int p4), .val (.int p5), .val (.int (2 : Int32)), .val (.int v0), .val (.int v1), .val (.int v2), .val (.ref la), .val (.ref a), .val (.ref r), .val (.int (1 : Int32)), .val (.int (2 : Int32)), .val (.int v0), .val (.int ((v1 + (1 : Int32)).toInt8.toInt32)), .val (.int ((v2 + (1 : Int32)).toInt8.toInt32))] [(.ref r)])) (fun t k => XS.aload X45.here hx rfl (hb hby at_305) rfl rfl k) ?_
      refine Goes.pre (U' := T45.setTop (mkF m 308 #[.val (.int p1), .val (.int p2), .val (.int p3), .val (.int p4), .val (.int p5), .val (.int (2 : Int32)), .val (.int v0), .val (.int v1), .val (.int v2), .val (.ref la), .val (.ref a), .val (.ref r), .val (.int (1 : Int32)), .val (.int (2 : Int32)), .val (.int v0), .val (.int ((v1 + (1 : Int32)).toInt8.toInt32)), .val (.int ((v2 + (1 : Int32)).toInt8.toInt32))] [(.int (0 : Int32)), (.ref r)])) (fun t k => XS.iconst X45.here hx rfl (hb hby at_307) k) ?_
      obtain ⟨cl50, Ar50, q50, Sz50, Ng50, Hs50, Ft50⟩ := id V_r
      have hin50 := inb_of (j := (0 : Int32)) Sz50 ⟨by decide, by decide⟩
      refine Goes.pre (U' := T45.setTop (mkF m 309 #[.val (.int p1), .val (.int p2), .val (.int p3), .val (.int p4), .val (.int p5), .val (.int (2 : Int32)), .val (.int v0), .val (.int v1), .val (.int v2), .val (.ref la), .val (.ref a), .val (.ref r), .val (.int (1 : Int32)), .val (.int (2 : Int32)), .val (.int v0), .val (.int ((v1 + (1 : Int32)).toInt8.toInt32)), .val (.int ((v2 + (1 : Int32)).toInt8.toInt32))] [(.int v0)])) (fun t k => X45.baloadBytes hx (j := (0 : Int32)) (v := (.int v0)) Ar50.1 (State.isArrayOf_alike hZ.alike Ar50.2.1) Ar50.2.2 hin50 (Has.at Hs50 hin50 rfl) (g := (mkF m 308 #[.val (.int p1), .val (.int p2), .val (.int p3), .val (.int p4), .val (.int p5), .val (.int (2 : Int32)), .val (.int v0), .val (.int v1), .val (.int v2), .val (.ref la), .val (.ref a), .val (.ref r), .val (.int (1 : Int32)), .val (.int (2 : Int32)), .val (.int v0), .val (.int ((v1 + (1 : Int32)).toInt8.toInt32)), .val (.int ((v2 + (1 : Int32)).toInt8.toInt32))] [(.int (0 : Int32)), (.ref r)])) rfl rfl (hb hby at_308) _ k) ?_
      refine Goes.pre (U' := T45.setTop (mkF m 311 #[.val (.int p1), .val (.int p2), .val (.int p3), .val (.int p4), .val (.int p5), .val (.int (2 : Int32)), .val (.int v0), .val (.int v1), .val (.int v2), .val (.ref la), .val (.ref a), .val (.ref r), .val (.int (1 : Int32)), .val (.int (2 : Int32)), .val (.int v0), .val (.int ((v1 + (1 : Int32)).toInt8.toInt32)), .val (.int ((v2 + (1 : Int32)).toInt8.toInt32))] [(.int v0), (.int v0)])) (fun t k => XS.iload X45.here hx rfl (hb hby at_309) rfl k) ?_
      have hc311 : v0 = v0 := rfl
      refine Goes.pre (U' := T45.setTop (mkF m 314 #[.val (.int p1), .val (.int p2), .val (.int p3), .val (.int p4), .val (.int p5), .val (.int (2 : Int32)), .val (.int v0), .val (.int v1), .val (.int v2), .val (.ref la), .val (.ref a), .val (.ref r), .val (.int (1 : Int32)), .val (.int (2 : Int32)), .val (.int v0), .val (.int ((v1 + (1 : Int32)).toInt8.toInt32)), .val (.int ((v2 + (1 : Int32)).toInt8.toInt32))] [])) (fun t k => XS.icmpNo X45.here hx rfl (hb hby at_311) rfl (teq hc311).2 k) ?_
      refine Goes.pre (U' := T45.setTop (mkF m 316 #[.val (.int p1), .val (.int p2), .val (.int p3), .val (.int p4), .val (.int p5), .val (.int (2 : Int32)), .val (.int v0), .val (.int v1), .val (.int v2), .val (.ref la), .val (.ref a), .val (.ref r), .val (.int (1 : Int32)), .val (.int (2 : Int32)), .val (.int v0), .val (.int ((v1 + (1 : Int32)).toInt8.toInt32)), .val (.int ((v2 + (1 : Int32)).toInt8.toInt32))] [(.int (2 : Int32))])) (fun t k => XS.iload X45.here hx rfl (hb hby at_314) rfl k) ?_
      refine Goes.pre (U' := T45.setTop (mkF m 317 #[.val (.int p1), .val (.int p2), .val (.int p3), .val (.int p4), .val (.int p5), .val (.int (2 : Int32)), .val (.int v0), .val (.int v1), .val (.int v2), .val (.ref la), .val (.ref a), .val (.ref r), .val (.int (1 : Int32)), .val (.int (2 : Int32)), .val (.int v0), .val (.int ((v1 + (1 : Int32)).toInt8.toInt32)), .val (.int ((v2 + (1 : Int32)).toInt8.toInt32))] [(.int (2 : Int32)), (.int (2 : Int32))])) (fun t k => XS.iconst X45.here hx rfl (hb hby at_316) k) ?_
      have hc317 : ¬ ((2 : Int32) < (2 : Int32)) := by decide
      refine Goes.pre (U' := T45.setTop (mkF m 320 #[.val (.int p1), .val (.int p2), .val (.int p3), .val (.int p4), .val (.int p5), .val (.int (2 : Int32)), .val (.int v0), .val (.int v1), .val (.int v2), .val (.ref la), .val (.ref a), .val (.ref r), .val (.int (1 : Int32)), .val (.int (2 : Int32)), .val (.int v0), .val (.int ((v1 + (1 : Int32)).toInt8.toInt32)), .val (.int ((v2 + (1 : Int32)).toInt8.toInt32))] [])) (fun t k => XS.icmpNo X45.here hx rfl (hb hby at_317) rfl (flt hc317).1 k) ?_
      refine Goes.pre (U' := T45.setTop (mkF m 322 #[.val (.int p1), .val (.int p2), .val (.int p3), .val (.int p4), .val (.int p5), .val (.int (2 : Int32)), .val (.int v0), .val (.int v1), .val (.int v2), .val (.ref la), .val (.ref a), .val (.ref r), .val (.int (1 : Int32)), .val (.int (2 : Int32)), .val (.int v0), .val (.int ((v1 + (1 : Int32)).toInt8.toInt32)), .val (.int ((v2 + (1 : Int32)).toInt8.toInt32))] [(.ref r)])) (fun t k => XS.aload X45.here hx rfl (hb hby at_320) rfl rfl k) ?_
      refine Goes.pre (U' := T45.setTop (mkF m 323 #[.val (.int p1), .val (.int p2), .val (.int p3), .val (.int p4), .val (.int p5), .val (.int (2 : Int32)), .val (.int v0), .val (.int v1), .val (.int v2), .val (.ref la), .val (.ref a), .val (.ref r), .val (.int (1 : Int32)), .val (.int (2 : Int32)), .val (.int v0), .val (.int ((v1 + (1 : Int32)).toInt8.toInt32)), .val (.int ((v2 + (1 : Int32)).toInt8.toInt32))] [(.int (1 : Int32)), (.ref r)])) (fun t k => XS.iconst X45.here hx rfl (hb hby at_322) k) ?_
      obtain ⟨cl51, Ar51, q51, Sz51, Ng51, Hs51, Ft51⟩ := id V_r
      have hin51 := inb_of (j := (1 : Int32)) Sz51 ⟨by decide, by decide⟩
      refine Goes.pre (U' := T45.setTop (mkF m 324 #[.val (.int p1), .val (.int p2), .val (.int p3), .val (.int p4), .val (.int p5), .val (.int (2 : Int32)), .val (.int v0), .val (.int v1), .val (.int v2), .val (.ref la), .val (.ref a), .val (.ref r), .val (.int (1 : Int32)), .val (.int (2 : Int32)), .val (.int v0), .val (.int ((v1 + (1 : Int32)).toInt8.toInt32)), .val (.int ((v2 + (1 : Int32)).toInt8.toInt32))] [(.int ((v1 + (1 : Int32)).toInt8.toInt32))])) (fun t k => X45.baloadBytes hx (j := (1 : Int32)) (v := (.int ((v1 + (1 : Int32)).toInt8.toInt32))) Ar51.1 (State.isArrayOf_alike hZ.alike Ar51.2.1) Ar51.2.2 hin51 (Has.at Hs51 hin51 rfl) (g := (mkF m 323 #[.val (.int p1), .val (.int p2), .val (.int p3), .val (.int p4), .val (.int p5), .val (.int (2 : Int32)), .val (.int v0), .val (.int v1), .val (.int v2), .val (.ref la), .val (.ref a), .val (.ref r), .val (.int (1 : Int32)), .val (.int (2 : Int32)), .val (.int v0), .val (.int ((v1 + (1 : Int32)).toInt8.toInt32)), .val (.int ((v2 + (1 : Int32)).toInt8.toInt32))] [(.int (1 : Int32)), (.ref r)])) rfl rfl (hb hby at_323) _ k) ?_
      refine Goes.pre (U' := T45.setTop (mkF m 326 #[.val (.int p1), .val (.int p2), .val (.int p3), .val (.int p4), .val (.int p5), .val (.int (2 : Int32)), .val (.int v0), .val (.int v1), .val (.int v2), .val (.ref la), .val (.ref a), .val (.ref r), .val (.int (1 : Int32)), .val (.int (2 : Int32)), .val (.int v0), .val (.int ((v1 + (1 : Int32)).toInt8.toInt32)), .val (.int ((v2 + (1 : Int32)).toInt8.toInt32))] [(.int ((v1 + (1 : Int32)).toInt8.toInt32)), (.int ((v1 + (1 : Int32)).toInt8.toInt32))])) (fun t k => XS.iload X45.here hx rfl (hb hby at_324) rfl k) ?_
      have hc326 : ((v1 + (1 : Int32)).toInt8.toInt32) = ((v1 + (1 : Int32)).toInt8.toInt32) := rfl
      refine Goes.pre (U' := T45.setTop (mkF m 329 #[.val (.int p1), .val (.int p2), .val (.int p3), .val (.int p4), .val (.int p5), .val (.int (2 : Int32)), .val (.int v0), .val (.int v1), .val (.int v2), .val (.ref la), .val (.ref a), .val (.ref r), .val (.int (1 : Int32)), .val (.int (2 : Int32)), .val (.int v0), .val (.int ((v1 + (1 : Int32)).toInt8.toInt32)), .val (.int ((v2 + (1 : Int32)).toInt8.toInt32))] [])) (fun t k => XS.icmpNo X45.here hx rfl (hb hby at_326) rfl (teq hc326).2 k) ?_
      refine Goes.pre (U' := T45.setTop (mkF m 331 #[.val (.int p1), .val (.int p2), .val (.int p3), .val (.int p4), .val (.int p5), .val (.int (2 : Int32)), .val (.int v0), .val (.int v1), .val (.int v2), .val (.ref la), .val (.ref a), .val (.ref r), .val (.int (1 : Int32)), .val (.int (2 : Int32)), .val (.int v0), .val (.int ((v1 + (1 : Int32)).toInt8.toInt32)), .val (.int ((v2 + (1 : Int32)).toInt8.toInt32))] [(.int (2 : Int32))])) (fun t k => XS.iload X45.here hx rfl (hb hby at_329) rfl k) ?_
      refine Goes.pre (U' := T45.setTop (mkF m 332 #[.val (.int p1), .val (.int p2), .val (.int p3), .val (.int p4), .val (.int p5), .val (.int (2 : Int32)), .val (.int v0), .val (.int v1), .val (.int v2), .val (.ref la), .val (.ref a), .val (.ref r), .val (.int (1 : Int32)), .val (.int (2 : Int32)), .val (.int v0), .val (.int ((v1 + (1 : Int32)).toInt8.toInt32)), .val (.int ((v2 + (1 : Int32)).toInt8.toInt32))] [(.int (3 : Int32)), (.int (2 : Int32))])) (fun t k => XS.iconst X45.here hx rfl (hb hby at_331) k) ?_
      have hc332 : (2 : Int32) < (3 : Int32) := by decide
      refine Goes.pre (U' := T45.setTop (mkF m 344 #[.val (.int p1), .val (.int p2), .val (.int p3), .val (.int p4), .val (.int p5), .val (.int (2 : Int32)), .val (.int v0), .val (.int v1), .val (.int v2), .val (.ref la), .val (.ref a), .val (.ref r), .val (.int (1 : Int32)), .val (.int (2 : Int32)), .val (.int v0), .val (.int ((v1 + (1 : Int32)).toInt8.toInt32)), .val (.int ((v2 + (1 : Int32)).toInt8.toInt32))] [])) (fun t k => XS.icmpYes X45.here hx rfl (pc0 := 332) (pc' := 344) rfl (hb hby at_332) rfl (tlt hc332).1 (by decide) (by decide) k) ?_
      refine Goes.pre (U' := T45.setTop (mkF m 345 #[.val (.int p1), .val (.int p2), .val (.int p3), .val (.int p4), .val (.int p5), .val (.int (2 : Int32)), .val (.int v0), .val (.int v1), .val (.int v2), .val (.ref la), .val (.ref a), .val (.ref r), .val (.int (1 : Int32)), .val (.int (2 : Int32)), .val (.int v0), .val (.int ((v1 + (1 : Int32)).toInt8.toInt32)), .val (.int ((v2 + (1 : Int32)).toInt8.toInt32))] [(.int (1 : Int32))])) (fun t k => XS.iconst X45.here hx rfl (hb hby at_344) k) ?_
      refine Goes.pre (U' := T45.setTop (mkF m 349 #[.val (.int p1), .val (.int p2), .val (.int p3), .val (.int p4), .val (.int p5), .val (.int (2 : Int32)), .val (.int v0), .val (.int v1), .val (.int v2), .val (.ref la), .val (.ref a), .val (.ref r), .val (.int (1 : Int32)), .val (.int (2 : Int32)), .val (.int v0), .val (.int ((v1 + (1 : Int32)).toInt8.toInt32)), .val (.int ((v2 + (1 : Int32)).toInt8.toInt32))] [(.int (1 : Int32))])) (fun t k => XS.goto X45.here hx rfl (pc0 := 345) (pc' := 349) rfl (hb hby at_345) (by decide) (by decide) k) ?_
      refine Goes.ret X45 (v := (some (.int (1 : Int32)))) (fun h => by rw [Bd.returns] at h; cases h) Bd.notSynchronized (by decide) (by decide) rfl (fun fs hr => retN X45 hx (t := .boolean) Bd.returns (by simp) (hb hby at_349) hr) ?_
      exact ⟨rfl, N45⟩
  ·
    refine Goes.pre (U' := s₁.setTop (mkF m 52 #[.val (.int p1), .val (.int p2), .val (.int p3), .val (.int p4), .val (.int p5), .val (.int (3 : Int32)), .val (.int v0), .val (.int v1), .val (.int v2), .unset, .unset, .unset, .unset, .unset, .unset, .unset, .unset] [(.int (3 : Int32))])) (fun t k => XS.iload X0.here hx rfl (hb hby at_50) rfl k) ?_
    obtain ⟨T52, h52, k52, X52, e52, E52, A52, B52, st52⟩ := newPE X0 hx hZ (hw _ (List.mem_of_getElem? (i := 0) rfl)) e0 (g := (mkF m 52 #[.val (.int p1), .val (.int p2), .val (.int p3), .val (.int p4), .val (.int p5), .val (.int (3 : Int32)), .val (.int v0), .val (.int v1), .val (.int v2), .unset, .unset, .unset, .unset, .unset, .unset, .unset, .unset] [(.int (3 : Int32))])) rfl (hb hby at_52) rfl (by decide) (cap := 3) (by decide) (by decide) (by decide) (by decide) (ad := "[B") (by decide)
    obtain ⟨la, g52⟩ : ∃ z, z = h0.size := ⟨_, rfl⟩
    rw [← g52] at A52 B52 st52
    have g_la : n0 ≤ la := Nat.le_trans Z0 (Nat.le_of_eq g52.symm)
    have Z52 : n0 ≤ h52.size := Nat.le_trans Z0 E52.1
    have E_la := B52
    have V_la : Arv Z h52 la k52 .byte (3 : Int32) [(.int (0 : Int32)), (.int (0 : Int32)), (.int (0 : Int32))] (.int (0 : Int32)) := (Arv.new A52 (by decide)).pad (pad_rep [] (.int (0 : Int32)) 3)
    refine Goes.pre (U' := T52.setTop (mkF m 54 #[.val (.int p1), .val (.int p2), .val (.int p3), .val (.int p4), .val (.int p5), .val (.int (3 : Int32)), .val (.int v0), .val (.int v1), .val (.int v2), .unset, .unset, .unset, .unset, .unset, .unset, .unset, .unset] [(.ref la)])) (fun t k => st52 t k) ?_
    refine Goes.pre (U' := T52.setTop (mkF m 56 #[.val (.int p1), .val (.int p2), .val (.int p3), .val (.int p4), .val (.int p5), .val (.int (3 : Int32)), .val (.int v0), .val (.int v1), .val (.int v2), .val (.ref la), .unset, .unset, .unset, .unset, .unset, .unset, .unset] [])) (fun t k => XS.astore X52.here hx rfl (hb hby at_54) rfl rfl (l' := #[.val (.int p1), .val (.int p2), .val (.int p3), .val (.int p4), .val (.int p5), .val (.int (3 : Int32)), .val (.int v0), .val (.int v1), .val (.int v2), .val (.ref la), .unset, .unset, .unset, .unset, .unset, .unset, .unset]) rfl k) ?_
    refine Goes.pre (U' := T52.setTop (mkF m 58 #[.val (.int p1), .val (.int p2), .val (.int p3), .val (.int p4), .val (.int p5), .val (.int (3 : Int32)), .val (.int v0), .val (.int v1), .val (.int v2), .val (.ref la), .unset, .unset, .unset, .unset, .unset, .unset, .unset] [(.int (3 : Int32))])) (fun t k => XS.iload X52.here hx rfl (hb hby at_56) rfl k) ?_
    have hc58 : (0 : Int32) < (3 : Int32) := by decide
    refine Goes.pre (U' := T52.setTop (mkF m 61 #[.val (.int p1), .val (.int p2), .val (.int p3), .val (.int p4), .val (.int p5), .val (.int (3 : Int32)), .val (.int v0), .val (.int v1), .val (.int v2), .val (.ref la), .unset, .unset, .unset, .unset, .unset, .unset, .unset] [])) (fun t k => XS.ifNo X52.here hx rfl (hb hby at_58) rfl ((if0 _ _).trans (tlt hc58).2.2.2) k) ?_
    refine Goes.pre (U' := T52.setTop (mkF m 63 #[.val (.int p1), .val (.int p2), .val (.int p3), .val (.int p4), .val (.int p5), .val (.int (3 : Int32)), .val (.int v0), .val (.int v1), .val (.int v2), .val (.ref la), .unset, .unset, .unset, .unset, .unset, .unset, .unset] [(.ref la)])) (fun t k => XS.aload X52.here hx rfl (hb hby at_61) rfl rfl k) ?_
    refine Goes.pre (U' := T52.setTop (mkF m 64 #[.val (.int p1), .val (.int p2), .val (.int p3), .val (.int p4), .val (.int p5), .val (.int (3 : Int32)), .val (.int v0), .val (.int v1), .val (.int v2), .val (.ref la), .unset, .unset, .unset, .unset, .unset, .unset, .unset] [(.int (0 : Int32)), (.ref la)])) (fun t k => XS.iconst X52.here hx rfl (hb hby at_63) k) ?_
    refine Goes.pre (U' := T52.setTop (mkF m 66 #[.val (.int p1), .val (.int p2), .val (.int p3), .val (.int p4), .val (.int p5), .val (.int (3 : Int32)), .val (.int v0), .val (.int v1), .val (.int v2), .val (.ref la), .unset, .unset, .unset, .unset, .unset, .unset, .unset] [(.int v0), (.int (0 : Int32)), (.ref la)])) (fun t k => XS.iload X52.here hx rfl (hb hby at_64) rfl k) ?_
    obtain ⟨cl53, Ar53, q53, Sz53, Ng53, Hs53, Ft53⟩ := id V_la
    obtain ⟨T53, h53, X53, e53, W53, st53⟩ := stB X52 hx hZ e52 Ar53 (j := (0 : Int32)) (inb_of Sz53 ⟨by decide, by decide⟩) (g := (mkF m 66 #[.val (.int p1), .val (.int p2), .val (.int p3), .val (.int p4), .val (.int p5), .val (.int (3 : Int32)), .val (.int v0), .val (.int v1), .val (.int v2), .val (.ref la), .unset, .unset, .unset, .unset, .unset, .unset, .unset] [(.int v0), (.int (0 : Int32)), (.ref la)])) rfl rfl (hb hby at_66)
    have nr53 : nar .byte v0 = v0 := hv0
    have ft53 : fits .byte (.int v0) = true := nr53 ▸ (fits_nar_byte v0 : fits .byte (.int (nar .byte v0)) = true)
    rw [nr53] at W53
    have E_la := E_la.wr W53
    have Z53 : n0 ≤ h53.size := Nat.le_trans Z52 (Keep.of_wr W53).1
    have V_la : Arv Z h53 la k52 .byte (3 : Int32) [(.int v0), (.int (0 : Int32)), (.int (0 : Int32))] (.int (0 : Int32)) := Arv.set Ar53 q53 Sz53 Ng53 Hs53 Ft53 ft53 W53 0 rfl (Nat.le_of_ble_eq_true rfl)
    have N53 := Fr.snoc X53 N0 g_la
    refine Goes.pre (U' := T53.setTop (mkF m 67 #[.val (.int p1), .val (.int p2), .val (.int p3), .val (.int p4), .val (.int p5), .val (.int (3 : Int32)), .val (.int v0), .val (.int v1), .val (.int v2), .val (.ref la), .unset, .unset, .unset, .unset, .unset, .unset, .unset] [])) (fun t k => st53 t k) ?_
    refine Goes.pre (U' := T53.setTop (mkF m 69 #[.val (.int p1), .val (.int p2), .val (.int p3), .val (.int p4), .val (.int p5), .val (.int (3 : Int32)), .val (.int v0), .val (.int v1), .val (.int v2), .val (.ref la), .unset, .unset, .unset, .unset, .unset, .unset, .unset] [(.int (3 : Int32))])) (fun t k => XS.iload X53.here hx rfl (hb hby at_67) rfl k) ?_
    refine Goes.pre (U' := T53.setTop (mkF m 70 #[.val (.int p1), .val (.int p2), .val (.int p3), .val (.int p4), .val (.int p5), .val (.int (3 : Int32)), .val (.int v0), .val (.int v1), .val (.int v2), .val (.ref la), .unset, .unset, .unset, .unset, .unset, .unset, .unset] [(.int (1 : Int32)), (.int (3 : Int32))])) (fun t k => XS.iconst X53.here hx rfl (hb hby at_69) k) ?_
    have hc70 : (1 : Int32) < (3 : Int32) := by decide
    refine Goes.pre (U' := T53.setTop (mkF m 73 #[.val (.int p1), .val (.int p2), .val (.int p3), .val (.int p4), .val (.int p5), .val (.int (3 : Int32)), .val (.int v0), .val (.int v1), .val (.int v2), .val (.ref la), .unset, .unset, .unset, .unset, .unset, .unset, .unset] [])) (fun t k => XS.icmpNo X53.here hx rfl (hb hby at_70) rfl (tlt hc70).2.2.2 k) ?_
    refine Goes.pre (U' := T53.setTop (mkF m 75 #[.val (.int p1), .val (.int p2), .val (.int p3), .val (.int p4), .val (.int p5), .val (.int (3 : Int32)), .val (.int v0), .val (.int v1), .val (.int v2), .val (.ref la), .unset, .unset, .unset, .unset, .unset, .unset, .unset] [(.ref la)])) (fun t k => XS.aload X53.here hx rfl (hb hby at_73) rfl rfl k) ?_
    refine Goes.pre (U' := T53.setTop (mkF m 76 #[.val (.int p1), .val (.int p2), .val (.int p3), .val (.int p4), .val (.int p5), .val (.int (3 : Int32)), .val (.int v0), .val (.int v1), .val (.int v2), .val (.ref la), .unset, .unset, .unset, .unset, .unset, .unset, .unset] [(.int (1 : Int32)), (.ref la)])) (fun t k => XS.iconst X53.here hx rfl (hb hby at_75) k) ?_
    refine Goes.pre (U' := T53.setTop (mkF m 78 #[.val (.int p1), .val (.int p2), .val (.int p3), .val (.int p4), .val (.int p5), .val (.int (3 : Int32)), .val (.int v0), .val (.int v1), .val (.int v2), .val (.ref la), .unset, .unset, .unset, .unset, .unset, .unset, .unset] [(.int v1), (.int (1 : Int32)), (.ref la)])) (fun t k => XS.iload X53.here hx rfl (hb hby at_76) rfl k) ?_
    obtain ⟨cl54, Ar54, q54, Sz54, Ng54, Hs54, Ft54⟩ := id V_la
    obtain ⟨T54, h54, X54, e54, W54, st54⟩ := stB X53 hx hZ e53 Ar54 (j := (1 : Int32)) (inb_of Sz54 ⟨by decide, by decide⟩) (g := (mkF m 78 #[.val (.int p1), .val (.int p2), .val (.int p3), .val (.int p4), .val (.int p5), .val (.int (3 : Int32)), .val (.int v0), .val (.int v1), .val (.int v2), .val (.ref la), .unset, .unset, .unset, .unset, .unset, .unset, .unset] [(.int v1), (.int (1 : Int32)), (.ref la)])) rfl rfl (hb hby at_78)
    have nr54 : nar .byte v1 = v1 := hv1
    have ft54 : fits .byte (.int v1) = true := nr54 ▸ (fits_nar_byte v1 : fits .byte (.int (nar .byte v1)) = true)
    rw [nr54] at W54
    have E_la := E_la.wr W54
    have Z54 : n0 ≤ h54.size := Nat.le_trans Z53 (Keep.of_wr W54).1
    have V_la : Arv Z h54 la k52 .byte (3 : Int32) [(.int v0), (.int v1), (.int (0 : Int32))] (.int (0 : Int32)) := Arv.set Ar54 q54 Sz54 Ng54 Hs54 Ft54 ft54 W54 1 rfl (Nat.le_of_ble_eq_true rfl)
    have N54 := Fr.snoc X54 N53 g_la
    refine Goes.pre (U' := T54.setTop (mkF m 79 #[.val (.int p1), .val (.int p2), .val (.int p3), .val (.int p4), .val (.int p5), .val (.int (3 : Int32)), .val (.int v0), .val (.int v1), .val (.int v2), .val (.ref la), .unset, .unset, .unset, .unset, .unset, .unset, .unset] [])) (fun t k => st54 t k) ?_
    refine Goes.pre (U' := T54.setTop (mkF m 81 #[.val (.int p1), .val (.int p2), .val (.int p3), .val (.int p4), .val (.int p5), .val (.int (3 : Int32)), .val (.int v0), .val (.int v1), .val (.int v2), .val (.ref la), .unset, .unset, .unset, .unset, .unset, .unset, .unset] [(.int (3 : Int32))])) (fun t k => XS.iload X54.here hx rfl (hb hby at_79) rfl k) ?_
    refine Goes.pre (U' := T54.setTop (mkF m 82 #[.val (.int p1), .val (.int p2), .val (.int p3), .val (.int p4), .val (.int p5), .val (.int (3 : Int32)), .val (.int v0), .val (.int v1), .val (.int v2), .val (.ref la), .unset, .unset, .unset, .unset, .unset, .unset, .unset] [(.int (2 : Int32)), (.int (3 : Int32))])) (fun t k => XS.iconst X54.here hx rfl (hb hby at_81) k) ?_
    have hc82 : (2 : Int32) < (3 : Int32) := by decide
    refine Goes.pre (U' := T54.setTop (mkF m 85 #[.val (.int p1), .val (.int p2), .val (.int p3), .val (.int p4), .val (.int p5), .val (.int (3 : Int32)), .val (.int v0), .val (.int v1), .val (.int v2), .val (.ref la), .unset, .unset, .unset, .unset, .unset, .unset, .unset] [])) (fun t k => XS.icmpNo X54.here hx rfl (hb hby at_82) rfl (tlt hc82).2.2.2 k) ?_
    refine Goes.pre (U' := T54.setTop (mkF m 87 #[.val (.int p1), .val (.int p2), .val (.int p3), .val (.int p4), .val (.int p5), .val (.int (3 : Int32)), .val (.int v0), .val (.int v1), .val (.int v2), .val (.ref la), .unset, .unset, .unset, .unset, .unset, .unset, .unset] [(.ref la)])) (fun t k => XS.aload X54.here hx rfl (hb hby at_85) rfl rfl k) ?_
    refine Goes.pre (U' := T54.setTop (mkF m 88 #[.val (.int p1), .val (.int p2), .val (.int p3), .val (.int p4), .val (.int p5), .val (.int (3 : Int32)), .val (.int v0), .val (.int v1), .val (.int v2), .val (.ref la), .unset, .unset, .unset, .unset, .unset, .unset, .unset] [(.int (2 : Int32)), (.ref la)])) (fun t k => XS.iconst X54.here hx rfl (hb hby at_87) k) ?_
    refine Goes.pre (U' := T54.setTop (mkF m 90 #[.val (.int p1), .val (.int p2), .val (.int p3), .val (.int p4), .val (.int p5), .val (.int (3 : Int32)), .val (.int v0), .val (.int v1), .val (.int v2), .val (.ref la), .unset, .unset, .unset, .unset, .unset, .unset, .unset] [(.int v2), (.int (2 : Int32)), (.ref la)])) (fun t k => XS.iload X54.here hx rfl (hb hby at_88) rfl k) ?_
    obtain ⟨cl55, Ar55, q55, Sz55, Ng55, Hs55, Ft55⟩ := id V_la
    obtain ⟨T55, h55, X55, e55, W55, st55⟩ := stB X54 hx hZ e54 Ar55 (j := (2 : Int32)) (inb_of Sz55 ⟨by decide, by decide⟩) (g := (mkF m 90 #[.val (.int p1), .val (.int p2), .val (.int p3), .val (.int p4), .val (.int p5), .val (.int (3 : Int32)), .val (.int v0), .val (.int v1), .val (.int v2), .val (.ref la), .unset, .unset, .unset, .unset, .unset, .unset, .unset] [(.int v2), (.int (2 : Int32)), (.ref la)])) rfl rfl (hb hby at_90)
    have nr55 : nar .byte v2 = v2 := hv2
    have ft55 : fits .byte (.int v2) = true := nr55 ▸ (fits_nar_byte v2 : fits .byte (.int (nar .byte v2)) = true)
    rw [nr55] at W55
    have E_la := E_la.wr W55
    have Z55 : n0 ≤ h55.size := Nat.le_trans Z54 (Keep.of_wr W55).1
    have V_la : Arv Z h55 la k52 .byte (3 : Int32) [(.int v0), (.int v1), (.int v2)] (.int (0 : Int32)) := Arv.set Ar55 q55 Sz55 Ng55 Hs55 Ft55 ft55 W55 2 rfl (Nat.le_of_ble_eq_true rfl)
    have N55 := Fr.snoc X55 N54 g_la
    refine Goes.pre (U' := T55.setTop (mkF m 91 #[.val (.int p1), .val (.int p2), .val (.int p3), .val (.int p4), .val (.int p5), .val (.int (3 : Int32)), .val (.int v0), .val (.int v1), .val (.int v2), .val (.ref la), .unset, .unset, .unset, .unset, .unset, .unset, .unset] [])) (fun t k => st55 t k) ?_
    obtain ⟨T56, h56, X56, e56, E56, A56, D56, -, st56⟩ := newO X55 hx hZ hown (hw _ (List.mem_of_getElem? (i := 1) rfl)) (hw _ (List.mem_of_getElem? (i := 2) rfl)) (hw _ (List.mem_of_getElem? (i := 3) rfl)) e55 (g := (mkF m 91 #[.val (.int p1), .val (.int p2), .val (.int p3), .val (.int p4), .val (.int p5), .val (.int (3 : Int32)), .val (.int v0), .val (.int v1), .val (.int v2), .val (.ref la), .unset, .unset, .unset, .unset, .unset, .unset, .unset] [])) rfl (hb hby at_91) (by decide) (by decide)
    obtain ⟨a, g56⟩ : ∃ z, z = h55.size := ⟨_, rfl⟩
    rw [← g56] at A56 D56 st56
    have ne_la_a : la ≠ a := Nat.ne_of_lt (Nat.lt_of_lt_of_le E_la.lt (Nat.le_of_eq g56.symm))
    have ne_a_la := ne_la_a.symm
    have g_a : n0 ≤ a := Nat.le_trans Z55 (Nat.le_of_eq g56.symm)
    have E_la := E_la.ext E56
    have V_la := V_la.ext E56
    have Z56 : n0 ≤ h56.size := Nat.le_trans Z55 E56.1
    have E_a := A56
    have F_first_a : Fld Z h56 a "com/example/known_paths/knownpaths/key/KeyRange" "first" "[B" .null := D56 (Or.inr (hw _ (List.mem_of_getElem? (i := 16) rfl))) (ty := (.array .byte)) (by decide)
    have F_last_a : Fld Z h56 a "com/example/known_paths/knownpaths/key/KeyRange" "last" "[B" .null := D56 (Or.inr (hw _ (List.mem_of_getElem? (i := 18) rfl))) (ty := (.array .byte)) (by decide)
    refine Goes.pre (U' := T56.setTop (mkF m 94 #[.val (.int p1), .val (.int p2), .val (.int p3), .val (.int p4), .val (.int p5), .val (.int (3 : Int32)), .val (.int v0), .val (.int v1), .val (.int v2), .val (.ref la), .unset, .unset, .unset, .unset, .unset, .unset, .unset] [(.ref a)])) (fun t k => st56 t k) ?_
    refine Goes.pre (U' := T56.setTop (mkF m 95 #[.val (.int p1), .val (.int p2), .val (.int p3), .val (.int p4), .val (.int p5), .val (.int (3 : Int32)), .val (.int v0), .val (.int v1), .val (.int v2), .val (.ref la), .unset, .unset, .unset, .unset, .unset, .unset, .unset] [(.ref a), (.ref a)])) (fun t k => XS.dup X56.here hx rfl (hb hby at_94) rfl rfl k) ?_
    refine Goes.pre (U' := T56.setTop (mkF m 96 #[.val (.int p1), .val (.int p2), .val (.int p3), .val (.int p4), .val (.int p5), .val (.int (3 : Int32)), .val (.int v0), .val (.int v1), .val (.int v2), .val (.ref la), .unset, .unset, .unset, .unset, .unset, .unset, .unset] [(.int (0 : Int32)), (.ref a), (.ref a)])) (fun t k => XS.iconst X56.here hx rfl (hb hby at_95) k) ?_
    obtain ⟨T57, h57, k57, X57, e57, E57, A57, B57, st57⟩ := newPE X56 hx hZ (hw _ (List.mem_of_getElem? (i := 0) rfl)) e56 (g := (mkF m 96 #[.val (.int p1), .val (.int p2), .val (.int p3), .val (.int p4), .val (.int p5), .val (.int (3 : Int32)), .val (.int v0), .val (.int v1), .val (.int v2), .val (.ref la), .unset, .unset, .unset, .unset, .unset, .unset, .unset] [(.int (0 : Int32)), (.ref a), (.ref a)])) rfl (hb hby at_96) rfl (by decide) (cap := 0) (by decide) (by decide) (by decide) (by decide) (ad := "[B") (by decide)
    obtain ⟨fa, g57⟩ : ∃ z, z = h56.size := ⟨_, rfl⟩
    rw [← g57] at A57 B57 st57
    have ne_a_fa : a ≠ fa := Nat.ne_of_lt (Nat.lt_of_lt_of_le E_a.lt (Nat.le_of_eq g57.symm))
    have ne_fa_a := ne_a_fa.symm
    have ne_la_fa : la ≠ fa := Nat.ne_of_lt (Nat.lt_of_lt_of_le E_la.lt (Nat.le_of_eq g57.symm))
    have ne_fa_la := ne_la_fa.symm
    have g_fa : n0 ≤ fa := Nat.le_trans Z56 (Nat.le_of_eq g57.symm)
    have E_la := E_la.ext E57
    have V_la := V_la.ext E57
    have E_a := E_a.ext E57
    have F_first_a := F_first_a.ext E57
    have F_last_a := F_last_a.ext E57
    have Z57 : n0 ≤ h57.size := Nat.le_trans Z56 E57.1
    have E_fa := B57
    have V_fa : Arv Z h57 fa k57 .byte (0 : Int32) [] (.int (0 : Int32)) := (Arv.new A57 (by decide)).pad (pad_rep [] (.int (0 : Int32)) 0)
    refine Goes.pre (U' := T57.setTop (mkF m 98 #[.val (.int p1), .val (.int p2), .val (.int p3), .val (.int p4), .val (.int p5), .val (.int (3 : Int32)), .val (.int v0), .val (.int v1), .val (.int v2), .val (.ref la), .unset, .unset, .unset, .unset, .unset, .unset, .unset] [(.ref fa), (.ref a), (.ref a)])) (fun t k => st57 t k) ?_
    refine Goes.pre (U' := T57.setTop (mkF m 100 #[.val (.int p1), .val (.int p2), .val (.int p3), .val (.int p4), .val (.int p5), .val (.int (3 : Int32)), .val (.int v0), .val (.int v1), .val (.int v2), .val (.ref la), .unset, .unset, .unset, .unset, .unset, .unset, .unset] [(.ref la), (.ref fa), (.ref a), (.ref a)])) (fun t k => XS.aload X57.here hx rfl (hb hby at_98) rfl rfl k) ?_
    obtain ⟨_, _, ⟨T58, L58, k58, n58⟩, -, X58, ⟨Lc58, hQ58, l58, y58, z58⟩, st58⟩ := X57.specialBack hx (y := (⟨"com/example/known_paths/knownpaths/key/KeyRange", "<init>", "([B[B)V"⟩ : MethodName)) rfl hown (mvT hZ (hw _ (List.mem_of_getElem? (i := 4) rfl))) (mvT hZ (hw _ (List.mem_of_getElem? (i := 5) rfl))) (mvT hZ (hw _ (List.mem_of_getElem? (i := 6) rfl))) (by decide) (backOf (W := 1) (rm_init l Z a0 hw [] a fa la h57 n0 Z57 E_a F_first_a F_last_a g_a) hZ (hw _ (List.mem_of_getElem? (i := 6) rfl)) (hw _ (List.mem_of_getElem? (i := 3) rfl)) (by decide) (by decide)) (g := (mkF m 100 #[.val (.int p1), .val (.int p2), .val (.int p3), .val (.int p4), .val (.int p5), .val (.int (3 : Int32)), .val (.int v0), .val (.int v1), .val (.int v2), .val (.ref la), .unset, .unset, .unset, .unset, .unset, .unset, .unset] [(.ref la), (.ref fa), (.ref a), (.ref a)])) rfl (by rw [hml]; rfl) (Steps.refl _) (a := a) (argsL := [(.ref fa), (.ref la)]) (rest := [(.ref a)]) (lenOf pd__28_5bB_5bB_29V rfl) rfl (by show 2 * 0 + _ ≤ _; exact Nat.le_of_eq rfl) (hb hby at_100) (fun _ _ => ⟨rfl, e57, (by decide : 3 + 0 ≤ _), (by decide : 5 + 0 ≤ _)⟩)
    dsimp only [Pt.U, Pt.locs, Pt.cells, Pt.slots] at X58 l58 y58 z58 st58 hQ58
    subst l58 y58 z58
    obtain ⟨rfl, N58q, KQ58, fq_58⟩ := hQ58
    have N58 := Fr.app N55 N58q
    have E_la := E_la.keep KQ58
    have V_la := V_la.keep KQ58 (ninS ne_la_a nin0)
    have E_a := E_a.keep KQ58
    have E_fa := E_fa.keep KQ58
    have V_fa := V_fa.keep KQ58 (ninS ne_fa_a nin0)
    have Z59 : n0 ≤ T58.heap.size := Nat.le_trans Z57 KQ58.1
    have F_last_a := fq_58
    refine Goes.pre (U' := T58.setTop (mkF m 103 #[.val (.int p1), .val (.int p2), .val (.int p3), .val (.int p4), .val (.int p5), .val (.int (3 : Int32)), .val (.int v0), .val (.int v1), .val (.int v2), .val (.ref la), .unset, .unset, .unset, .unset, .unset, .unset, .unset] [(.ref a)])) (fun t k => st58.trans k) ?_
    refine Goes.pre (U' := T58.setTop (mkF m 105 #[.val (.int p1), .val (.int p2), .val (.int p3), .val (.int p4), .val (.int p5), .val (.int (3 : Int32)), .val (.int v0), .val (.int v1), .val (.int v2), .val (.ref la), .val (.ref a), .unset, .unset, .unset, .unset, .unset, .unset] [])) (fun t k => XS.astore X58.here hx rfl (hb hby at_103) rfl rfl (l' := #[.val (.int p1), .val (.int p2), .val (.int p3), .val (.int p4), .val (.int p5), .val (.int (3 : Int32)), .val (.int v0), .val (.int v1), .val (.int v2), .val (.ref la), .val (.ref a), .unset, .unset, .unset, .unset, .unset, .unset]) rfl k) ?_
    by_cases hq2 : v2 = (-1 : Int32)
    ·
      by_cases hq1 : v1 = (-1 : Int32)
      ·
        by_cases hq0 : v0 = (-1 : Int32)
        ·
          refine Goes.pre (U' := T58.setTop (mkF m 107 #[.val (.int p1), .val (.int p2), .val (.int p3), .val (.int p4), .val (.int p5), .val (.int (3 : Int32)), .val (.int v0), .val (.int v1), .val (.int v2), .val (.ref la), .val (.ref a), .unset, .unset, .unset, .unset, .unset, .unset] [(.ref a)])) (fun t k => XS.aload X58.here hx rfl (hb hby at_105) rfl rfl k) ?_
          have lt_a := E_a.lt
          have lt_fa := E_fa.lt
          have lt_la := E_la.lt
          obtain ⟨cq60, kq60, q60a, q60b, q60c⟩ := isOf hZ rfl E_a
          obtain ⟨_, _, ⟨T60, L60, k60, n60⟩, -, X60, ⟨Lc60, hQ60, l60, y60, z60⟩, st60⟩ := X58.virtualBack hx (y := (⟨"com/example/known_paths/knownpaths/key/KeyRange", "end", "()[B"⟩ : MethodName)) (z := (⟨"com/example/known_paths/knownpaths/key/KeyRange", "end", "()[B"⟩ : MethodName)) hown (mvT hZ (hw _ (List.mem_of_getElem? (i := 19) rfl))) (mvT hZ (hw _ (List.mem_of_getElem? (i := 20) rfl))) (notFace_of_selects (args := #[]) (mvT hZ (hw _ (List.mem_of_getElem? (i := 22) rfl)))) (mvT hZ (hw _ (List.mem_of_getElem? (i := 22) rfl))) (mvT hZ (hw _ (List.mem_of_getElem? (i := 21) rfl))) (by decide) (backOf (W := 0) (rm_end30 l Z a0 hw [] a la k52 v0 v1 v2 T58.heap n0 Z59 F_last_a E_la V_la hq0 hq1 hq2) hZ (hw _ (List.mem_of_getElem? (i := 23) rfl)) (hw _ (List.mem_of_getElem? (i := 3) rfl)) (by decide) (by decide)) q60a q60c (g := (mkF m 107 #[.val (.int p1), .val (.int p2), .val (.int p3), .val (.int p4), .val (.int p5), .val (.int (3 : Int32)), .val (.int v0), .val (.int v1), .val (.int v2), .val (.ref la), .val (.ref a), .unset, .unset, .unset, .unset, .unset, .unset] [(.ref a)])) rfl (by rw [hml]; rfl) (Steps.refl _) (argsL := []) (rest := []) (lenOf pd__28_29_5bB rfl) rfl (by show 2 * 0 + _ ≤ _; exact Nat.le_of_eq rfl) (hb hby at_107) (fun _ _ => ⟨rfl, rfl, (by decide : 3 + 0 ≤ _), (by decide : 5 + 0 ≤ _)⟩)
          dsimp only [Pt.U, Pt.locs, Pt.cells, Pt.slots] at X60 l60 y60 z60 st60 hQ60
          subst l60 y60 z60
          obtain ⟨rfl, N60q, KQ60⟩ := hQ60
          have N60 := Fr.app N58 N60q
          have E_la := E_la.keep KQ60
          have V_la := V_la.keep KQ60 nin0
          have E_a := E_a.keep KQ60
          have E_fa := E_fa.keep KQ60
          have V_fa := V_fa.keep KQ60 nin0
          have F_last_a := F_last_a.keep KQ60 nin0
          have Z61 : n0 ≤ T60.heap.size := Nat.le_trans Z59 KQ60.1
          refine Goes.pre (U' := T60.setTop (mkF m 110 #[.val (.int p1), .val (.int p2), .val (.int p3), .val (.int p4), .val (.int p5), .val (.int (3 : Int32)), .val (.int v0), .val (.int v1), .val (.int v2), .val (.ref la), .val (.ref a), .unset, .unset, .unset, .unset, .unset, .unset] [.null])) (fun t k => st60.trans k) ?_
          refine Goes.pre (U' := T60.setTop (mkF m 112 #[.val (.int p1), .val (.int p2), .val (.int p3), .val (.int p4), .val (.int p5), .val (.int (3 : Int32)), .val (.int v0), .val (.int v1), .val (.int v2), .val (.ref la), .val (.ref a), .val .null, .unset, .unset, .unset, .unset, .unset] [])) (fun t k => XS.astore X60.here hx rfl (hb hby at_110) rfl rfl (l' := #[.val (.int p1), .val (.int p2), .val (.int p3), .val (.int p4), .val (.int p5), .val (.int (3 : Int32)), .val (.int v0), .val (.int v1), .val (.int v2), .val (.ref la), .val (.ref a), .val .null, .unset, .unset, .unset, .unset, .unset]) rfl k) ?_
          refine Goes.pre (U' := T60.setTop (mkF m 114 #[.val (.int p1), .val (.int p2), .val (.int p3), .val (.int p4), .val (.int p5), .val (.int (3 : Int32)), .val (.int v0), .val (.int v1), .val (.int v2), .val (.ref la), .val (.ref a), .val .null, .unset, .unset, .unset, .unset, .unset] [(.int (3 : Int32))])) (fun t k => XS.iload X60.here hx rfl (hb hby at_112) rfl k) ?_
          refine Goes.pre (U' := T60.setTop (mkF m 115 #[.val (.int p1), .val (.int p2), .val (.int p3), .val (.int p4), .val (.int p5), .val (.int (3 : Int32)), .val (.int v0), .val (.int v1), .val (.int v2), .val (.ref la), .val (.ref a), .val .null, .unset, .unset, .unset, .unset, .unset] [(.int (1 : Int32)), (.int (3 : Int32))])) (fun t k => XS.iconst X60.here hx rfl (hb hby at_114) k) ?_
          have hc115 : ¬ ((3 : Int32) < (1 : Int32)) := by decide
          refine Goes.pre (U' := T60.setTop (mkF m 118 #[.val (.int p1), .val (.int p2), .val (.int p3), .val (.int p4), .val (.int p5), .val (.int (3 : Int32)), .val (.int v0), .val (.int v1), .val (.int v2), .val (.ref la), .val (.ref a), .val .null, .unset, .unset, .unset, .unset, .unset] [])) (fun t k => XS.icmpNo X60.here hx rfl (hb hby at_115) rfl (flt hc115).1 k) ?_
          refine Goes.pre (U' := T60.setTop (mkF m 120 #[.val (.int p1), .val (.int p2), .val (.int p3), .val (.int p4), .val (.int p5), .val (.int (3 : Int32)), .val (.int v0), .val (.int v1), .val (.int v2), .val (.ref la), .val (.ref a), .val .null, .unset, .unset, .unset, .unset, .unset] [(.ref la)])) (fun t k => XS.aload X60.here hx rfl (hb hby at_118) rfl rfl k) ?_
          refine Goes.pre (U' := T60.setTop (mkF m 121 #[.val (.int p1), .val (.int p2), .val (.int p3), .val (.int p4), .val (.int p5), .val (.int (3 : Int32)), .val (.int v0), .val (.int v1), .val (.int v2), .val (.ref la), .val (.ref a), .val .null, .unset, .unset, .unset, .unset, .unset] [(.int (0 : Int32)), (.ref la)])) (fun t k => XS.iconst X60.here hx rfl (hb hby at_120) k) ?_
          obtain ⟨cl62, Ar62, q62, Sz62, Ng62, Hs62, Ft62⟩ := id V_la
          have hin62 := inb_of (j := (0 : Int32)) Sz62 ⟨by decide, by decide⟩
          refine Goes.pre (U' := T60.setTop (mkF m 122 #[.val (.int p1), .val (.int p2), .val (.int p3), .val (.int p4), .val (.int p5), .val (.int (3 : Int32)), .val (.int v0), .val (.int v1), .val (.int v2), .val (.ref la), .val (.ref a), .val .null, .unset, .unset, .unset, .unset, .unset] [(.int v0)])) (fun t k => X60.baloadBytes hx (j := (0 : Int32)) (v := (.int v0)) Ar62.1 (State.isArrayOf_alike hZ.alike Ar62.2.1) Ar62.2.2 hin62 (Has.at Hs62 hin62 rfl) (g := (mkF m 121 #[.val (.int p1), .val (.int p2), .val (.int p3), .val (.int p4), .val (.int p5), .val (.int (3 : Int32)), .val (.int v0), .val (.int v1), .val (.int v2), .val (.ref la), .val (.ref a), .val .null, .unset, .unset, .unset, .unset, .unset] [(.int (0 : Int32)), (.ref la)])) rfl rfl (hb hby at_121) _ k) ?_
          refine Goes.pre (U' := T60.setTop (mkF m 124 #[.val (.int p1), .val (.int p2), .val (.int p3), .val (.int p4), .val (.int p5), .val (.int (3 : Int32)), .val (.int v0), .val (.int v1), .val (.int v2), .val (.ref la), .val (.ref a), .val .null, .unset, .unset, .unset, .unset, .unset] [(.int v0), (.int v0)])) (fun t k => XS.iload X60.here hx rfl (hb hby at_122) rfl k) ?_
          have hc124 : v0 = v0 := rfl
          refine Goes.pre (U' := T60.setTop (mkF m 127 #[.val (.int p1), .val (.int p2), .val (.int p3), .val (.int p4), .val (.int p5), .val (.int (3 : Int32)), .val (.int v0), .val (.int v1), .val (.int v2), .val (.ref la), .val (.ref a), .val .null, .unset, .unset, .unset, .unset, .unset] [])) (fun t k => XS.icmpNo X60.here hx rfl (hb hby at_124) rfl (teq hc124).2 k) ?_
          refine Goes.pre (U' := T60.setTop (mkF m 129 #[.val (.int p1), .val (.int p2), .val (.int p3), .val (.int p4), .val (.int p5), .val (.int (3 : Int32)), .val (.int v0), .val (.int v1), .val (.int v2), .val (.ref la), .val (.ref a), .val .null, .unset, .unset, .unset, .unset, .unset] [(.int (3 : Int32))])) (fun t k => XS.iload X60.here hx rfl (hb hby at_127) rfl k) ?_
          refine Goes.pre (U' := T60.setTop (mkF m 130 #[.val (.int p1), .val (.int p2), .val (.int p3), .val (.int p4), .val (.int p5), .val (.int (3 : Int32)), .val (.int v0), .val (.int v1), .val (.int v2), .val (.ref la), .val (.ref a), .val .null, .unset, .unset, .unset, .unset, .unset] [(.int (2 : Int32)), (.int (3 : Int32))])) (fun t k => XS.iconst X60.here hx rfl (hb hby at_129) k) ?_
          have hc130 : ¬ ((3 : Int32) < (2 : Int32)) := by decide
          refine Goes.pre (U' := T60.setTop (mkF m 133 #[.val (.int p1), .val (.int p2), .val (.int p3), .val (.int p4), .val (.int p5), .val (.int (3 : Int32)), .val (.int v0), .val (.int v1), .val (.int v2), .val (.ref la), .val (.ref a), .val .null, .unset, .unset, .unset, .unset, .unset] [])) (fun t k => XS.icmpNo X60.here hx rfl (hb hby at_130) rfl (flt hc130).1 k) ?_
          refine Goes.pre (U' := T60.setTop (mkF m 135 #[.val (.int p1), .val (.int p2), .val (.int p3), .val (.int p4), .val (.int p5), .val (.int (3 : Int32)), .val (.int v0), .val (.int v1), .val (.int v2), .val (.ref la), .val (.ref a), .val .null, .unset, .unset, .unset, .unset, .unset] [(.ref la)])) (fun t k => XS.aload X60.here hx rfl (hb hby at_133) rfl rfl k) ?_
          refine Goes.pre (U' := T60.setTop (mkF m 136 #[.val (.int p1), .val (.int p2), .val (.int p3), .val (.int p4), .val (.int p5), .val (.int (3 : Int32)), .val (.int v0), .val (.int v1), .val (.int v2), .val (.ref la), .val (.ref a), .val .null, .unset, .unset, .unset, .unset, .unset] [(.int (1 : Int32)), (.ref la)])) (fun t k => XS.iconst X60.here hx rfl (hb hby at_135) k) ?_
          obtain ⟨cl63, Ar63, q63, Sz63, Ng63, Hs63, Ft63⟩ := id V_la
          have hin63 := inb_of (j := (1 : Int32)) Sz63 ⟨by decide, by decide⟩
          refine Goes.pre (U' := T60.setTop (mkF m 137 #[.val (.int p1), .val (.int p2), .val (.int p3), .val (.int p4), .val (.int p5), .val (.int (3 : Int32)), .val (.int v0), .val (.int v1), .val (.int v2), .val (.ref la), .val (.ref a), .val .null, .unset, .unset, .unset, .unset, .unset] [(.int v1)])) (fun t k => X60.baloadBytes hx (j := (1 : Int32)) (v := (.int v1)) Ar63.1 (State.isArrayOf_alike hZ.alike Ar63.2.1) Ar63.2.2 hin63 (Has.at Hs63 hin63 rfl) (g := (mkF m 136 #[.val (.int p1), .val (.int p2), .val (.int p3), .val (.int p4), .val (.int p5), .val (.int (3 : Int32)), .val (.int v0), .val (.int v1), .val (.int v2), .val (.ref la), .val (.ref a), .val .null, .unset, .unset, .unset, .unset, .unset] [(.int (1 : Int32)), (.ref la)])) rfl rfl (hb hby at_136) _ k) ?_
          refine Goes.pre (U' := T60.setTop (mkF m 139 #[.val (.int p1), .val (.int p2), .val (.int p3), .val (.int p4), .val (.int p5), .val (.int (3 : Int32)), .val (.int v0), .val (.int v1), .val (.int v2), .val (.ref la), .val (.ref a), .val .null, .unset, .unset, .unset, .unset, .unset] [(.int v1), (.int v1)])) (fun t k => XS.iload X60.here hx rfl (hb hby at_137) rfl k) ?_
          have hc139 : v1 = v1 := rfl
          refine Goes.pre (U' := T60.setTop (mkF m 142 #[.val (.int p1), .val (.int p2), .val (.int p3), .val (.int p4), .val (.int p5), .val (.int (3 : Int32)), .val (.int v0), .val (.int v1), .val (.int v2), .val (.ref la), .val (.ref a), .val .null, .unset, .unset, .unset, .unset, .unset] [])) (fun t k => XS.icmpNo X60.here hx rfl (hb hby at_139) rfl (teq hc139).2 k) ?_
          refine Goes.pre (U' := T60.setTop (mkF m 144 #[.val (.int p1), .val (.int p2), .val (.int p3), .val (.int p4), .val (.int p5), .val (.int (3 : Int32)), .val (.int v0), .val (.int v1), .val (.int v2), .val (.ref la), .val (.ref a), .val .null, .unset, .unset, .unset, .unset, .unset] [(.int (3 : Int32))])) (fun t k => XS.iload X60.here hx rfl (hb hby at_142) rfl k) ?_
          refine Goes.pre (U' := T60.setTop (mkF m 145 #[.val (.int p1), .val (.int p2), .val (.int p3), .val (.int p4), .val (.int p5), .val (.int (3 : Int32)), .val (.int v0), .val (.int v1), .val (.int v2), .val (.ref la), .val (.ref a), .val .null, .unset, .unset, .unset, .unset, .unset] [(.int (3 : Int32)), (.int (3 : Int32))])) (fun t k => XS.iconst X60.here hx rfl (hb hby at_144) k) ?_
          have hc145 : ¬ ((3 : Int32) < (3 : Int32)) := by decide
          refine Goes.pre (U' := T60.setTop (mkF m 148 #[.val (.int p1), .val (.int p2), .val (.int p3), .val (.int p4), .val (.int p5), .val (.int (3 : Int32)), .val (.int v0), .val (.int v1), .val (.int v2), .val (.ref la), .val (.ref a), .val .null, .unset, .unset, .unset, .unset, .unset] [])) (fun t k => XS.icmpNo X60.here hx rfl (hb hby at_145) rfl (flt hc145).1 k) ?_
          refine Goes.pre (U' := T60.setTop (mkF m 150 #[.val (.int p1), .val (.int p2), .val (.int p3), .val (.int p4), .val (.int p5), .val (.int (3 : Int32)), .val (.int v0), .val (.int v1), .val (.int v2), .val (.ref la), .val (.ref a), .val .null, .unset, .unset, .unset, .unset, .unset] [(.ref la)])) (fun t k => XS.aload X60.here hx rfl (hb hby at_148) rfl rfl k) ?_
          refine Goes.pre (U' := T60.setTop (mkF m 151 #[.val (.int p1), .val (.int p2), .val (.int p3), .val (.int p4), .val (.int p5), .val (.int (3 : Int32)), .val (.int v0), .val (.int v1), .val (.int v2), .val (.ref la), .val (.ref a), .val .null, .unset, .unset, .unset, .unset, .unset] [(.int (2 : Int32)), (.ref la)])) (fun t k => XS.iconst X60.here hx rfl (hb hby at_150) k) ?_
          obtain ⟨cl64, Ar64, q64, Sz64, Ng64, Hs64, Ft64⟩ := id V_la
          have hin64 := inb_of (j := (2 : Int32)) Sz64 ⟨by decide, by decide⟩
          refine Goes.pre (U' := T60.setTop (mkF m 152 #[.val (.int p1), .val (.int p2), .val (.int p3), .val (.int p4), .val (.int p5), .val (.int (3 : Int32)), .val (.int v0), .val (.int v1), .val (.int v2), .val (.ref la), .val (.ref a), .val .null, .unset, .unset, .unset, .unset, .unset] [(.int v2)])) (fun t k => X60.baloadBytes hx (j := (2 : Int32)) (v := (.int v2)) Ar64.1 (State.isArrayOf_alike hZ.alike Ar64.2.1) Ar64.2.2 hin64 (Has.at Hs64 hin64 rfl) (g := (mkF m 151 #[.val (.int p1), .val (.int p2), .val (.int p3), .val (.int p4), .val (.int p5), .val (.int (3 : Int32)), .val (.int v0), .val (.int v1), .val (.int v2), .val (.ref la), .val (.ref a), .val .null, .unset, .unset, .unset, .unset, .unset] [(.int (2 : Int32)), (.ref la)])) rfl rfl (hb hby at_151) _ k) ?_
          refine Goes.pre (U' := T60.setTop (mkF m 154 #[.val (.int p1), .val (.int p2), .val (.int p3), .val (.int p4), .val (.int p5), .val (.int (3 : Int32)), .val (.int v0), .val (.int v1), .val (.int v2), .val (.ref la), .val (.ref a), .val .null, .unset, .unset, .unset, .unset, .unset] [(.int v2), (.int v2)])) (fun t k => XS.iload X60.here hx rfl (hb hby at_152) rfl k) ?_
          have hc154 : v2 = v2 := rfl
          refine Goes.pre (U' := T60.setTop (mkF m 157 #[.val (.int p1), .val (.int p2), .val (.int p3), .val (.int p4), .val (.int p5), .val (.int (3 : Int32)), .val (.int v0), .val (.int v1), .val (.int v2), .val (.ref la), .val (.ref a), .val .null, .unset, .unset, .unset, .unset, .unset] [])) (fun t k => XS.icmpNo X60.here hx rfl (hb hby at_154) rfl (teq hc154).2 k) ?_
          refine Goes.pre (U' := T60.setTop (mkF m 158 #[.val (.int p1), .val (.int p2), .val (.int p3), .val (.int p4), .val (.int p5), .val (.int (3 : Int32)), .val (.int v0), .val (.int v1), .val (.int v2), .val (.ref la), .val (.ref a), .val .null, .unset, .unset, .unset, .unset, .unset] [(.int (1 : Int32))])) (fun t k => XS.iconst X60.here hx rfl (hb hby at_157) k) ?_
          refine Goes.pre (U' := T60.setTop (mkF m 162 #[.val (.int p1), .val (.int p2), .val (.int p3), .val (.int p4), .val (.int p5), .val (.int (3 : Int32)), .val (.int v0), .val (.int v1), .val (.int v2), .val (.ref la), .val (.ref a), .val .null, .unset, .unset, .unset, .unset, .unset] [(.int (1 : Int32))])) (fun t k => XS.goto X60.here hx rfl (pc0 := 158) (pc' := 162) rfl (hb hby at_158) (by decide) (by decide) k) ?_
          refine Goes.pre (U' := T60.setTop (mkF m 164 #[.val (.int p1), .val (.int p2), .val (.int p3), .val (.int p4), .val (.int p5), .val (.int (3 : Int32)), .val (.int v0), .val (.int v1), .val (.int v2), .val (.ref la), .val (.ref a), .val .null, .val (.int (1 : Int32)), .unset, .unset, .unset, .unset] [])) (fun t k => XS.istore X60.here hx rfl (hb hby at_162) rfl (l' := #[.val (.int p1), .val (.int p2), .val (.int p3), .val (.int p4), .val (.int p5), .val (.int (3 : Int32)), .val (.int v0), .val (.int v1), .val (.int v2), .val (.ref la), .val (.ref a), .val .null, .val (.int (1 : Int32)), .unset, .unset, .unset, .unset]) rfl k) ?_
          refine Goes.pre (U' := T60.setTop (mkF m 166 #[.val (.int p1), .val (.int p2), .val (.int p3), .val (.int p4), .val (.int p5), .val (.int (3 : Int32)), .val (.int v0), .val (.int v1), .val (.int v2), .val (.ref la), .val (.ref a), .val .null, .val (.int (1 : Int32)), .unset, .unset, .unset, .unset] [(.int (3 : Int32))])) (fun t k => XS.iload X60.here hx rfl (hb hby at_164) rfl k) ?_
          refine Goes.pre (U' := T60.setTop (mkF m 167 #[.val (.int p1), .val (.int p2), .val (.int p3), .val (.int p4), .val (.int p5), .val (.int (3 : Int32)), .val (.int v0), .val (.int v1), .val (.int v2), .val (.ref la), .val (.ref a), .val .null, .val (.int (1 : Int32)), .unset, .unset, .unset, .unset] [(.int (3 : Int32)), (.int (3 : Int32))])) (fun t k => XS.iconst X60.here hx rfl (hb hby at_166) k) ?_
          have hc167 : ¬ ((3 : Int32) < (3 : Int32)) := by decide
          refine Goes.pre (U' := T60.setTop (mkF m 170 #[.val (.int p1), .val (.int p2), .val (.int p3), .val (.int p4), .val (.int p5), .val (.int (3 : Int32)), .val (.int v0), .val (.int v1), .val (.int v2), .val (.ref la), .val (.ref a), .val .null, .val (.int (1 : Int32)), .unset, .unset, .unset, .unset] [])) (fun t k => XS.icmpNo X60.here hx rfl (hb hby at_167) rfl (flt hc167).1 k) ?_
          refine Goes.pre (U' := T60.setTop (mkF m 172 #[.val (.int p1), .val (.int p2), .val (.int p3), .val (.int p4), .val (.int p5), .val (.int (3 : Int32)), .val (.int v0), .val (.int v1), .val (.int v2), .val (.ref la), .val (.ref a), .val .null, .val (.int (1 : Int32)), .unset, .unset, .unset, .unset] [(.int v2)])) (fun t k => XS.iload X60.here hx rfl (hb hby at_170) rfl k) ?_
          refine Goes.pre (U' := T60.setTop (mkF m 173 #[.val (.int p1), .val (.int p2), .val (.int p3), .val (.int p4), .val (.int p5), .val (.int (3 : Int32)), .val (.int v0), .val (.int v1), .val (.int v2), .val (.ref la), .val (.ref a), .val .null, .val (.int (1 : Int32)), .unset, .unset, .unset, .unset] [(.int (-1 : Int32)), (.int v2)])) (fun t k => XS.iconst X60.here hx rfl (hb hby at_172) k) ?_
          have hc173 : v2 = (-1 : Int32) := hq2
          refine Goes.pre (U' := T60.setTop (mkF m 182 #[.val (.int p1), .val (.int p2), .val (.int p3), .val (.int p4), .val (.int p5), .val (.int (3 : Int32)), .val (.int v0), .val (.int v1), .val (.int v2), .val (.ref la), .val (.ref a), .val .null, .val (.int (1 : Int32)), .unset, .unset, .unset, .unset] [])) (fun t k => XS.icmpYes X60.here hx rfl (pc0 := 173) (pc' := 182) rfl (hb hby at_173) rfl (teq hc173).1 (by decide) (by decide) k) ?_
          refine Goes.pre (U' := T60.setTop (mkF m 184 #[.val (.int p1), .val (.int p2), .val (.int p3), .val (.int p4), .val (.int p5), .val (.int (3 : Int32)), .val (.int v0), .val (.int v1), .val (.int v2), .val (.ref la), .val (.ref a), .val .null, .val (.int (1 : Int32)), .unset, .unset, .unset, .unset] [(.int (3 : Int32))])) (fun t k => XS.iload X60.here hx rfl (hb hby at_182) rfl k) ?_
          refine Goes.pre (U' := T60.setTop (mkF m 185 #[.val (.int p1), .val (.int p2), .val (.int p3), .val (.int p4), .val (.int p5), .val (.int (3 : Int32)), .val (.int v0), .val (.int v1), .val (.int v2), .val (.ref la), .val (.ref a), .val .null, .val (.int (1 : Int32)), .unset, .unset, .unset, .unset] [(.int (2 : Int32)), (.int (3 : Int32))])) (fun t k => XS.iconst X60.here hx rfl (hb hby at_184) k) ?_
          have hc185 : ¬ ((3 : Int32) < (2 : Int32)) := by decide
          refine Goes.pre (U' := T60.setTop (mkF m 188 #[.val (.int p1), .val (.int p2), .val (.int p3), .val (.int p4), .val (.int p5), .val (.int (3 : Int32)), .val (.int v0), .val (.int v1), .val (.int v2), .val (.ref la), .val (.ref a), .val .null, .val (.int (1 : Int32)), .unset, .unset, .unset, .unset] [])) (fun t k => XS.icmpNo X60.here hx rfl (hb hby at_185) rfl (flt hc185).1 k) ?_
          refine Goes.pre (U' := T60.setTop (mkF m 190 #[.val (.int p1), .val (.int p2), .val (.int p3), .val (.int p4), .val (.int p5), .val (.int (3 : Int32)), .val (.int v0), .val (.int v1), .val (.int v2), .val (.ref la), .val (.ref a), .val .null, .val (.int (1 : Int32)), .unset, .unset, .unset, .unset] [(.int v1)])) (fun t k => XS.iload X60.here hx rfl (hb hby at_188) rfl k) ?_
          refine Goes.pre (U' := T60.setTop (mkF m 191 #[.val (.int p1), .val (.int p2), .val (.int p3), .val (.int p4), .val (.int p5), .val (.int (3 : Int32)), .val (.int v0), .val (.int v1), .val (.int v2), .val (.ref la), .val (.ref a), .val .null, .val (.int (1 : Int32)), .unset, .unset, .unset, .unset] [(.int (-1 : Int32)), (.int v1)])) (fun t k => XS.iconst X60.here hx rfl (hb hby at_190) k) ?_
          have hc191 : v1 = (-1 : Int32) := hq1
          refine Goes.pre (U' := T60.setTop (mkF m 200 #[.val (.int p1), .val (.int p2), .val (.int p3), .val (.int p4), .val (.int p5), .val (.int (3 : Int32)), .val (.int v0), .val (.int v1), .val (.int v2), .val (.ref la), .val (.ref a), .val .null, .val (.int (1 : Int32)), .unset, .unset, .unset, .unset] [])) (fun t k => XS.icmpYes X60.here hx rfl (pc0 := 191) (pc' := 200) rfl (hb hby at_191) rfl (teq hc191).1 (by decide) (by decide) k) ?_
          refine Goes.pre (U' := T60.setTop (mkF m 202 #[.val (.int p1), .val (.int p2), .val (.int p3), .val (.int p4), .val (.int p5), .val (.int (3 : Int32)), .val (.int v0), .val (.int v1), .val (.int v2), .val (.ref la), .val (.ref a), .val .null, .val (.int (1 : Int32)), .unset, .unset, .unset, .unset] [(.int (3 : Int32))])) (fun t k => XS.iload X60.here hx rfl (hb hby at_200) rfl k) ?_
          refine Goes.pre (U' := T60.setTop (mkF m 203 #[.val (.int p1), .val (.int p2), .val (.int p3), .val (.int p4), .val (.int p5), .val (.int (3 : Int32)), .val (.int v0), .val (.int v1), .val (.int v2), .val (.ref la), .val (.ref a), .val .null, .val (.int (1 : Int32)), .unset, .unset, .unset, .unset] [(.int (1 : Int32)), (.int (3 : Int32))])) (fun t k => XS.iconst X60.here hx rfl (hb hby at_202) k) ?_
          have hc203 : ¬ ((3 : Int32) < (1 : Int32)) := by decide
          refine Goes.pre (U' := T60.setTop (mkF m 206 #[.val (.int p1), .val (.int p2), .val (.int p3), .val (.int p4), .val (.int p5), .val (.int (3 : Int32)), .val (.int v0), .val (.int v1), .val (.int v2), .val (.ref la), .val (.ref a), .val .null, .val (.int (1 : Int32)), .unset, .unset, .unset, .unset] [])) (fun t k => XS.icmpNo X60.here hx rfl (hb hby at_203) rfl (flt hc203).1 k) ?_
          refine Goes.pre (U' := T60.setTop (mkF m 208 #[.val (.int p1), .val (.int p2), .val (.int p3), .val (.int p4), .val (.int p5), .val (.int (3 : Int32)), .val (.int v0), .val (.int v1), .val (.int v2), .val (.ref la), .val (.ref a), .val .null, .val (.int (1 : Int32)), .unset, .unset, .unset, .unset] [(.int v0)])) (fun t k => XS.iload X60.here hx rfl (hb hby at_206) rfl k) ?_
          refine Goes.pre (U' := T60.setTop (mkF m 209 #[.val (.int p1), .val (.int p2), .val (.int p3), .val (.int p4), .val (.int p5), .val (.int (3 : Int32)), .val (.int v0), .val (.int v1), .val (.int v2), .val (.ref la), .val (.ref a), .val .null, .val (.int (1 : Int32)), .unset, .unset, .unset, .unset] [(.int (-1 : Int32)), (.int v0)])) (fun t k => XS.iconst X60.here hx rfl (hb hby at_208) k) ?_
          have hc209 : v0 = (-1 : Int32) := hq0
          refine Goes.pre (U' := T60.setTop (mkF m 218 #[.val (.int p1), .val (.int p2), .val (.int p3), .val (.int p4), .val (.int p5), .val (.int (3 : Int32)), .val (.int v0), .val (.int v1), .val (.int v2), .val (.ref la), .val (.ref a), .val .null, .val (.int (1 : Int32)), .unset, .unset, .unset, .unset] [])) (fun t k => XS.icmpYes X60.here hx rfl (pc0 := 209) (pc' := 218) rfl (hb hby at_209) rfl (teq hc209).1 (by decide) (by decide) k) ?_
          refine Goes.pre (U' := T60.setTop (mkF m 219 #[.val (.int p1), .val (.int p2), .val (.int p3), .val (.int p4), .val (.int p5), .val (.int (3 : Int32)), .val (.int v0), .val (.int v1), .val (.int v2), .val (.ref la), .val (.ref a), .val .null, .val (.int (1 : Int32)), .unset, .unset, .unset, .unset] [(.int (0 : Int32))])) (fun t k => XS.iconst X60.here hx rfl (hb hby at_218) k) ?_
          refine Goes.pre (U' := T60.setTop (mkF m 221 #[.val (.int p1), .val (.int p2), .val (.int p3), .val (.int p4), .val (.int p5), .val (.int (3 : Int32)), .val (.int v0), .val (.int v1), .val (.int v2), .val (.ref la), .val (.ref a), .val .null, .val (.int (1 : Int32)), .val (.int (0 : Int32)), .unset, .unset, .unset] [])) (fun t k => XS.istore X60.here hx rfl (hb hby at_219) rfl (l' := #[.val (.int p1), .val (.int p2), .val (.int p3), .val (.int p4), .val (.int p5), .val (.int (3 : Int32)), .val (.int v0), .val (.int v1), .val (.int v2), .val (.ref la), .val (.ref a), .val .null, .val (.int (1 : Int32)), .val (.int (0 : Int32)), .unset, .unset, .unset]) rfl k) ?_
          refine Goes.pre (U' := T60.setTop (mkF m 223 #[.val (.int p1), .val (.int p2), .val (.int p3), .val (.int p4), .val (.int p5), .val (.int (3 : Int32)), .val (.int v0), .val (.int v1), .val (.int v2), .val (.ref la), .val (.ref a), .val .null, .val (.int (1 : Int32)), .val (.int (0 : Int32)), .unset, .unset, .unset] [(.int (0 : Int32))])) (fun t k => XS.iload X60.here hx rfl (hb hby at_221) rfl k) ?_
          have hc223 : (0 : Int32) = (0 : Int32) := rfl
          refine Goes.pre (U' := T60.setTop (mkF m 226 #[.val (.int p1), .val (.int p2), .val (.int p3), .val (.int p4), .val (.int p5), .val (.int (3 : Int32)), .val (.int v0), .val (.int v1), .val (.int v2), .val (.ref la), .val (.ref a), .val .null, .val (.int (1 : Int32)), .val (.int (0 : Int32)), .unset, .unset, .unset] [])) (fun t k => XS.ifNo X60.here hx rfl (hb hby at_223) rfl ((if0 _ _).trans (teq hc223).2) k) ?_
          refine Goes.pre (U' := T60.setTop (mkF m 228 #[.val (.int p1), .val (.int p2), .val (.int p3), .val (.int p4), .val (.int p5), .val (.int (3 : Int32)), .val (.int v0), .val (.int v1), .val (.int v2), .val (.ref la), .val (.ref a), .val .null, .val (.int (1 : Int32)), .val (.int (0 : Int32)), .unset, .unset, .unset] [(.int (1 : Int32))])) (fun t k => XS.iload X60.here hx rfl (hb hby at_226) rfl k) ?_
          have hc228 : ¬ ((1 : Int32) = (0 : Int32)) := by decide
          refine Goes.pre (U' := T60.setTop (mkF m 231 #[.val (.int p1), .val (.int p2), .val (.int p3), .val (.int p4), .val (.int p5), .val (.int (3 : Int32)), .val (.int v0), .val (.int v1), .val (.int v2), .val (.ref la), .val (.ref a), .val .null, .val (.int (1 : Int32)), .val (.int (0 : Int32)), .unset, .unset, .unset] [])) (fun t k => XS.ifNo X60.here hx rfl (hb hby at_228) rfl ((if0 _ _).trans (feq hc228).1) k) ?_
          refine Goes.pre (U' := T60.setTop (mkF m 233 #[.val (.int p1), .val (.int p2), .val (.int p3), .val (.int p4), .val (.int p5), .val (.int (3 : Int32)), .val (.int v0), .val (.int v1), .val (.int v2), .val (.ref la), .val (.ref a), .val .null, .val (.int (1 : Int32)), .val (.int (0 : Int32)), .unset, .unset, .unset] [.null])) (fun t k => XS.aload X60.here hx rfl (hb hby at_231) rfl rfl k) ?_
          refine Goes.pre (U' := T60.setTop (mkF m 236 #[.val (.int p1), .val (.int p2), .val (.int p3), .val (.int p4), .val (.int p5), .val (.int (3 : Int32)), .val (.int v0), .val (.int v1), .val (.int v2), .val (.ref la), .val (.ref a), .val .null, .val (.int (1 : Int32)), .val (.int (0 : Int32)), .unset, .unset, .unset] [])) (fun t k => XS.ifnonnullNo X60.here hx rfl (hb hby at_233) rfl k) ?_
          refine Goes.pre (U' := T60.setTop (mkF m 237 #[.val (.int p1), .val (.int p2), .val (.int p3), .val (.int p4), .val (.int p5), .val (.int (3 : Int32)), .val (.int v0), .val (.int v1), .val (.int v2), .val (.ref la), .val (.ref a), .val .null, .val (.int (1 : Int32)), .val (.int (0 : Int32)), .unset, .unset, .unset] [(.int (1 : Int32))])) (fun t k => XS.iconst X60.here hx rfl (hb hby at_236) k) ?_
          refine Goes.pre (U' := T60.setTop (mkF m 241 #[.val (.int p1), .val (.int p2), .val (.int p3), .val (.int p4), .val (.int p5), .val (.int (3 : Int32)), .val (.int v0), .val (.int v1), .val (.int v2), .val (.ref la), .val (.ref a), .val .null, .val (.int (1 : Int32)), .val (.int (0 : Int32)), .unset, .unset, .unset] [(.int (1 : Int32))])) (fun t k => XS.goto X60.here hx rfl (pc0 := 237) (pc' := 241) rfl (hb hby at_237) (by decide) (by decide) k) ?_
          refine Goes.ret X60 (v := (some (.int (1 : Int32)))) (fun h => by rw [Bd.returns] at h; cases h) Bd.notSynchronized (by decide) (by decide) rfl (fun fs hr => retN X60 hx (t := .boolean) Bd.returns (by simp) (hb hby at_241) hr) ?_
          exact ⟨rfl, N60⟩
        ·
          have hk := hq0
          refine Goes.pre (U' := T58.setTop (mkF m 107 #[.val (.int p1), .val (.int p2), .val (.int p3), .val (.int p4), .val (.int p5), .val (.int (3 : Int32)), .val (.int v0), .val (.int v1), .val (.int v2), .val (.ref la), .val (.ref a), .unset, .unset, .unset, .unset, .unset, .unset] [(.ref a)])) (fun t k => XS.aload X58.here hx rfl (hb hby at_105) rfl rfl k) ?_
          have lt_a := E_a.lt
          have lt_fa := E_fa.lt
          have lt_la := E_la.lt
          obtain ⟨cq65, kq65, q65a, q65b, q65c⟩ := isOf hZ rfl E_a
          obtain ⟨_, _, ⟨T65, L65, k65, n65⟩, -, X65, ⟨Lc65, hQ65, l65, y65, z65⟩, st65⟩ := X58.virtualBack hx (y := (⟨"com/example/known_paths/knownpaths/key/KeyRange", "end", "()[B"⟩ : MethodName)) (z := (⟨"com/example/known_paths/knownpaths/key/KeyRange", "end", "()[B"⟩ : MethodName)) hown (mvT hZ (hw _ (List.mem_of_getElem? (i := 19) rfl))) (mvT hZ (hw _ (List.mem_of_getElem? (i := 20) rfl))) (notFace_of_selects (args := #[]) (mvT hZ (hw _ (List.mem_of_getElem? (i := 22) rfl)))) (mvT hZ (hw _ (List.mem_of_getElem? (i := 22) rfl))) (mvT hZ (hw _ (List.mem_of_getElem? (i := 21) rfl))) (by decide) (backOf (W := 0) (rm_end31 l Z a0 hw [] a la k52 v0 v1 v2 T58.heap n0 Z59 F_last_a E_la V_la hq1 hq2 hk) hZ (hw _ (List.mem_of_getElem? (i := 23) rfl)) (hw _ (List.mem_of_getElem? (i := 3) rfl)) (by decide) (by decide)) q65a q65c (g := (mkF m 107 #[.val (.int p1), .val (.int p2), .val (.int p3), .val (.int p4), .val (.int p5), .val (.int (3 : Int32)), .val (.int v0), .val (.int v1), .val (.int v2), .val (.ref la), .val (.ref a), .unset, .unset, .unset, .unset, .unset, .unset] [(.ref a)])) rfl (by rw [hml]; rfl) (Steps.refl _) (argsL := []) (rest := []) (lenOf pd__28_29_5bB rfl) rfl (by show 2 * 0 + _ ≤ _; exact Nat.le_of_eq rfl) (hb hby at_107) (fun _ _ => ⟨rfl, rfl, (by decide : 3 + 1 ≤ _), (by decide : 5 + 1 ≤ _)⟩)
          dsimp only [Pt.U, Pt.locs, Pt.cells, Pt.slots] at X65 l65 y65 z65 st65 hQ65
          subst l65 y65 z65
          obtain ⟨r, kr, rfl, N65q, KQ65, V_r, g_r, sz_r0⟩ := hQ65
          have N65 := Fr.app N58 N65q
          have E_la := E_la.keep KQ65
          have V_la := V_la.keep KQ65 nin0
          have E_a := E_a.keep KQ65
          have E_fa := E_fa.keep KQ65
          have V_fa := V_fa.keep KQ65 nin0
          have F_last_a := F_last_a.keep KQ65 nin0
          have Z66 : n0 ≤ T65.heap.size := Nat.le_trans Z59 KQ65.1
          have ne_a_r : a ≠ r := Nat.ne_of_lt (Nat.lt_of_lt_of_le lt_a sz_r0)
          have ne_r_a := ne_a_r.symm
          have ne_fa_r : fa ≠ r := Nat.ne_of_lt (Nat.lt_of_lt_of_le lt_fa sz_r0)
          have ne_r_fa := ne_fa_r.symm
          have ne_la_r : la ≠ r := Nat.ne_of_lt (Nat.lt_of_lt_of_le lt_la sz_r0)
          have ne_r_la := ne_la_r.symm
          refine Goes.pre (U' := T65.setTop (mkF m 110 #[.val (.int p1), .val (.int p2), .val (.int p3), .val (.int p4), .val (.int p5), .val (.int (3 : Int32)), .val (.int v0), .val (.int v1), .val (.int v2), .val (.ref la), .val (.ref a), .unset, .unset, .unset, .unset, .unset, .unset] [(.ref r)])) (fun t k => st65.trans k) ?_
          refine Goes.pre (U' := T65.setTop (mkF m 112 #[.val (.int p1), .val (.int p2), .val (.int p3), .val (.int p4), .val (.int p5), .val (.int (3 : Int32)), .val (.int v0), .val (.int v1), .val (.int v2), .val (.ref la), .val (.ref a), .val (.ref r), .unset, .unset, .unset, .unset, .unset] [])) (fun t k => XS.astore X65.here hx rfl (hb hby at_110) rfl rfl (l' := #[.val (.int p1), .val (.int p2), .val (.int p3), .val (.int p4), .val (.int p5), .val (.int (3 : Int32)), .val (.int v0), .val (.int v1), .val (.int v2), .val (.ref la), .val (.ref a), .val (.ref r), .unset, .unset, .unset, .unset, .unset]) rfl k) ?_
          refine Goes.pre (U' := T65.setTop (mkF m 114 #[.val (.int p1), .val (.int p2), .val (.int p3), .val (.int p4), .val (.int p5), .val (.int (3 : Int32)), .val (.int v0), .val (.int v1), .val (.int v2), .val (.ref la), .val (.ref a), .val (.ref r), .unset, .unset, .unset, .unset, .unset] [(.int (3 : Int32))])) (fun t k => XS.iload X65.here hx rfl (hb hby at_112) rfl k) ?_
          refine Goes.pre (U' := T65.setTop (mkF m 115 #[.val (.int p1), .val (.int p2), .val (.int p3), .val (.int p4), .val (.int p5), .val (.int (3 : Int32)), .val (.int v0), .val (.int v1), .val (.int v2), .val (.ref la), .val (.ref a), .val (.ref r), .unset, .unset, .unset, .unset, .unset] [(.int (1 : Int32)), (.int (3 : Int32))])) (fun t k => XS.iconst X65.here hx rfl (hb hby at_114) k) ?_
          have hc115 : ¬ ((3 : Int32) < (1 : Int32)) := by decide
          refine Goes.pre (U' := T65.setTop (mkF m 118 #[.val (.int p1), .val (.int p2), .val (.int p3), .val (.int p4), .val (.int p5), .val (.int (3 : Int32)), .val (.int v0), .val (.int v1), .val (.int v2), .val (.ref la), .val (.ref a), .val (.ref r), .unset, .unset, .unset, .unset, .unset] [])) (fun t k => XS.icmpNo X65.here hx rfl (hb hby at_115) rfl (flt hc115).1 k) ?_
          refine Goes.pre (U' := T65.setTop (mkF m 120 #[.val (.int p1), .val (.int p2), .val (.int p3), .val (.int p4), .val (.int p5), .val (.int (3 : Int32)), .val (.int v0), .val (.int v1), .val (.int v2), .val (.ref la), .val (.ref a), .val (.ref r), .unset, .unset, .unset, .unset, .unset] [(.ref la)])) (fun t k => XS.aload X65.here hx rfl (hb hby at_118) rfl rfl k) ?_
          refine Goes.pre (U' := T65.setTop (mkF m 121 #[.val (.int p1), .val (.int p2), .val (.int p3), .val (.int p4), .val (.int p5), .val (.int (3 : Int32)), .val (.int v0), .val (.int v1), .val (.int v2), .val (.ref la), .val (.ref a), .val (.ref r), .unset, .unset, .unset, .unset, .unset] [(.int (0 : Int32)), (.ref la)])) (fun t k => XS.iconst X65.here hx rfl (hb hby at_120) k) ?_
          obtain ⟨cl67, Ar67, q67, Sz67, Ng67, Hs67, Ft67⟩ := id V_la
          have hin67 := inb_of (j := (0 : Int32)) Sz67 ⟨by decide, by decide⟩
          refine Goes.pre (U' := T65.setTop (mkF m 122 #[.val (.int p1), .val (.int p2), .val (.int p3), .val (.int p4), .val (.int p5), .val (.int (3 : Int32)), .val (.int v0), .val (.int v1), .val (.int v2), .val (.ref la), .val (.ref a), .val (.ref r), .unset, .unset, .unset, .unset, .unset] [(.int v0)])) (fun t k => X65.baloadBytes hx (j := (0 : Int32)) (v := (.int v0)) Ar67.1 (State.isArrayOf_alike hZ.alike Ar67.2.1) Ar67.2.2 hin67 (Has.at Hs67 hin67 rfl) (g := (mkF m 121 #[.val (.int p1), .val (.int p2), .val (.int p3), .val (.int p4), .val (.int p5), .val (.int (3 : Int32)), .val (.int v0), .val (.int v1), .val (.int v2), .val (.ref la), .val (.ref a), .val (.ref r), .unset, .unset, .unset, .unset, .unset] [(.int (0 : Int32)), (.ref la)])) rfl rfl (hb hby at_121) _ k) ?_
          refine Goes.pre (U' := T65.setTop (mkF m 124 #[.val (.int p1), .val (.int p2), .val (.int p3), .val (.int p4), .val (.int p5), .val (.int (3 : Int32)), .val (.int v0), .val (.int v1), .val (.int v2), .val (.ref la), .val (.ref a), .val (.ref r), .unset, .unset, .unset, .unset, .unset] [(.int v0), (.int v0)])) (fun t k => XS.iload X65.here hx rfl (hb hby at_122) rfl k) ?_
          have hc124 : v0 = v0 := rfl
          refine Goes.pre (U' := T65.setTop (mkF m 127 #[.val (.int p1), .val (.int p2), .val (.int p3), .val (.int p4), .val (.int p5), .val (.int (3 : Int32)), .val (.int v0), .val (.int v1), .val (.int v2), .val (.ref la), .val (.ref a), .val (.ref r), .unset, .unset, .unset, .unset, .unset] [])) (fun t k => XS.icmpNo X65.here hx rfl (hb hby at_124) rfl (teq hc124).2 k) ?_
          refine Goes.pre (U' := T65.setTop (mkF m 129 #[.val (.int p1), .val (.int p2), .val (.int p3), .val (.int p4), .val (.int p5), .val (.int (3 : Int32)), .val (.int v0), .val (.int v1), .val (.int v2), .val (.ref la), .val (.ref a), .val (.ref r), .unset, .unset, .unset, .unset, .unset] [(.int (3 : Int32))])) (fun t k => XS.iload X65.here hx rfl (hb hby at_127) rfl k) ?_
          refine Goes.pre (U' := T65.setTop (mkF m 130 #[.val (.int p1), .val (.int p2), .val (.int p3), .val (.int p4), .val (.int p5), .val (.int (3 : Int32)), .val (.int v0), .val (.int v1), .val (.int v2), .val (.ref la), .val (.ref a), .val (.ref r), .unset, .unset, .unset, .unset, .unset] [(.int (2 : Int32)), (.int (3 : Int32))])) (fun t k => XS.iconst X65.here hx rfl (hb hby at_129) k) ?_
          have hc130 : ¬ ((3 : Int32) < (2 : Int32)) := by decide
          refine Goes.pre (U' := T65.setTop (mkF m 133 #[.val (.int p1), .val (.int p2), .val (.int p3), .val (.int p4), .val (.int p5), .val (.int (3 : Int32)), .val (.int v0), .val (.int v1), .val (.int v2), .val (.ref la), .val (.ref a), .val (.ref r), .unset, .unset, .unset, .unset, .unset] [])) (fun t k => XS.icmpNo X65.here hx rfl (hb hby at_130) rfl (flt hc130).1 k) ?_
          refine Goes.pre (U' := T65.setTop (mkF m 135 #[.val (.int p1), .val (.int p2), .val (.int p3), .val (.int p4), .val (.int p5), .val (.int (3 : Int32)), .val (.int v0), .val (.int v1), .val (.int v2), .val (.ref la), .val (.ref a), .val (.ref r), .unset, .unset, .unset, .unset, .unset] [(.ref la)])) (fun t k => XS.aload X65.here hx rfl (hb hby at_133) rfl rfl k) ?_
          refine Goes.pre (U' := T65.setTop (mkF m 136 #[.val (.int p1), .val (.int p2), .val (.int p3), .val (.int p4), .val (.int p5), .val (.int (3 : Int32)), .val (.int v0), .val (.int v1), .val (.int v2), .val (.ref la), .val (.ref a), .val (.ref r), .unset, .unset, .unset, .unset, .unset] [(.int (1 : Int32)), (.ref la)])) (fun t k => XS.iconst X65.here hx rfl (hb hby at_135) k) ?_
          obtain ⟨cl68, Ar68, q68, Sz68, Ng68, Hs68, Ft68⟩ := id V_la
          have hin68 := inb_of (j := (1 : Int32)) Sz68 ⟨by decide, by decide⟩
          refine Goes.pre (U' := T65.setTop (mkF m 137 #[.val (.int p1), .val (.int p2), .val (.int p3), .val (.int p4), .val (.int p5), .val (.int (3 : Int32)), .val (.int v0), .val (.int v1), .val (.int v2), .val (.ref la), .val (.ref a), .val (.ref r), .unset, .unset, .unset, .unset, .unset] [(.int v1)])) (fun t k => X65.baloadBytes hx (j := (1 : Int32)) (v := (.int v1)) Ar68.1 (State.isArrayOf_alike hZ.alike Ar68.2.1) Ar68.2.2 hin68 (Has.at Hs68 hin68 rfl) (g := (mkF m 136 #[.val (.int p1), .val (.int p2), .val (.int p3), .val (.int p4), .val (.int p5), .val (.int (3 : Int32)), .val (.int v0), .val (.int v1), .val (.int v2), .val (.ref la), .val (.ref a), .val (.ref r), .unset, .unset, .unset, .unset, .unset] [(.int (1 : Int32)), (.ref la)])) rfl rfl (hb hby at_136) _ k) ?_
          refine Goes.pre (U' := T65.setTop (mkF m 139 #[.val (.int p1), .val (.int p2), .val (.int p3), .val (.int p4), .val (.int p5), .val (.int (3 : Int32)), .val (.int v0), .val (.int v1), .val (.int v2), .val (.ref la), .val (.ref a), .val (.ref r), .unset, .unset, .unset, .unset, .unset] [(.int v1), (.int v1)])) (fun t k => XS.iload X65.here hx rfl (hb hby at_137) rfl k) ?_
          have hc139 : v1 = v1 := rfl
          refine Goes.pre (U' := T65.setTop (mkF m 142 #[.val (.int p1), .val (.int p2), .val (.int p3), .val (.int p4), .val (.int p5), .val (.int (3 : Int32)), .val (.int v0), .val (.int v1), .val (.int v2), .val (.ref la), .val (.ref a), .val (.ref r), .unset, .unset, .unset, .unset, .unset] [])) (fun t k => XS.icmpNo X65.here hx rfl (hb hby at_139) rfl (teq hc139).2 k) ?_
          refine Goes.pre (U' := T65.setTop (mkF m 144 #[.val (.int p1), .val (.int p2), .val (.int p3), .val (.int p4), .val (.int p5), .val (.int (3 : Int32)), .val (.int v0), .val (.int v1), .val (.int v2), .val (.ref la), .val (.ref a), .val (.ref r), .unset, .unset, .unset, .unset, .unset] [(.int (3 : Int32))])) (fun t k => XS.iload X65.here hx rfl (hb hby at_142) rfl k) ?_
          refine Goes.pre (U' := T65.setTop (mkF m 145 #[.val (.int p1), .val (.int p2), .val (.int p3), .val (.int p4), .val (.int p5), .val (.int (3 : Int32)), .val (.int v0), .val (.int v1), .val (.int v2), .val (.ref la), .val (.ref a), .val (.ref r), .unset, .unset, .unset, .unset, .unset] [(.int (3 : Int32)), (.int (3 : Int32))])) (fun t k => XS.iconst X65.here hx rfl (hb hby at_144) k) ?_
          have hc145 : ¬ ((3 : Int32) < (3 : Int32)) := by decide
          refine Goes.pre (U' := T65.setTop (mkF m 148 #[.val (.int p1), .val (.int p2), .val (.int p3), .val (.int p4), .val (.int p5), .val (.int (3 : Int32)), .val (.int v0), .val (.int v1), .val (.int v2), .val (.ref la), .val (.ref a), .val (.ref r), .unset, .unset, .unset, .unset, .unset] [])) (fun t k => XS.icmpNo X65.here hx rfl (hb hby at_145) rfl (flt hc145).1 k) ?_
          refine Goes.pre (U' := T65.setTop (mkF m 150 #[.val (.int p1), .val (.int p2), .val (.int p3), .val (.int p4), .val (.int p5), .val (.int (3 : Int32)), .val (.int v0), .val (.int v1), .val (.int v2), .val (.ref la), .val (.ref a), .val (.ref r), .unset, .unset, .unset, .unset, .unset] [(.ref la)])) (fun t k => XS.aload X65.here hx rfl (hb hby at_148) rfl rfl k) ?_
          refine Goes.pre (U' := T65.setTop (mkF m 151 #[.val (.int p1), .val (.int p2), .val (.int p3), .val (.int p4), .val (.int p5), .val (.int (3 : Int32)), .val (.int v0), .val (.int v1), .val (.int v2), .val (.ref la), .val (.ref a), .val (.ref r), .unset, .unset, .unset, .unset, .unset] [(.int (2 : Int32)), (.ref la)])) (fun t k => XS.iconst X65.here hx rfl (hb hby at_150) k) ?_
          obtain ⟨cl69, Ar69, q69, Sz69, Ng69, Hs69, Ft69⟩ := id V_la
          have hin69 := inb_of (j := (2 : Int32)) Sz69 ⟨by decide, by decide⟩
          refine Goes.pre (U' := T65.setTop (mkF m 152 #[.val (.int p1), .val (.int p2), .val (.int p3), .val (.int p4), .val (.int p5), .val (.int (3 : Int32)), .val (.int v0), .val (.int v1), .val (.int v2), .val (.ref la), .val (.ref a), .val (.ref r), .unset, .unset, .unset, .unset, .unset] [(.int v2)])) (fun t k => X65.baloadBytes hx (j := (2 : Int32)) (v := (.int v2)) Ar69.1 (State.isArrayOf_alike hZ.alike Ar69.2.1) Ar69.2.2 hin69 (Has.at Hs69 hin69 rfl) (g := (mkF m 151 #[.val (.int p1), .val (.int p2), .val (.int p3), .val (.int p4), .val (.int p5), .val (.int (3 : Int32)), .val (.int v0), .val (.int v1), .val (.int v2), .val (.ref la), .val (.ref a), .val (.ref r), .unset, .unset, .unset, .unset, .unset] [(.int (2 : Int32)), (.ref la)])) rfl rfl (hb hby at_151) _ k) ?_
          refine Goes.pre (U' := T65.setTop (mkF m 154 #[.val (.int p1), .val (.int p2), .val (.int p3), .val (.int p4), .val (.int p5), .val (.int (3 : Int32)), .val (.int v0), .val (.int v1), .val (.int v2), .val (.ref la), .val (.ref a), .val (.ref r), .unset, .unset, .unset, .unset, .unset] [(.int v2), (.int v2)])) (fun t k => XS.iload X65.here hx rfl (hb hby at_152) rfl k) ?_
          have hc154 : v2 = v2 := rfl
          refine Goes.pre (U' := T65.setTop (mkF m 157 #[.val (.int p1), .val (.int p2), .val (.int p3), .val (.int p4), .val (.int p5), .val (.int (3 : Int32)), .val (.int v0), .val (.int v1), .val (.int v2), .val (.ref la), .val (.ref a), .val (.ref r), .unset, .unset, .unset, .unset, .unset] [])) (fun t k => XS.icmpNo X65.here hx rfl (hb hby at_154) rfl (teq hc154).2 k) ?_
          refine Goes.pre (U' := T65.setTop (mkF m 158 #[.val (.int p1), .val (.int p2), .val (.int p3), .val (.int p4), .val (.int p5), .val (.int (3 : Int32)), .val (.int v0), .val (.int v1), .val (.int v2), .val (.ref la), .val (.ref a), .val (.ref r), .unset, .unset, .unset, .unset, .unset] [(.int (1 : Int32))])) (fun t k => XS.iconst X65.here hx rfl (hb hby at_157) k) ?_
          refine Goes.pre (U' := T65.setTop (mkF m 162 #[.val (.int p1), .val (.int p2), .val (.int p3), .val (.int p4), .val (.int p5), .val (.int (3 : Int32)), .val (.int v0), .val (.int v1), .val (.int v2), .val (.ref la), .val (.ref a), .val (.ref r), .unset, .unset, .unset, .unset, .unset] [(.int (1 : Int32))])) (fun t k => XS.goto X65.here hx rfl (pc0 := 158) (pc' := 162) rfl (hb hby at_158) (by decide) (by decide) k) ?_
          refine Goes.pre (U' := T65.setTop (mkF m 164 #[.val (.int p1), .val (.int p2), .val (.int p3), .val (.int p4), .val (.int p5), .val (.int (3 : Int32)), .val (.int v0), .val (.int v1), .val (.int v2), .val (.ref la), .val (.ref a), .val (.ref r), .val (.int (1 : Int32)), .unset, .unset, .unset, .unset] [])) (fun t k => XS.istore X65.here hx rfl (hb hby at_162) rfl (l' := #[.val (.int p1), .val (.int p2), .val (.int p3), .val (.int p4), .val (.int p5), .val (.int (3 : Int32)), .val (.int v0), .val (.int v1), .val (.int v2), .val (.ref la), .val (.ref a), .val (.ref r), .val (.int (1 : Int32)), .unset, .unset, .unset, .unset]) rfl k) ?_
          refine Goes.pre (U' := T65.setTop (mkF m 166 #[.val (.int p1), .val (.int p2), .val (.int p3), .val (.int p4), .val (.int p5), .val (.int (3 : Int32)), .val (.int v0), .val (.int v1), .val (.int v2), .val (.ref la), .val (.ref a), .val (.ref r), .val (.int (1 : Int32)), .unset, .unset, .unset, .unset] [(.int (3 : Int32))])) (fun t k => XS.iload X65.here hx rfl (hb hby at_164) rfl k) ?_
          refine Goes.pre (U' := T65.setTop (mkF m 167 #[.val (.int p1), .val (.int p2), .val (.int p3), .val (.int p4), .val (.int p5), .val (.int (3 : Int32)), .val (.int v0), .val (.int v1), .val (.int v2), .val (.ref la), .val (.ref a), .val (.ref r), .val (.int (1 : Int32)), .unset, .unset, .unset, .unset] [(.int (3 : Int32)), (.int (3 : Int32))])) (fun t k => XS.iconst X65.here hx rfl (hb hby at_166) k) ?_
          have hc167 : ¬ ((3 : Int32) < (3 : Int32)) := by decide
          refine Goes.pre (U' := T65.setTop (mkF m 170 #[.val (.int p1), .val (.int p2), .val (.int p3), .val (.int p4), .val (.int p5), .val (.int (3 : Int32)), .val (.int v0), .val (.int v1), .val (.int v2), .val (.ref la), .val (.ref a), .val (.ref r), .val (.int (1 : Int32)), .unset, .unset, .unset, .unset] [])) (fun t k => XS.icmpNo X65.here hx rfl (hb hby at_167) rfl (flt hc167).1 k) ?_
          refine Goes.pre (U' := T65.setTop (mkF m 172 #[.val (.int p1), .val (.int p2), .val (.int p3), .val (.int p4), .val (.int p5), .val (.int (3 : Int32)), .val (.int v0), .val (.int v1), .val (.int v2), .val (.ref la), .val (.ref a), .val (.ref r), .val (.int (1 : Int32)), .unset, .unset, .unset, .unset] [(.int v2)])) (fun t k => XS.iload X65.here hx rfl (hb hby at_170) rfl k) ?_
          refine Goes.pre (U' := T65.setTop (mkF m 173 #[.val (.int p1), .val (.int p2), .val (.int p3), .val (.int p4), .val (.int p5), .val (.int (3 : Int32)), .val (.int v0), .val (.int v1), .val (.int v2), .val (.ref la), .val (.ref a), .val (.ref r), .val (.int (1 : Int32)), .unset, .unset, .unset, .unset] [(.int (-1 : Int32)), (.int v2)])) (fun t k => XS.iconst X65.here hx rfl (hb hby at_172) k) ?_
          have hc173 : v2 = (-1 : Int32) := hq2
          refine Goes.pre (U' := T65.setTop (mkF m 182 #[.val (.int p1), .val (.int p2), .val (.int p3), .val (.int p4), .val (.int p5), .val (.int (3 : Int32)), .val (.int v0), .val (.int v1), .val (.int v2), .val (.ref la), .val (.ref a), .val (.ref r), .val (.int (1 : Int32)), .unset, .unset, .unset, .unset] [])) (fun t k => XS.icmpYes X65.here hx rfl (pc0 := 173) (pc' := 182) rfl (hb hby at_173) rfl (teq hc173).1 (by decide) (by decide) k) ?_
          refine Goes.pre (U' := T65.setTop (mkF m 184 #[.val (.int p1), .val (.int p2), .val (.int p3), .val (.int p4), .val (.int p5), .val (.int (3 : Int32)), .val (.int v0), .val (.int v1), .val (.int v2), .val (.ref la), .val (.ref a), .val (.ref r), .val (.int (1 : Int32)), .unset, .unset, .unset, .unset] [(.int (3 : Int32))])) (fun t k => XS.iload X65.here hx rfl (hb hby at_182) rfl k) ?_
          refine Goes.pre (U' := T65.setTop (mkF m 185 #[.val (.int p1), .val (.int p2), .val (.int p3), .val (.int p4), .val (.int p5), .val (.int (3 : Int32)), .val (.int v0), .val (.int v1), .val (.int v2), .val (.ref la), .val (.ref a), .val (.ref r), .val (.int (1 : Int32)), .unset, .unset, .unset, .unset] [(.int (2 : Int32)), (.int (3 : Int32))])) (fun t k => XS.iconst X65.here hx rfl (hb hby at_184) k) ?_
          have hc185 : ¬ ((3 : Int32) < (2 : Int32)) := by decide
          refine Goes.pre (U' := T65.setTop (mkF m 188 #[.val (.int p1), .val (.int p2), .val (.int p3), .val (.int p4), .val (.int p5), .val (.int (3 : Int32)), .val (.int v0), .val (.int v1), .val (.int v2), .val (.ref la), .val (.ref a), .val (.ref r), .val (.int (1 : Int32)), .unset, .unset, .unset, .unset] [])) (fun t k => XS.icmpNo X65.here hx rfl (hb hby at_185) rfl (flt hc185).1 k) ?_
          refine Goes.pre (U' := T65.setTop (mkF m 190 #[.val (.int p1), .val (.int p2), .val (.int p3), .val (.int p4), .val (.int p5), .val (.int (3 : Int32)), .val (.int v0), .val (.int v1), .val (.int v2), .val (.ref la), .val (.ref a), .val (.ref r), .val (.int (1 : Int32)), .unset, .unset, .unset, .unset] [(.int v1)])) (fun t k => XS.iload X65.here hx rfl (hb hby at_188) rfl k) ?_
          refine Goes.pre (U' := T65.setTop (mkF m 191 #[.val (.int p1), .val (.int p2), .val (.int p3), .val (.int p4), .val (.int p5), .val (.int (3 : Int32)), .val (.int v0), .val (.int v1), .val (.int v2), .val (.ref la), .val (.ref a), .val (.ref r), .val (.int (1 : Int32)), .unset, .unset, .unset, .unset] [(.int (-1 : Int32)), (.int v1)])) (fun t k => XS.iconst X65.here hx rfl (hb hby at_190) k) ?_
          have hc191 : v1 = (-1 : Int32) := hq1
          refine Goes.pre (U' := T65.setTop (mkF m 200 #[.val (.int p1), .val (.int p2), .val (.int p3), .val (.int p4), .val (.int p5), .val (.int (3 : Int32)), .val (.int v0), .val (.int v1), .val (.int v2), .val (.ref la), .val (.ref a), .val (.ref r), .val (.int (1 : Int32)), .unset, .unset, .unset, .unset] [])) (fun t k => XS.icmpYes X65.here hx rfl (pc0 := 191) (pc' := 200) rfl (hb hby at_191) rfl (teq hc191).1 (by decide) (by decide) k) ?_
          refine Goes.pre (U' := T65.setTop (mkF m 202 #[.val (.int p1), .val (.int p2), .val (.int p3), .val (.int p4), .val (.int p5), .val (.int (3 : Int32)), .val (.int v0), .val (.int v1), .val (.int v2), .val (.ref la), .val (.ref a), .val (.ref r), .val (.int (1 : Int32)), .unset, .unset, .unset, .unset] [(.int (3 : Int32))])) (fun t k => XS.iload X65.here hx rfl (hb hby at_200) rfl k) ?_
          refine Goes.pre (U' := T65.setTop (mkF m 203 #[.val (.int p1), .val (.int p2), .val (.int p3), .val (.int p4), .val (.int p5), .val (.int (3 : Int32)), .val (.int v0), .val (.int v1), .val (.int v2), .val (.ref la), .val (.ref a), .val (.ref r), .val (.int (1 : Int32)), .unset, .unset, .unset, .unset] [(.int (1 : Int32)), (.int (3 : Int32))])) (fun t k => XS.iconst X65.here hx rfl (hb hby at_202) k) ?_
          have hc203 : ¬ ((3 : Int32) < (1 : Int32)) := by decide
          refine Goes.pre (U' := T65.setTop (mkF m 206 #[.val (.int p1), .val (.int p2), .val (.int p3), .val (.int p4), .val (.int p5), .val (.int (3 : Int32)), .val (.int v0), .val (.int v1), .val (.int v2), .val (.ref la), .val (.ref a), .val (.ref r), .val (.int (1 : Int32)), .unset, .unset, .unset, .unset] [])) (fun t k => XS.icmpNo X65.here hx rfl (hb hby at_203) rfl (flt hc203).1 k) ?_
          refine Goes.pre (U' := T65.setTop (mkF m 208 #[.val (.int p1), .val (.int p2), .val (.int p3), .val (.int p4), .val (.int p5), .val (.int (3 : Int32)), .val (.int v0), .val (.int v1), .val (.int v2), .val (.ref la), .val (.ref a), .val (.ref r), .val (.int (1 : Int32)), .unset, .unset, .unset, .unset] [(.int v0)])) (fun t k => XS.iload X65.here hx rfl (hb hby at_206) rfl k) ?_
          refine Goes.pre (U' := T65.setTop (mkF m 209 #[.val (.int p1), .val (.int p2), .val (.int p3), .val (.int p4), .val (.int p5), .val (.int (3 : Int32)), .val (.int v0), .val (.int v1), .val (.int v2), .val (.ref la), .val (.ref a), .val (.ref r), .val (.int (1 : Int32)), .unset, .unset, .unset, .unset] [(.int (-1 : Int32)), (.int v0)])) (fun t k => XS.iconst X65.here hx rfl (hb hby at_208) k) ?_
          have hc209 : ¬ (v0 = (-1 : Int32)) := hq0
          refine Goes.pre (U' := T65.setTop (mkF m 212 #[.val (.int p1), .val (.int p2), .val (.int p3), .val (.int p4), .val (.int p5), .val (.int (3 : Int32)), .val (.int v0), .val (.int v1), .val (.int v2), .val (.ref la), .val (.ref a), .val (.ref r), .val (.int (1 : Int32)), .unset, .unset, .unset, .unset] [])) (fun t k => XS.icmpNo X65.here hx rfl (hb hby at_209) rfl (feq hc209).1 k) ?_
          refine Goes.pre (U' := T65.setTop (mkF m 213 #[.val (.int p1), .val (.int p2), .val (.int p3), .val (.int p4), .val (.int p5), .val (.int (3 : Int32)), .val (.int v0), .val (.int v1), .val (.int v2), .val (.ref la), .val (.ref a), .val (.ref r), .val (.int (1 : Int32)), .unset, .unset, .unset, .unset] [(.int (1 : Int32))])) (fun t k => XS.iconst X65.here hx rfl (hb hby at_212) k) ?_
          refine Goes.pre (U' := T65.setTop (mkF m 215 #[.val (.int p1), .val (.int p2), .val (.int p3), .val (.int p4), .val (.int p5), .val (.int (3 : Int32)), .val (.int v0), .val (.int v1), .val (.int v2), .val (.ref la), .val (.ref a), .val (.ref r), .val (.int (1 : Int32)), .val (.int (1 : Int32)), .unset, .unset, .unset] [])) (fun t k => XS.istore X65.here hx rfl (hb hby at_213) rfl (l' := #[.val (.int p1), .val (.int p2), .val (.int p3), .val (.int p4), .val (.int p5), .val (.int (3 : Int32)), .val (.int v0), .val (.int v1), .val (.int v2), .val (.ref la), .val (.ref a), .val (.ref r), .val (.int (1 : Int32)), .val (.int (1 : Int32)), .unset, .unset, .unset]) rfl k) ?_
          refine Goes.pre (U' := T65.setTop (mkF m 221 #[.val (.int p1), .val (.int p2), .val (.int p3), .val (.int p4), .val (.int p5), .val (.int (3 : Int32)), .val (.int v0), .val (.int v1), .val (.int v2), .val (.ref la), .val (.ref a), .val (.ref r), .val (.int (1 : Int32)), .val (.int (1 : Int32)), .unset, .unset, .unset] [])) (fun t k => XS.goto X65.here hx rfl (pc0 := 215) (pc' := 221) rfl (hb hby at_215) (by decide) (by decide) k) ?_
          refine Goes.pre (U' := T65.setTop (mkF m 223 #[.val (.int p1), .val (.int p2), .val (.int p3), .val (.int p4), .val (.int p5), .val (.int (3 : Int32)), .val (.int v0), .val (.int v1), .val (.int v2), .val (.ref la), .val (.ref a), .val (.ref r), .val (.int (1 : Int32)), .val (.int (1 : Int32)), .unset, .unset, .unset] [(.int (1 : Int32))])) (fun t k => XS.iload X65.here hx rfl (hb hby at_221) rfl k) ?_
          have hc223 : ¬ ((1 : Int32) = (0 : Int32)) := by decide
          refine Goes.pre (U' := T65.setTop (mkF m 242 #[.val (.int p1), .val (.int p2), .val (.int p3), .val (.int p4), .val (.int p5), .val (.int (3 : Int32)), .val (.int v0), .val (.int v1), .val (.int v2), .val (.ref la), .val (.ref a), .val (.ref r), .val (.int (1 : Int32)), .val (.int (1 : Int32)), .unset, .unset, .unset] [])) (fun t k => XS.ifYes X65.here hx rfl (pc0 := 223) (pc' := 242) rfl (hb hby at_223) rfl ((if0 _ _).trans (feq hc223).2) (by decide) (by decide) k) ?_
          refine Goes.pre (U' := T65.setTop (mkF m 244 #[.val (.int p1), .val (.int p2), .val (.int p3), .val (.int p4), .val (.int p5), .val (.int (3 : Int32)), .val (.int v0), .val (.int v1), .val (.int v2), .val (.ref la), .val (.ref a), .val (.ref r), .val (.int (1 : Int32)), .val (.int (1 : Int32)), .unset, .unset, .unset] [(.ref r)])) (fun t k => XS.aload X65.here hx rfl (hb hby at_242) rfl rfl k) ?_
          refine Goes.pre (U' := T65.setTop (mkF m 247 #[.val (.int p1), .val (.int p2), .val (.int p3), .val (.int p4), .val (.int p5), .val (.int (3 : Int32)), .val (.int v0), .val (.int v1), .val (.int v2), .val (.ref la), .val (.ref a), .val (.ref r), .val (.int (1 : Int32)), .val (.int (1 : Int32)), .unset, .unset, .unset] [])) (fun t k => XS.ifnullNo X65.here hx rfl (hb hby at_244) rfl k) ?_
          refine Goes.pre (U' := T65.setTop (mkF m 249 #[.val (.int p1), .val (.int p2), .val (.int p3), .val (.int p4), .val (.int p5), .val (.int (3 : Int32)), .val (.int v0), .val (.int v1), .val (.int v2), .val (.ref la), .val (.ref a), .val (.ref r), .val (.int (1 : Int32)), .val (.int (1 : Int32)), .unset, .unset, .unset] [(.ref r)])) (fun t k => XS.aload X65.here hx rfl (hb hby at_247) rfl rfl k) ?_
          obtain ⟨cl70, Ar70, q70, Sz70, Ng70, -, -⟩ := id V_r
          have ln70 := len_of Sz70 Ng70
          refine Goes.pre (U' := T65.setTop (mkF m 250 #[.val (.int p1), .val (.int p2), .val (.int p3), .val (.int p4), .val (.int p5), .val (.int (3 : Int32)), .val (.int v0), .val (.int v1), .val (.int v2), .val (.ref la), .val (.ref a), .val (.ref r), .val (.int (1 : Int32)), .val (.int (1 : Int32)), .unset, .unset, .unset] [(.int (1 : Int32))])) (fun t k => X65.arraylength hx Ar70.1 (State.isArrayOf_alike hZ.alike Ar70.2.1) (g := (mkF m 249 #[.val (.int p1), .val (.int p2), .val (.int p3), .val (.int p4), .val (.int p5), .val (.int (3 : Int32)), .val (.int v0), .val (.int v1), .val (.int v2), .val (.ref la), .val (.ref a), .val (.ref r), .val (.int (1 : Int32)), .val (.int (1 : Int32)), .unset, .unset, .unset] [(.ref r)])) rfl rfl (hb hby at_249) _ (by rw [ln70]; exact k)) ?_
          refine Goes.pre (U' := T65.setTop (mkF m 252 #[.val (.int p1), .val (.int p2), .val (.int p3), .val (.int p4), .val (.int p5), .val (.int (3 : Int32)), .val (.int v0), .val (.int v1), .val (.int v2), .val (.ref la), .val (.ref a), .val (.ref r), .val (.int (1 : Int32)), .val (.int (1 : Int32)), .unset, .unset, .unset] [(.int (1 : Int32)), (.int (1 : Int32))])) (fun t k => XS.iload X65.here hx rfl (hb hby at_250) rfl k) ?_
          have hc252 : (1 : Int32) = (1 : Int32) := rfl
          refine Goes.pre (U' := T65.setTop (mkF m 257 #[.val (.int p1), .val (.int p2), .val (.int p3), .val (.int p4), .val (.int p5), .val (.int (3 : Int32)), .val (.int v0), .val (.int v1), .val (.int v2), .val (.ref la), .val (.ref a), .val (.ref r), .val (.int (1 : Int32)), .val (.int (1 : Int32)), .unset, .unset, .unset] [])) (fun t k => XS.icmpYes X65.here hx rfl (pc0 := 252) (pc' := 257) rfl (hb hby at_252) rfl (teq hc252).1 (by decide) (by decide) k) ?_
          refine Goes.pre (U' := T65.setTop (mkF m 259 #[.val (.int p1), .val (.int p2), .val (.int p3), .val (.int p4), .val (.int p5), .val (.int (3 : Int32)), .val (.int v0), .val (.int v1), .val (.int v2), .val (.ref la), .val (.ref a), .val (.ref r), .val (.int (1 : Int32)), .val (.int (1 : Int32)), .unset, .unset, .unset] [(.int (1 : Int32))])) (fun t k => XS.iload X65.here hx rfl (hb hby at_257) rfl k) ?_
          refine Goes.pre (U' := T65.setTop (mkF m 260 #[.val (.int p1), .val (.int p2), .val (.int p3), .val (.int p4), .val (.int p5), .val (.int (3 : Int32)), .val (.int v0), .val (.int v1), .val (.int v2), .val (.ref la), .val (.ref a), .val (.ref r), .val (.int (1 : Int32)), .val (.int (1 : Int32)), .unset, .unset, .unset] [(.int (1 : Int32)), (.int (1 : Int32))])) (fun t k => XS.iconst X65.here hx rfl (hb hby at_259) k) ?_
          have hc260 : (1 : Int32) = (1 : Int32) := rfl
          refine Goes.pre (U' := T65.setTop (mkF m 263 #[.val (.int p1), .val (.int p2), .val (.int p3), .val (.int p4), .val (.int p5), .val (.int (3 : Int32)), .val (.int v0), .val (.int v1), .val (.int v2), .val (.ref la), .val (.ref a), .val (.ref r), .val (.int (1 : Int32)), .val (.int (1 : Int32)), .unset, .unset, .unset] [])) (fun t k => XS.icmpNo X65.here hx rfl (hb hby at_260) rfl (teq hc260).2 k) ?_
          refine Goes.pre (U' := T65.setTop (mkF m 265 #[.val (.int p1), .val (.int p2), .val (.int p3), .val (.int p4), .val (.int p5), .val (.int (3 : Int32)), .val (.int v0), .val (.int v1), .val (.int v2), .val (.ref la), .val (.ref a), .val (.ref r), .val (.int (1 : Int32)), .val (.int (1 : Int32)), .unset, .unset, .unset] [(.int v0)])) (fun t k => XS.iload X65.here hx rfl (hb hby at_263) rfl k) ?_
          refine Goes.pre (U' := T65.setTop (mkF m 266 #[.val (.int p1), .val (.int p2), .val (.int p3), .val (.int p4), .val (.int p5), .val (.int (3 : Int32)), .val (.int v0), .val (.int v1), .val (.int v2), .val (.ref la), .val (.ref a), .val (.ref r), .val (.int (1 : Int32)), .val (.int (1 : Int32)), .unset, .unset, .unset] [(.int (1 : Int32)), (.int v0)])) (fun t k => XS.iconst X65.here hx rfl (hb hby at_265) k) ?_
          refine Goes.pre (U' := T65.setTop (mkF m 267 #[.val (.int p1), .val (.int p2), .val (.int p3), .val (.int p4), .val (.int p5), .val (.int (3 : Int32)), .val (.int v0), .val (.int v1), .val (.int v2), .val (.ref la), .val (.ref a), .val (.ref r), .val (.int (1 : Int32)), .val (.int (1 : Int32)), .unset, .unset, .unset] [(.int (v0 + (1 : Int32)))])) (fun t k => XS.iadd X65.here hx rfl (hb hby at_266) rfl k) ?_
          refine Goes.pre (U' := T65.setTop (mkF m 268 #[.val (.int p1), .val (.int p2), .val (.int p3), .val (.int p4), .val (.int p5), .val (.int (3 : Int32)), .val (.int v0), .val (.int v1), .val (.int v2), .val (.ref la), .val (.ref a), .val (.ref r), .val (.int (1 : Int32)), .val (.int (1 : Int32)), .unset, .unset, .unset] [(.int ((v0 + (1 : Int32)).toInt8.toInt32))])) (fun t k => XS.i2b X65.here hx rfl (hb hby at_267) rfl k) ?_
          refine Goes.pre (U' := T65.setTop (mkF m 273 #[.val (.int p1), .val (.int p2), .val (.int p3), .val (.int p4), .val (.int p5), .val (.int (3 : Int32)), .val (.int v0), .val (.int v1), .val (.int v2), .val (.ref la), .val (.ref a), .val (.ref r), .val (.int (1 : Int32)), .val (.int (1 : Int32)), .unset, .unset, .unset] [(.int ((v0 + (1 : Int32)).toInt8.toInt32))])) (fun t k => XS.goto X65.here hx rfl (pc0 := 268) (pc' := 273) rfl (hb hby at_268) (by decide) (by decide) k) ?_
          refine Goes.pre (U' := T65.setTop (mkF m 275 #[.val (.int p1), .val (.int p2), .val (.int p3), .val (.int p4), .val (.int p5), .val (.int (3 : Int32)), .val (.int v0), .val (.int v1), .val (.int v2), .val (.ref la), .val (.ref a), .val (.ref r), .val (.int (1 : Int32)), .val (.int (1 : Int32)), .val (.int ((v0 + (1 : Int32)).toInt8.toInt32)), .unset, .unset] [])) (fun t k => XS.istore X65.here hx rfl (hb hby at_273) rfl (l' := #[.val (.int p1), .val (.int p2), .val (.int p3), .val (.int p4), .val (.int p5), .val (.int (3 : Int32)), .val (.int v0), .val (.int v1), .val (.int v2), .val (.ref la), .val (.ref a), .val (.ref r), .val (.int (1 : Int32)), .val (.int (1 : Int32)), .val (.int ((v0 + (1 : Int32)).toInt8.toInt32)), .unset, .unset]) rfl k) ?_
          refine Goes.pre (U' := T65.setTop (mkF m 277 #[.val (.int p1), .val (.int p2), .val (.int p3), .val (.int p4), .val (.int p5), .val (.int (3 : Int32)), .val (.int v0), .val (.int v1), .val (.int v2), .val (.ref la), .val (.ref a), .val (.ref r), .val (.int (1 : Int32)), .val (.int (1 : Int32)), .val (.int ((v0 + (1 : Int32)).toInt8.toInt32)), .unset, .unset] [(.int (1 : Int32))])) (fun t k => XS.iload X65.here hx rfl (hb hby at_275) rfl k) ?_
          refine Goes.pre (U' := T65.setTop (mkF m 278 #[.val (.int p1), .val (.int p2), .val (.int p3), .val (.int p4), .val (.int p5), .val (.int (3 : Int32)), .val (.int v0), .val (.int v1), .val (.int v2), .val (.ref la), .val (.ref a), .val (.ref r), .val (.int (1 : Int32)), .val (.int (1 : Int32)), .val (.int ((v0 + (1 : Int32)).toInt8.toInt32)), .unset, .unset] [(.int (2 : Int32)), (.int (1 : Int32))])) (fun t k => XS.iconst X65.here hx rfl (hb hby at_277) k) ?_
          have hc278 : ¬ ((1 : Int32) = (2 : Int32)) := by decide
          refine Goes.pre (U' := T65.setTop (mkF m 289 #[.val (.int p1), .val (.int p2), .val (.int p3), .val (.int p4), .val (.int p5), .val (.int (3 : Int32)), .val (.int v0), .val (.int v1), .val (.int v2), .val (.ref la), .val (.ref a), .val (.ref r), .val (.int (1 : Int32)), .val (.int (1 : Int32)), .val (.int ((v0 + (1 : Int32)).toInt8.toInt32)), .unset, .unset] [])) (fun t k => XS.icmpYes X65.here hx rfl (pc0 := 278) (pc' := 289) rfl (hb hby at_278) rfl (feq hc278).2 (by decide) (by decide) k) ?_
          refine Goes.pre (U' := T65.setTop (mkF m 291 #[.val (.int p1), .val (.int p2), .val (.int p3), .val (.int p4), .val (.int p5), .val (.int (3 : Int32)), .val (.int v0), .val (.int v1), .val (.int v2), .val (.ref la), .val (.ref a), .val (.ref r), .val (.int (1 : Int32)), .val (.int (1 : Int32)), .val (.int ((v0 + (1 : Int32)).toInt8.toInt32)), .unset, .unset] [(.int v1)])) (fun t k => XS.iload X65.here hx rfl (hb hby at_289) rfl k) ?_
          refine Goes.pre (U' := T65.setTop (mkF m 293 #[.val (.int p1), .val (.int p2), .val (.int p3), .val (.int p4), .val (.int p5), .val (.int (3 : Int32)), .val (.int v0), .val (.int v1), .val (.int v2), .val (.ref la), .val (.ref a), .val (.ref r), .val (.int (1 : Int32)), .val (.int (1 : Int32)), .val (.int ((v0 + (1 : Int32)).toInt8.toInt32)), .val (.int v1), .unset] [])) (fun t k => XS.istore X65.here hx rfl (hb hby at_291) rfl (l' := #[.val (.int p1), .val (.int p2), .val (.int p3), .val (.int p4), .val (.int p5), .val (.int (3 : Int32)), .val (.int v0), .val (.int v1), .val (.int v2), .val (.ref la), .val (.ref a), .val (.ref r), .val (.int (1 : Int32)), .val (.int (1 : Int32)), .val (.int ((v0 + (1 : Int32)).toInt8.toInt32)), .val (.int v1), .unset]) rfl k) ?_
          refine Goes.pre (U' := T65.setTop (mkF m 295 #[.val (.int p1), .val (.int p2), .val (.int p3), .val (.int p4), .val (.int p5), .val (.int (3 : Int32)), .val (.int v0), .val (.int v1), .val (.int v2), .val (.ref la), .val (.ref a), .val (.ref r), .val (.int (1 : Int32)), .val (.int (1 : Int32)), .val (.int ((v0 + (1 : Int32)).toInt8.toInt32)), .val (.int v1), .unset] [(.int v2)])) (fun t k => XS.iload X65.here hx rfl (hb hby at_293) rfl k) ?_
          refine Goes.pre (U' := T65.setTop (mkF m 296 #[.val (.int p1), .val (.int p2), .val (.int p3), .val (.int p4), .val (.int p5), .val (.int (3 : Int32)), .val (.int v0), .val (.int v1), .val (.int v2), .val (.ref la), .val (.ref a), .val (.ref r), .val (.int (1 : Int32)), .val (.int (1 : Int32)), .val (.int ((v0 + (1 : Int32)).toInt8.toInt32)), .val (.int v1), .unset] [(.int (1 : Int32)), (.int v2)])) (fun t k => XS.iconst X65.here hx rfl (hb hby at_295) k) ?_
          refine Goes.pre (U' := T65.setTop (mkF m 297 #[.val (.int p1), .val (.int p2), .val (.int p3), .val (.int p4), .val (.int p5), .val (.int (3 : Int32)), .val (.int v0), .val (.int v1), .val (.int v2), .val (.ref la), .val (.ref a), .val (.ref r), .val (.int (1 : Int32)), .val (.int (1 : Int32)), .val (.int ((v0 + (1 : Int32)).toInt8.toInt32)), .val (.int v1), .unset] [(.int (v2 + (1 : Int32)))])) (fun t k => XS.iadd X65.here hx rfl (hb hby at_296) rfl k) ?_
          refine Goes.pre (U' := T65.setTop (mkF m 298 #[.val (.int p1), .val (.int p2), .val (.int p3), .val (.int p4), .val (.int p5), .val (.int (3 : Int32)), .val (.int v0), .val (.int v1), .val (.int v2), .val (.ref la), .val (.ref a), .val (.ref r), .val (.int (1 : Int32)), .val (.int (1 : Int32)), .val (.int ((v0 + (1 : Int32)).toInt8.toInt32)), .val (.int v1), .unset] [(.int ((v2 + (1 : Int32)).toInt8.toInt32))])) (fun t k => XS.i2b X65.here hx rfl (hb hby at_297) rfl k) ?_
          refine Goes.pre (U' := T65.setTop (mkF m 300 #[.val (.int p1), .val (.int p2), .val (.int p3), .val (.int p4), .val (.int p5), .val (.int (3 : Int32)), .val (.int v0), .val (.int v1), .val (.int v2), .val (.ref la), .val (.ref a), .val (.ref r), .val (.int (1 : Int32)), .val (.int (1 : Int32)), .val (.int ((v0 + (1 : Int32)).toInt8.toInt32)), .val (.int v1), .val (.int ((v2 + (1 : Int32)).toInt8.toInt32))] [])) (fun t k => XS.istore X65.here hx rfl (hb hby at_298) rfl (l' := #[.val (.int p1), .val (.int p2), .val (.int p3), .val (.int p4), .val (.int p5), .val (.int (3 : Int32)), .val (.int v0), .val (.int v1), .val (.int v2), .val (.ref la), .val (.ref a), .val (.ref r), .val (.int (1 : Int32)), .val (.int (1 : Int32)), .val (.int ((v0 + (1 : Int32)).toInt8.toInt32)), .val (.int v1), .val (.int ((v2 + (1 : Int32)).toInt8.toInt32))]) rfl k) ?_
          refine Goes.pre (U' := T65.setTop (mkF m 302 #[.val (.int p1), .val (.int p2), .val (.int p3), .val (.int p4), .val (.int p5), .val (.int (3 : Int32)), .val (.int v0), .val (.int v1), .val (.int v2), .val (.ref la), .val (.ref a), .val (.ref r), .val (.int (1 : Int32)), .val (.int (1 : Int32)), .val (.int ((v0 + (1 : Int32)).toInt8.toInt32)), .val (.int v1), .val (.int ((v2 + (1 : Int32)).toInt8.toInt32))] [(.int (1 : Int32))])) (fun t k => XS.iload X65.here hx rfl (hb hby at_300) rfl k) ?_
          have hc302 : ¬ ((1 : Int32) = (0 : Int32)) := by decide
          refine Goes.pre (U' := T65.setTop (mkF m 305 #[.val (.int p1), .val (.int p2), .val (.int p3), .val (.int p4), .val (.int p5), .val (.int (3 : Int32)), .val (.int v0), .val (.int v1), .val (.int v2), .val (.ref la), .val (.ref a), .val (.ref r), .val (.int (1 : Int32)), .val (.int (1 : Int32)), .val (.int ((v0 + (1 : Int32)).toInt8.toInt32)), .val (.int v1), .val (.int ((v2 + (1 : Int32)).toInt8.toInt32))] [])) (fun t k => XS.ifNo X65.here hx rfl (hb hby at_302) rfl ((if0 _ _).trans (feq hc302).1) k) ?_
          refine Goes.pre (U' := T65.setTop (mkF m 307 #[.val (.int p1), .val (.int p2), .val (.int p3), .val (.int p4), .val (.int p5), .val (.int (3 : Int32)), .val (.int v0), .val (.int v1), .val (.int v2), .val (.ref la), .val (.ref a), .val (.ref r), .val (.int (1 : Int32)), .val (.int (1 : Int32)), .val (.int ((v0 + (1 : Int32)).toInt8.toInt32)), .val (.int v1), .val (.int ((v2 + (1 : Int32)).toInt8.toInt32))] [(.ref r)])) (fun t k => XS.aload X65.here hx rfl (hb hby at_305) rfl rfl k) ?_
          refine Goes.pre (U' := T65.setTop (mkF m 308 #[.val (.int p1), .val (.int p2), .val (.int p3), .val (.int p4), .val (.int p5), .val (.int (3 : Int32)), .val (.int v0), .val (.int v1), .val (.int v2), .val (.ref la), .val (.ref a), .val (.ref r), .val (.int (1 : Int32)), .val (.int (1 : Int32)), .val (.int ((v0 + (1 : Int32)).toInt8.toInt32)), .val (.int v1), .val (.int ((v2 + (1 : Int32)).toInt8.toInt32))] [(.int (0 : Int32)), (.ref r)])) (fun t k => XS.iconst X65.here hx rfl (hb hby at_307) k) ?_
          obtain ⟨cl71, Ar71, q71, Sz71, Ng71, Hs71, Ft71⟩ := id V_r
          have hin71 := inb_of (j := (0 : Int32)) Sz71 ⟨by decide, by decide⟩
          refine Goes.pre (U' := T65.setTop (mkF m 309 #[.val (.int p1), .val (.int p2), .val (.int p3), .val (.int p4), .val (.int p5), .val (.int (3 : Int32)), .val (.int v0), .val (.int v1), .val (.int v2), .val (.ref la), .val (.ref a), .val (.ref r), .val (.int (1 : Int32)), .val (.int (1 : Int32)), .val (.int ((v0 + (1 : Int32)).toInt8.toInt32)), .val (.int v1), .val (.int ((v2 + (1 : Int32)).toInt8.toInt32))] [(.int ((v0 + (1 : Int32)).toInt8.toInt32))])) (fun t k => X65.baloadBytes hx (j := (0 : Int32)) (v := (.int ((v0 + (1 : Int32)).toInt8.toInt32))) Ar71.1 (State.isArrayOf_alike hZ.alike Ar71.2.1) Ar71.2.2 hin71 (Has.at Hs71 hin71 rfl) (g := (mkF m 308 #[.val (.int p1), .val (.int p2), .val (.int p3), .val (.int p4), .val (.int p5), .val (.int (3 : Int32)), .val (.int v0), .val (.int v1), .val (.int v2), .val (.ref la), .val (.ref a), .val (.ref r), .val (.int (1 : Int32)), .val (.int (1 : Int32)), .val (.int ((v0 + (1 : Int32)).toInt8.toInt32)), .val (.int v1), .val (.int ((v2 + (1 : Int32)).toInt8.toInt32))] [(.int (0 : Int32)), (.ref r)])) rfl rfl (hb hby at_308) _ k) ?_
          refine Goes.pre (U' := T65.setTop (mkF m 311 #[.val (.int p1), .val (.int p2), .val (.int p3), .val (.int p4), .val (.int p5), .val (.int (3 : Int32)), .val (.int v0), .val (.int v1), .val (.int v2), .val (.ref la), .val (.ref a), .val (.ref r), .val (.int (1 : Int32)), .val (.int (1 : Int32)), .val (.int ((v0 + (1 : Int32)).toInt8.toInt32)), .val (.int v1), .val (.int ((v2 + (1 : Int32)).toInt8.toInt32))] [(.int ((v0 + (1 : Int32)).toInt8.toInt32)), (.int ((v0 + (1 : Int32)).toInt8.toInt32))])) (fun t k => XS.iload X65.here hx rfl (hb hby at_309) rfl k) ?_
          have hc311 : ((v0 + (1 : Int32)).toInt8.toInt32) = ((v0 + (1 : Int32)).toInt8.toInt32) := rfl
          refine Goes.pre (U' := T65.setTop (mkF m 314 #[.val (.int p1), .val (.int p2), .val (.int p3), .val (.int p4), .val (.int p5), .val (.int (3 : Int32)), .val (.int v0), .val (.int v1), .val (.int v2), .val (.ref la), .val (.ref a), .val (.ref r), .val (.int (1 : Int32)), .val (.int (1 : Int32)), .val (.int ((v0 + (1 : Int32)).toInt8.toInt32)), .val (.int v1), .val (.int ((v2 + (1 : Int32)).toInt8.toInt32))] [])) (fun t k => XS.icmpNo X65.here hx rfl (hb hby at_311) rfl (teq hc311).2 k) ?_
          refine Goes.pre (U' := T65.setTop (mkF m 316 #[.val (.int p1), .val (.int p2), .val (.int p3), .val (.int p4), .val (.int p5), .val (.int (3 : Int32)), .val (.int v0), .val (.int v1), .val (.int v2), .val (.ref la), .val (.ref a), .val (.ref r), .val (.int (1 : Int32)), .val (.int (1 : Int32)), .val (.int ((v0 + (1 : Int32)).toInt8.toInt32)), .val (.int v1), .val (.int ((v2 + (1 : Int32)).toInt8.toInt32))] [(.int (1 : Int32))])) (fun t k => XS.iload X65.here hx rfl (hb hby at_314) rfl k) ?_
          refine Goes.pre (U' := T65.setTop (mkF m 317 #[.val (.int p1), .val (.int p2), .val (.int p3), .val (.int p4), .val (.int p5), .val (.int (3 : Int32)), .val (.int v0), .val (.int v1), .val (.int v2), .val (.ref la), .val (.ref a), .val (.ref r), .val (.int (1 : Int32)), .val (.int (1 : Int32)), .val (.int ((v0 + (1 : Int32)).toInt8.toInt32)), .val (.int v1), .val (.int ((v2 + (1 : Int32)).toInt8.toInt32))] [(.int (2 : Int32)), (.int (1 : Int32))])) (fun t k => XS.iconst X65.here hx rfl (hb hby at_316) k) ?_
          have hc317 : (1 : Int32) < (2 : Int32) := by decide
          refine Goes.pre (U' := T65.setTop (mkF m 329 #[.val (.int p1), .val (.int p2), .val (.int p3), .val (.int p4), .val (.int p5), .val (.int (3 : Int32)), .val (.int v0), .val (.int v1), .val (.int v2), .val (.ref la), .val (.ref a), .val (.ref r), .val (.int (1 : Int32)), .val (.int (1 : Int32)), .val (.int ((v0 + (1 : Int32)).toInt8.toInt32)), .val (.int v1), .val (.int ((v2 + (1 : Int32)).toInt8.toInt32))] [])) (fun t k => XS.icmpYes X65.here hx rfl (pc0 := 317) (pc' := 329) rfl (hb hby at_317) rfl (tlt hc317).1 (by decide) (by decide) k) ?_
          refine Goes.pre (U' := T65.setTop (mkF m 331 #[.val (.int p1), .val (.int p2), .val (.int p3), .val (.int p4), .val (.int p5), .val (.int (3 : Int32)), .val (.int v0), .val (.int v1), .val (.int v2), .val (.ref la), .val (.ref a), .val (.ref r), .val (.int (1 : Int32)), .val (.int (1 : Int32)), .val (.int ((v0 + (1 : Int32)).toInt8.toInt32)), .val (.int v1), .val (.int ((v2 + (1 : Int32)).toInt8.toInt32))] [(.int (1 : Int32))])) (fun t k => XS.iload X65.here hx rfl (hb hby at_329) rfl k) ?_
          refine Goes.pre (U' := T65.setTop (mkF m 332 #[.val (.int p1), .val (.int p2), .val (.int p3), .val (.int p4), .val (.int p5), .val (.int (3 : Int32)), .val (.int v0), .val (.int v1), .val (.int v2), .val (.ref la), .val (.ref a), .val (.ref r), .val (.int (1 : Int32)), .val (.int (1 : Int32)), .val (.int ((v0 + (1 : Int32)).toInt8.toInt32)), .val (.int v1), .val (.int ((v2 + (1 : Int32)).toInt8.toInt32))] [(.int (3 : Int32)), (.int (1 : Int32))])) (fun t k => XS.iconst X65.here hx rfl (hb hby at_331) k) ?_
          have hc332 : (1 : Int32) < (3 : Int32) := by decide
          refine Goes.pre (U' := T65.setTop (mkF m 344 #[.val (.int p1), .val (.int p2), .val (.int p3), .val (.int p4), .val (.int p5), .val (.int (3 : Int32)), .val (.int v0), .val (.int v1), .val (.int v2), .val (.ref la), .val (.ref a), .val (.ref r), .val (.int (1 : Int32)), .val (.int (1 : Int32)), .val (.int ((v0 + (1 : Int32)).toInt8.toInt32)), .val (.int v1), .val (.int ((v2 + (1 : Int32)).toInt8.toInt32))] [])) (fun t k => XS.icmpYes X65.here hx rfl (pc0 := 332) (pc' := 344) rfl (hb hby at_332) rfl (tlt hc332).1 (by decide) (by decide) k) ?_
          refine Goes.pre (U' := T65.setTop (mkF m 345 #[.val (.int p1), .val (.int p2), .val (.int p3), .val (.int p4), .val (.int p5), .val (.int (3 : Int32)), .val (.int v0), .val (.int v1), .val (.int v2), .val (.ref la), .val (.ref a), .val (.ref r), .val (.int (1 : Int32)), .val (.int (1 : Int32)), .val (.int ((v0 + (1 : Int32)).toInt8.toInt32)), .val (.int v1), .val (.int ((v2 + (1 : Int32)).toInt8.toInt32))] [(.int (1 : Int32))])) (fun t k => XS.iconst X65.here hx rfl (hb hby at_344) k) ?_
          refine Goes.pre (U' := T65.setTop (mkF m 349 #[.val (.int p1), .val (.int p2), .val (.int p3), .val (.int p4), .val (.int p5), .val (.int (3 : Int32)), .val (.int v0), .val (.int v1), .val (.int v2), .val (.ref la), .val (.ref a), .val (.ref r), .val (.int (1 : Int32)), .val (.int (1 : Int32)), .val (.int ((v0 + (1 : Int32)).toInt8.toInt32)), .val (.int v1), .val (.int ((v2 + (1 : Int32)).toInt8.toInt32))] [(.int (1 : Int32))])) (fun t k => XS.goto X65.here hx rfl (pc0 := 345) (pc' := 349) rfl (hb hby at_345) (by decide) (by decide) k) ?_
          refine Goes.ret X65 (v := (some (.int (1 : Int32)))) (fun h => by rw [Bd.returns] at h; cases h) Bd.notSynchronized (by decide) (by decide) rfl (fun fs hr => retN X65 hx (t := .boolean) Bd.returns (by simp) (hb hby at_349) hr) ?_
          exact ⟨rfl, N65⟩
      ·
        have hk := hq1
        refine Goes.pre (U' := T58.setTop (mkF m 107 #[.val (.int p1), .val (.int p2), .val (.int p3), .val (.int p4), .val (.int p5), .val (.int (3 : Int32)), .val (.int v0), .val (.int v1), .val (.int v2), .val (.ref la), .val (.ref a), .unset, .unset, .unset, .unset, .unset, .unset] [(.ref a)])) (fun t k => XS.aload X58.here hx rfl (hb hby at_105) rfl rfl k) ?_
        have lt_a := E_a.lt
        have lt_fa := E_fa.lt
        have lt_la := E_la.lt
        obtain ⟨cq72, kq72, q72a, q72b, q72c⟩ := isOf hZ rfl E_a
        obtain ⟨_, _, ⟨T72, L72, k72, n72⟩, -, X72, ⟨Lc72, hQ72, l72, y72, z72⟩, st72⟩ := X58.virtualBack hx (y := (⟨"com/example/known_paths/knownpaths/key/KeyRange", "end", "()[B"⟩ : MethodName)) (z := (⟨"com/example/known_paths/knownpaths/key/KeyRange", "end", "()[B"⟩ : MethodName)) hown (mvT hZ (hw _ (List.mem_of_getElem? (i := 19) rfl))) (mvT hZ (hw _ (List.mem_of_getElem? (i := 20) rfl))) (notFace_of_selects (args := #[]) (mvT hZ (hw _ (List.mem_of_getElem? (i := 22) rfl)))) (mvT hZ (hw _ (List.mem_of_getElem? (i := 22) rfl))) (mvT hZ (hw _ (List.mem_of_getElem? (i := 21) rfl))) (by decide) (backOf (W := 0) (rm_end32 l Z a0 hw [] a la k52 v0 v1 v2 T58.heap n0 Z59 F_last_a E_la V_la hq2 hk) hZ (hw _ (List.mem_of_getElem? (i := 23) rfl)) (hw _ (List.mem_of_getElem? (i := 3) rfl)) (by decide) (by decide)) q72a q72c (g := (mkF m 107 #[.val (.int p1), .val (.int p2), .val (.int p3), .val (.int p4), .val (.int p5), .val (.int (3 : Int32)), .val (.int v0), .val (.int v1), .val (.int v2), .val (.ref la), .val (.ref a), .unset, .unset, .unset, .unset, .unset, .unset] [(.ref a)])) rfl (by rw [hml]; rfl) (Steps.refl _) (argsL := []) (rest := []) (lenOf pd__28_29_5bB rfl) rfl (by show 2 * 0 + _ ≤ _; exact Nat.le_of_eq rfl) (hb hby at_107) (fun _ _ => ⟨rfl, rfl, (by decide : 3 + 1 ≤ _), (by decide : 5 + 2 ≤ _)⟩)
        dsimp only [Pt.U, Pt.locs, Pt.cells, Pt.slots] at X72 l72 y72 z72 st72 hQ72
        subst l72 y72 z72
        obtain ⟨r, kr, rfl, N72q, KQ72, V_r, g_r, sz_r0⟩ := hQ72
        have N72 := Fr.app N58 N72q
        have E_la := E_la.keep KQ72
        have V_la := V_la.keep KQ72 nin0
        have E_a := E_a.keep KQ72
        have E_fa := E_fa.keep KQ72
        have V_fa := V_fa.keep KQ72 nin0
        have F_last_a := F_last_a.keep KQ72 nin0
        have Z73 : n0 ≤ T72.heap.size := Nat.le_trans Z59 KQ72.1
        have ne_a_r : a ≠ r := Nat.ne_of_lt (Nat.lt_of_lt_of_le lt_a sz_r0)
        have ne_r_a := ne_a_r.symm
        have ne_fa_r : fa ≠ r := Nat.ne_of_lt (Nat.lt_of_lt_of_le lt_fa sz_r0)
        have ne_r_fa := ne_fa_r.symm
        have ne_la_r : la ≠ r := Nat.ne_of_lt (Nat.lt_of_lt_of_le lt_la sz_r0)
        have ne_r_la := ne_la_r.symm
        refine Goes.pre (U' := T72.setTop (mkF m 110 #[.val (.int p1), .val (.int p2), .val (.int p3), .val (.int p4), .val (.int p5), .val (.int (3 : Int32)), .val (.int v0), .val (.int v1), .val (.int v2), .val (.ref la), .val (.ref a), .unset, .unset, .unset, .unset, .unset, .unset] [(.ref r)])) (fun t k => st72.trans k) ?_
        refine Goes.pre (U' := T72.setTop (mkF m 112 #[.val (.int p1), .val (.int p2), .val (.int p3), .val (.int p4), .val (.int p5), .val (.int (3 : Int32)), .val (.int v0), .val (.int v1), .val (.int v2), .val (.ref la), .val (.ref a), .val (.ref r), .unset, .unset, .unset, .unset, .unset] [])) (fun t k => XS.astore X72.here hx rfl (hb hby at_110) rfl rfl (l' := #[.val (.int p1), .val (.int p2), .val (.int p3), .val (.int p4), .val (.int p5), .val (.int (3 : Int32)), .val (.int v0), .val (.int v1), .val (.int v2), .val (.ref la), .val (.ref a), .val (.ref r), .unset, .unset, .unset, .unset, .unset]) rfl k) ?_
        refine Goes.pre (U' := T72.setTop (mkF m 114 #[.val (.int p1), .val (.int p2), .val (.int p3), .val (.int p4), .val (.int p5), .val (.int (3 : Int32)), .val (.int v0), .val (.int v1), .val (.int v2), .val (.ref la), .val (.ref a), .val (.ref r), .unset, .unset, .unset, .unset, .unset] [(.int (3 : Int32))])) (fun t k => XS.iload X72.here hx rfl (hb hby at_112) rfl k) ?_
        refine Goes.pre (U' := T72.setTop (mkF m 115 #[.val (.int p1), .val (.int p2), .val (.int p3), .val (.int p4), .val (.int p5), .val (.int (3 : Int32)), .val (.int v0), .val (.int v1), .val (.int v2), .val (.ref la), .val (.ref a), .val (.ref r), .unset, .unset, .unset, .unset, .unset] [(.int (1 : Int32)), (.int (3 : Int32))])) (fun t k => XS.iconst X72.here hx rfl (hb hby at_114) k) ?_
        have hc115 : ¬ ((3 : Int32) < (1 : Int32)) := by decide
        refine Goes.pre (U' := T72.setTop (mkF m 118 #[.val (.int p1), .val (.int p2), .val (.int p3), .val (.int p4), .val (.int p5), .val (.int (3 : Int32)), .val (.int v0), .val (.int v1), .val (.int v2), .val (.ref la), .val (.ref a), .val (.ref r), .unset, .unset, .unset, .unset, .unset] [])) (fun t k => XS.icmpNo X72.here hx rfl (hb hby at_115) rfl (flt hc115).1 k) ?_
        refine Goes.pre (U' := T72.setTop (mkF m 120 #[.val (.int p1), .val (.int p2), .val (.int p3), .val (.int p4), .val (.int p5), .val (.int (3 : Int32)), .val (.int v0), .val (.int v1), .val (.int v2), .val (.ref la), .val (.ref a), .val (.ref r), .unset, .unset, .unset, .unset, .unset] [(.ref la)])) (fun t k => XS.aload X72.here hx rfl (hb hby at_118) rfl rfl k) ?_
        refine Goes.pre (U' := T72.setTop (mkF m 121 #[.val (.int p1), .val (.int p2), .val (.int p3), .val (.int p4), .val (.int p5), .val (.int (3 : Int32)), .val (.int v0), .val (.int v1), .val (.int v2), .val (.ref la), .val (.ref a), .val (.ref r), .unset, .unset, .unset, .unset, .unset] [(.int (0 : Int32)), (.ref la)])) (fun t k => XS.iconst X72.here hx rfl (hb hby at_120) k) ?_
        obtain ⟨cl74, Ar74, q74, Sz74, Ng74, Hs74, Ft74⟩ := id V_la
        have hin74 := inb_of (j := (0 : Int32)) Sz74 ⟨by decide, by decide⟩
        refine Goes.pre (U' := T72.setTop (mkF m 122 #[.val (.int p1), .val (.int p2), .val (.int p3), .val (.int p4), .val (.int p5), .val (.int (3 : Int32)), .val (.int v0), .val (.int v1), .val (.int v2), .val (.ref la), .val (.ref a), .val (.ref r), .unset, .unset, .unset, .unset, .unset] [(.int v0)])) (fun t k => X72.baloadBytes hx (j := (0 : Int32)) (v := (.int v0)) Ar74.1 (State.isArrayOf_alike hZ.alike Ar74.2.1) Ar74.2.2 hin74 (Has.at Hs74 hin74 rfl) (g := (mkF m 121 #[.val (.int p1), .val (.int p2), .val (.int p3), .val (.int p4), .val (.int p5), .val (.int (3 : Int32)), .val (.int v0), .val (.int v1), .val (.int v2), .val (.ref la), .val (.ref a), .val (.ref r), .unset, .unset, .unset, .unset, .unset] [(.int (0 : Int32)), (.ref la)])) rfl rfl (hb hby at_121) _ k) ?_
        refine Goes.pre (U' := T72.setTop (mkF m 124 #[.val (.int p1), .val (.int p2), .val (.int p3), .val (.int p4), .val (.int p5), .val (.int (3 : Int32)), .val (.int v0), .val (.int v1), .val (.int v2), .val (.ref la), .val (.ref a), .val (.ref r), .unset, .unset, .unset, .unset, .unset] [(.int v0), (.int v0)])) (fun t k => XS.iload X72.here hx rfl (hb hby at_122) rfl k) ?_
        have hc124 : v0 = v0 := rfl
        refine Goes.pre (U' := T72.setTop (mkF m 127 #[.val (.int p1), .val (.int p2), .val (.int p3), .val (.int p4), .val (.int p5), .val (.int (3 : Int32)), .val (.int v0), .val (.int v1), .val (.int v2), .val (.ref la), .val (.ref a), .val (.ref r), .unset, .unset, .unset, .unset, .unset] [])) (fun t k => XS.icmpNo X72.here hx rfl (hb hby at_124) rfl (teq hc124).2 k) ?_
        refine Goes.pre (U' := T72.setTop (mkF m 129 #[.val (.int p1), .val (.int p2), .val (.int p3), .val (.int p4), .val (.int p5), .val (.int (3 : Int32)), .val (.int v0), .val (.int v1), .val (.int v2), .val (.ref la), .val (.ref a), .val (.ref r), .unset, .unset, .unset, .unset, .unset] [(.int (3 : Int32))])) (fun t k => XS.iload X72.here hx rfl (hb hby at_127) rfl k) ?_
        refine Goes.pre (U' := T72.setTop (mkF m 130 #[.val (.int p1), .val (.int p2), .val (.int p3), .val (.int p4), .val (.int p5), .val (.int (3 : Int32)), .val (.int v0), .val (.int v1), .val (.int v2), .val (.ref la), .val (.ref a), .val (.ref r), .unset, .unset, .unset, .unset, .unset] [(.int (2 : Int32)), (.int (3 : Int32))])) (fun t k => XS.iconst X72.here hx rfl (hb hby at_129) k) ?_
        have hc130 : ¬ ((3 : Int32) < (2 : Int32)) := by decide
        refine Goes.pre (U' := T72.setTop (mkF m 133 #[.val (.int p1), .val (.int p2), .val (.int p3), .val (.int p4), .val (.int p5), .val (.int (3 : Int32)), .val (.int v0), .val (.int v1), .val (.int v2), .val (.ref la), .val (.ref a), .val (.ref r), .unset, .unset, .unset, .unset, .unset] [])) (fun t k => XS.icmpNo X72.here hx rfl (hb hby at_130) rfl (flt hc130).1 k) ?_
        refine Goes.pre (U' := T72.setTop (mkF m 135 #[.val (.int p1), .val (.int p2), .val (.int p3), .val (.int p4), .val (.int p5), .val (.int (3 : Int32)), .val (.int v0), .val (.int v1), .val (.int v2), .val (.ref la), .val (.ref a), .val (.ref r), .unset, .unset, .unset, .unset, .unset] [(.ref la)])) (fun t k => XS.aload X72.here hx rfl (hb hby at_133) rfl rfl k) ?_
        refine Goes.pre (U' := T72.setTop (mkF m 136 #[.val (.int p1), .val (.int p2), .val (.int p3), .val (.int p4), .val (.int p5), .val (.int (3 : Int32)), .val (.int v0), .val (.int v1), .val (.int v2), .val (.ref la), .val (.ref a), .val (.ref r), .unset, .unset, .unset, .unset, .unset] [(.int (1 : Int32)), (.ref la)])) (fun t k => XS.iconst X72.here hx rfl (hb hby at_135) k) ?_
        obtain ⟨cl75, Ar75, q75, Sz75, Ng75, Hs75, Ft75⟩ := id V_la
        have hin75 := inb_of (j := (1 : Int32)) Sz75 ⟨by decide, by decide⟩
        refine Goes.pre (U' := T72.setTop (mkF m 137 #[.val (.int p1), .val (.int p2), .val (.int p3), .val (.int p4), .val (.int p5), .val (.int (3 : Int32)), .val (.int v0), .val (.int v1), .val (.int v2), .val (.ref la), .val (.ref a), .val (.ref r), .unset, .unset, .unset, .unset, .unset] [(.int v1)])) (fun t k => X72.baloadBytes hx (j := (1 : Int32)) (v := (.int v1)) Ar75.1 (State.isArrayOf_alike hZ.alike Ar75.2.1) Ar75.2.2 hin75 (Has.at Hs75 hin75 rfl) (g := (mkF m 136 #[.val (.int p1), .val (.int p2), .val (.int p3), .val (.int p4), .val (.int p5), .val (.int (3 : Int32)), .val (.int v0), .val (.int v1), .val (.int v2), .val (.ref la), .val (.ref a), .val (.ref r), .unset, .unset, .unset, .unset, .unset] [(.int (1 : Int32)), (.ref la)])) rfl rfl (hb hby at_136) _ k) ?_
        refine Goes.pre (U' := T72.setTop (mkF m 139 #[.val (.int p1), .val (.int p2), .val (.int p3), .val (.int p4), .val (.int p5), .val (.int (3 : Int32)), .val (.int v0), .val (.int v1), .val (.int v2), .val (.ref la), .val (.ref a), .val (.ref r), .unset, .unset, .unset, .unset, .unset] [(.int v1), (.int v1)])) (fun t k => XS.iload X72.here hx rfl (hb hby at_137) rfl k) ?_
        have hc139 : v1 = v1 := rfl
        refine Goes.pre (U' := T72.setTop (mkF m 142 #[.val (.int p1), .val (.int p2), .val (.int p3), .val (.int p4), .val (.int p5), .val (.int (3 : Int32)), .val (.int v0), .val (.int v1), .val (.int v2), .val (.ref la), .val (.ref a), .val (.ref r), .unset, .unset, .unset, .unset, .unset] [])) (fun t k => XS.icmpNo X72.here hx rfl (hb hby at_139) rfl (teq hc139).2 k) ?_
        refine Goes.pre (U' := T72.setTop (mkF m 144 #[.val (.int p1), .val (.int p2), .val (.int p3), .val (.int p4), .val (.int p5), .val (.int (3 : Int32)), .val (.int v0), .val (.int v1), .val (.int v2), .val (.ref la), .val (.ref a), .val (.ref r), .unset, .unset, .unset, .unset, .unset] [(.int (3 : Int32))])) (fun t k => XS.iload X72.here hx rfl (hb hby at_142) rfl k) ?_
        refine Goes.pre (U' := T72.setTop (mkF m 145 #[.val (.int p1), .val (.int p2), .val (.int p3), .val (.int p4), .val (.int p5), .val (.int (3 : Int32)), .val (.int v0), .val (.int v1), .val (.int v2), .val (.ref la), .val (.ref a), .val (.ref r), .unset, .unset, .unset, .unset, .unset] [(.int (3 : Int32)), (.int (3 : Int32))])) (fun t k => XS.iconst X72.here hx rfl (hb hby at_144) k) ?_
        have hc145 : ¬ ((3 : Int32) < (3 : Int32)) := by decide
        refine Goes.pre (U' := T72.setTop (mkF m 148 #[.val (.int p1), .val (.int p2), .val (.int p3), .val (.int p4), .val (.int p5), .val (.int (3 : Int32)), .val (.int v0), .val (.int v1), .val (.int v2), .val (.ref la), .val (.ref a), .val (.ref r), .unset, .unset, .unset, .unset, .unset] [])) (fun t k => XS.icmpNo X72.here hx rfl (hb hby at_145) rfl (flt hc145).1 k) ?_
        refine Goes.pre (U' := T72.setTop (mkF m 150 #[.val (.int p1), .val (.int p2), .val (.int p3), .val (.int p4), .val (.int p5), .val (.int (3 : Int32)), .val (.int v0), .val (.int v1), .val (.int v2), .val (.ref la), .val (.ref a), .val (.ref r), .unset, .unset, .unset, .unset, .unset] [(.ref la)])) (fun t k => XS.aload X72.here hx rfl (hb hby at_148) rfl rfl k) ?_
        refine Goes.pre (U' := T72.setTop (mkF m 151 #[.val (.int p1), .val (.int p2), .val (.int p3), .val (.int p4), .val (.int p5), .val (.int (3 : Int32)), .val (.int v0), .val (.int v1), .val (.int v2), .val (.ref la), .val (.ref a), .val (.ref r), .unset, .unset, .unset, .unset, .unset] [(.int (2 : Int32)), (.ref la)])) (fun t k => XS.iconst X72.here hx rfl (hb hby at_150) k) ?_
        obtain ⟨cl76, Ar76, q76, Sz76, Ng76, Hs76, Ft76⟩ := id V_la
        have hin76 := inb_of (j := (2 : Int32)) Sz76 ⟨by decide, by decide⟩
        refine Goes.pre (U' := T72.setTop (mkF m 152 #[.val (.int p1), .val (.int p2), .val (.int p3), .val (.int p4), .val (.int p5), .val (.int (3 : Int32)), .val (.int v0), .val (.int v1), .val (.int v2), .val (.ref la), .val (.ref a), .val (.ref r), .unset, .unset, .unset, .unset, .unset] [(.int v2)])) (fun t k => X72.baloadBytes hx (j := (2 : Int32)) (v := (.int v2)) Ar76.1 (State.isArrayOf_alike hZ.alike Ar76.2.1) Ar76.2.2 hin76 (Has.at Hs76 hin76 rfl) (g := (mkF m 151 #[.val (.int p1), .val (.int p2), .val (.int p3), .val (.int p4), .val (.int p5), .val (.int (3 : Int32)), .val (.int v0), .val (.int v1), .val (.int v2), .val (.ref la), .val (.ref a), .val (.ref r), .unset, .unset, .unset, .unset, .unset] [(.int (2 : Int32)), (.ref la)])) rfl rfl (hb hby at_151) _ k) ?_
        refine Goes.pre (U' := T72.setTop (mkF m 154 #[.val (.int p1), .val (.int p2), .val (.int p3), .val (.int p4), .val (.int p5), .val (.int (3 : Int32)), .val (.int v0), .val (.int v1), .val (.int v2), .val (.ref la), .val (.ref a), .val (.ref r), .unset, .unset, .unset, .unset, .unset] [(.int v2), (.int v2)])) (fun t k => XS.iload X72.here hx rfl (hb hby at_152) rfl k) ?_
        have hc154 : v2 = v2 := rfl
        refine Goes.pre (U' := T72.setTop (mkF m 157 #[.val (.int p1), .val (.int p2), .val (.int p3), .val (.int p4), .val (.int p5), .val (.int (3 : Int32)), .val (.int v0), .val (.int v1), .val (.int v2), .val (.ref la), .val (.ref a), .val (.ref r), .unset, .unset, .unset, .unset, .unset] [])) (fun t k => XS.icmpNo X72.here hx rfl (hb hby at_154) rfl (teq hc154).2 k) ?_
        refine Goes.pre (U' := T72.setTop (mkF m 158 #[.val (.int p1), .val (.int p2), .val (.int p3), .val (.int p4), .val (.int p5), .val (.int (3 : Int32)), .val (.int v0), .val (.int v1), .val (.int v2), .val (.ref la), .val (.ref a), .val (.ref r), .unset, .unset, .unset, .unset, .unset] [(.int (1 : Int32))])) (fun t k => XS.iconst X72.here hx rfl (hb hby at_157) k) ?_
        refine Goes.pre (U' := T72.setTop (mkF m 162 #[.val (.int p1), .val (.int p2), .val (.int p3), .val (.int p4), .val (.int p5), .val (.int (3 : Int32)), .val (.int v0), .val (.int v1), .val (.int v2), .val (.ref la), .val (.ref a), .val (.ref r), .unset, .unset, .unset, .unset, .unset] [(.int (1 : Int32))])) (fun t k => XS.goto X72.here hx rfl (pc0 := 158) (pc' := 162) rfl (hb hby at_158) (by decide) (by decide) k) ?_
        refine Goes.pre (U' := T72.setTop (mkF m 164 #[.val (.int p1), .val (.int p2), .val (.int p3), .val (.int p4), .val (.int p5), .val (.int (3 : Int32)), .val (.int v0), .val (.int v1), .val (.int v2), .val (.ref la), .val (.ref a), .val (.ref r), .val (.int (1 : Int32)), .unset, .unset, .unset, .unset] [])) (fun t k => XS.istore X72.here hx rfl (hb hby at_162) rfl (l' := #[.val (.int p1), .val (.int p2), .val (.int p3), .val (.int p4), .val (.int p5), .val (.int (3 : Int32)), .val (.int v0), .val (.int v1), .val (.int v2), .val (.ref la), .val (.ref a), .val (.ref r), .val (.int (1 : Int32)), .unset, .unset, .unset, .unset]) rfl k) ?_
        refine Goes.pre (U' := T72.setTop (mkF m 166 #[.val (.int p1), .val (.int p2), .val (.int p3), .val (.int p4), .val (.int p5), .val (.int (3 : Int32)), .val (.int v0), .val (.int v1), .val (.int v2), .val (.ref la), .val (.ref a), .val (.ref r), .val (.int (1 : Int32)), .unset, .unset, .unset, .unset] [(.int (3 : Int32))])) (fun t k => XS.iload X72.here hx rfl (hb hby at_164) rfl k) ?_
        refine Goes.pre (U' := T72.setTop (mkF m 167 #[.val (.int p1), .val (.int p2), .val (.int p3), .val (.int p4), .val (.int p5), .val (.int (3 : Int32)), .val (.int v0), .val (.int v1), .val (.int v2), .val (.ref la), .val (.ref a), .val (.ref r), .val (.int (1 : Int32)), .unset, .unset, .unset, .unset] [(.int (3 : Int32)), (.int (3 : Int32))])) (fun t k => XS.iconst X72.here hx rfl (hb hby at_166) k) ?_
        have hc167 : ¬ ((3 : Int32) < (3 : Int32)) := by decide
        refine Goes.pre (U' := T72.setTop (mkF m 170 #[.val (.int p1), .val (.int p2), .val (.int p3), .val (.int p4), .val (.int p5), .val (.int (3 : Int32)), .val (.int v0), .val (.int v1), .val (.int v2), .val (.ref la), .val (.ref a), .val (.ref r), .val (.int (1 : Int32)), .unset, .unset, .unset, .unset] [])) (fun t k => XS.icmpNo X72.here hx rfl (hb hby at_167) rfl (flt hc167).1 k) ?_
        refine Goes.pre (U' := T72.setTop (mkF m 172 #[.val (.int p1), .val (.int p2), .val (.int p3), .val (.int p4), .val (.int p5), .val (.int (3 : Int32)), .val (.int v0), .val (.int v1), .val (.int v2), .val (.ref la), .val (.ref a), .val (.ref r), .val (.int (1 : Int32)), .unset, .unset, .unset, .unset] [(.int v2)])) (fun t k => XS.iload X72.here hx rfl (hb hby at_170) rfl k) ?_
        refine Goes.pre (U' := T72.setTop (mkF m 173 #[.val (.int p1), .val (.int p2), .val (.int p3), .val (.int p4), .val (.int p5), .val (.int (3 : Int32)), .val (.int v0), .val (.int v1), .val (.int v2), .val (.ref la), .val (.ref a), .val (.ref r), .val (.int (1 : Int32)), .unset, .unset, .unset, .unset] [(.int (-1 : Int32)), (.int v2)])) (fun t k => XS.iconst X72.here hx rfl (hb hby at_172) k) ?_
        have hc173 : v2 = (-1 : Int32) := hq2
        refine Goes.pre (U' := T72.setTop (mkF m 182 #[.val (.int p1), .val (.int p2), .val (.int p3), .val (.int p4), .val (.int p5), .val (.int (3 : Int32)), .val (.int v0), .val (.int v1), .val (.int v2), .val (.ref la), .val (.ref a), .val (.ref r), .val (.int (1 : Int32)), .unset, .unset, .unset, .unset] [])) (fun t k => XS.icmpYes X72.here hx rfl (pc0 := 173) (pc' := 182) rfl (hb hby at_173) rfl (teq hc173).1 (by decide) (by decide) k) ?_
        refine Goes.pre (U' := T72.setTop (mkF m 184 #[.val (.int p1), .val (.int p2), .val (.int p3), .val (.int p4), .val (.int p5), .val (.int (3 : Int32)), .val (.int v0), .val (.int v1), .val (.int v2), .val (.ref la), .val (.ref a), .val (.ref r), .val (.int (1 : Int32)), .unset, .unset, .unset, .unset] [(.int (3 : Int32))])) (fun t k => XS.iload X72.here hx rfl (hb hby at_182) rfl k) ?_
        refine Goes.pre (U' := T72.setTop (mkF m 185 #[.val (.int p1), .val (.int p2), .val (.int p3), .val (.int p4), .val (.int p5), .val (.int (3 : Int32)), .val (.int v0), .val (.int v1), .val (.int v2), .val (.ref la), .val (.ref a), .val (.ref r), .val (.int (1 : Int32)), .unset, .unset, .unset, .unset] [(.int (2 : Int32)), (.int (3 : Int32))])) (fun t k => XS.iconst X72.here hx rfl (hb hby at_184) k) ?_
        have hc185 : ¬ ((3 : Int32) < (2 : Int32)) := by decide
        refine Goes.pre (U' := T72.setTop (mkF m 188 #[.val (.int p1), .val (.int p2), .val (.int p3), .val (.int p4), .val (.int p5), .val (.int (3 : Int32)), .val (.int v0), .val (.int v1), .val (.int v2), .val (.ref la), .val (.ref a), .val (.ref r), .val (.int (1 : Int32)), .unset, .unset, .unset, .unset] [])) (fun t k => XS.icmpNo X72.here hx rfl (hb hby at_185) rfl (flt hc185).1 k) ?_
        refine Goes.pre (U' := T72.setTop (mkF m 190 #[.val (.int p1), .val (.int p2), .val (.int p3), .val (.int p4), .val (.int p5), .val (.int (3 : Int32)), .val (.int v0), .val (.int v1), .val (.int v2), .val (.ref la), .val (.ref a), .val (.ref r), .val (.int (1 : Int32)), .unset, .unset, .unset, .unset] [(.int v1)])) (fun t k => XS.iload X72.here hx rfl (hb hby at_188) rfl k) ?_
        refine Goes.pre (U' := T72.setTop (mkF m 191 #[.val (.int p1), .val (.int p2), .val (.int p3), .val (.int p4), .val (.int p5), .val (.int (3 : Int32)), .val (.int v0), .val (.int v1), .val (.int v2), .val (.ref la), .val (.ref a), .val (.ref r), .val (.int (1 : Int32)), .unset, .unset, .unset, .unset] [(.int (-1 : Int32)), (.int v1)])) (fun t k => XS.iconst X72.here hx rfl (hb hby at_190) k) ?_
        have hc191 : ¬ (v1 = (-1 : Int32)) := hq1
        refine Goes.pre (U' := T72.setTop (mkF m 194 #[.val (.int p1), .val (.int p2), .val (.int p3), .val (.int p4), .val (.int p5), .val (.int (3 : Int32)), .val (.int v0), .val (.int v1), .val (.int v2), .val (.ref la), .val (.ref a), .val (.ref r), .val (.int (1 : Int32)), .unset, .unset, .unset, .unset] [])) (fun t k => XS.icmpNo X72.here hx rfl (hb hby at_191) rfl (feq hc191).1 k) ?_
        refine Goes.pre (U' := T72.setTop (mkF m 195 #[.val (.int p1), .val (.int p2), .val (.int p3), .val (.int p4), .val (.int p5), .val (.int (3 : Int32)), .val (.int v0), .val (.int v1), .val (.int v2), .val (.ref la), .val (.ref a), .val (.ref r), .val (.int (1 : Int32)), .unset, .unset, .unset, .unset] [(.int (2 : Int32))])) (fun t k => XS.iconst X72.here hx rfl (hb hby at_194) k) ?_
        refine Goes.pre (U' := T72.setTop (mkF m 197 #[.val (.int p1), .val (.int p2), .val (.int p3), .val (.int p4), .val (.int p5), .val (.int (3 : Int32)), .val (.int v0), .val (.int v1), .val (.int v2), .val (.ref la), .val (.ref a), .val (.ref r), .val (.int (1 : Int32)), .val (.int (2 : Int32)), .unset, .unset, .unset] [])) (fun t k => XS.istore X72.here hx rfl (hb hby at_195) rfl (l' := #[.val (.int p1), .val (.int p2), .val (.int p3), .val (.int p4), .val (.int p5), .val (.int (3 : Int32)), .val (.int v0), .val (.int v1), .val (.int v2), .val (.ref la), .val (.ref a), .val (.ref r), .val (.int (1 : Int32)), .val (.int (2 : Int32)), .unset, .unset, .unset]) rfl k) ?_
        refine Goes.pre (U' := T72.setTop (mkF m 221 #[.val (.int p1), .val (.int p2), .val (.int p3), .val (.int p4), .val (.int p5), .val (.int (3 : Int32)), .val (.int v0), .val (.int v1), .val (.int v2), .val (.ref la), .val (.ref a), .val (.ref r), .val (.int (1 : Int32)), .val (.int (2 : Int32)), .unset, .unset, .unset] [])) (fun t k => XS.goto X72.here hx rfl (pc0 := 197) (pc' := 221) rfl (hb hby at_197) (by decide) (by decide) k) ?_
        refine Goes.pre (U' := T72.setTop (mkF m 223 #[.val (.int p1), .val (.int p2), .val (.int p3), .val (.int p4), .val (.int p5), .val (.int (3 : Int32)), .val (.int v0), .val (.int v1), .val (.int v2), .val (.ref la), .val (.ref a), .val (.ref r), .val (.int (1 : Int32)), .val (.int (2 : Int32)), .unset, .unset, .unset] [(.int (2 : Int32))])) (fun t k => XS.iload X72.here hx rfl (hb hby at_221) rfl k) ?_
        have hc223 : ¬ ((2 : Int32) = (0 : Int32)) := by decide
        refine Goes.pre (U' := T72.setTop (mkF m 242 #[.val (.int p1), .val (.int p2), .val (.int p3), .val (.int p4), .val (.int p5), .val (.int (3 : Int32)), .val (.int v0), .val (.int v1), .val (.int v2), .val (.ref la), .val (.ref a), .val (.ref r), .val (.int (1 : Int32)), .val (.int (2 : Int32)), .unset, .unset, .unset] [])) (fun t k => XS.ifYes X72.here hx rfl (pc0 := 223) (pc' := 242) rfl (hb hby at_223) rfl ((if0 _ _).trans (feq hc223).2) (by decide) (by decide) k) ?_
        refine Goes.pre (U' := T72.setTop (mkF m 244 #[.val (.int p1), .val (.int p2), .val (.int p3), .val (.int p4), .val (.int p5), .val (.int (3 : Int32)), .val (.int v0), .val (.int v1), .val (.int v2), .val (.ref la), .val (.ref a), .val (.ref r), .val (.int (1 : Int32)), .val (.int (2 : Int32)), .unset, .unset, .unset] [(.ref r)])) (fun t k => XS.aload X72.here hx rfl (hb hby at_242) rfl rfl k) ?_
        refine Goes.pre (U' := T72.setTop (mkF m 247 #[.val (.int p1), .val (.int p2), .val (.int p3), .val (.int p4), .val (.int p5), .val (.int (3 : Int32)), .val (.int v0), .val (.int v1), .val (.int v2), .val (.ref la), .val (.ref a), .val (.ref r), .val (.int (1 : Int32)), .val (.int (2 : Int32)), .unset, .unset, .unset] [])) (fun t k => XS.ifnullNo X72.here hx rfl (hb hby at_244) rfl k) ?_
        refine Goes.pre (U' := T72.setTop (mkF m 249 #[.val (.int p1), .val (.int p2), .val (.int p3), .val (.int p4), .val (.int p5), .val (.int (3 : Int32)), .val (.int v0), .val (.int v1), .val (.int v2), .val (.ref la), .val (.ref a), .val (.ref r), .val (.int (1 : Int32)), .val (.int (2 : Int32)), .unset, .unset, .unset] [(.ref r)])) (fun t k => XS.aload X72.here hx rfl (hb hby at_247) rfl rfl k) ?_
        obtain ⟨cl77, Ar77, q77, Sz77, Ng77, -, -⟩ := id V_r
        have ln77 := len_of Sz77 Ng77
        refine Goes.pre (U' := T72.setTop (mkF m 250 #[.val (.int p1), .val (.int p2), .val (.int p3), .val (.int p4), .val (.int p5), .val (.int (3 : Int32)), .val (.int v0), .val (.int v1), .val (.int v2), .val (.ref la), .val (.ref a), .val (.ref r), .val (.int (1 : Int32)), .val (.int (2 : Int32)), .unset, .unset, .unset] [(.int (2 : Int32))])) (fun t k => X72.arraylength hx Ar77.1 (State.isArrayOf_alike hZ.alike Ar77.2.1) (g := (mkF m 249 #[.val (.int p1), .val (.int p2), .val (.int p3), .val (.int p4), .val (.int p5), .val (.int (3 : Int32)), .val (.int v0), .val (.int v1), .val (.int v2), .val (.ref la), .val (.ref a), .val (.ref r), .val (.int (1 : Int32)), .val (.int (2 : Int32)), .unset, .unset, .unset] [(.ref r)])) rfl rfl (hb hby at_249) _ (by rw [ln77]; exact k)) ?_
        refine Goes.pre (U' := T72.setTop (mkF m 252 #[.val (.int p1), .val (.int p2), .val (.int p3), .val (.int p4), .val (.int p5), .val (.int (3 : Int32)), .val (.int v0), .val (.int v1), .val (.int v2), .val (.ref la), .val (.ref a), .val (.ref r), .val (.int (1 : Int32)), .val (.int (2 : Int32)), .unset, .unset, .unset] [(.int (2 : Int32)), (.int (2 : Int32))])) (fun t k => XS.iload X72.here hx rfl (hb hby at_250) rfl k) ?_
        have hc252 : (2 : Int32) = (2 : Int32) := rfl
        refine Goes.pre (U' := T72.setTop (mkF m 257 #[.val (.int p1), .val (.int p2), .val (.int p3), .val (.int p4), .val (.int p5), .val (.int (3 : Int32)), .val (.int v0), .val (.int v1), .val (.int v2), .val (.ref la), .val (.ref a), .val (.ref r), .val (.int (1 : Int32)), .val (.int (2 : Int32)), .unset, .unset, .unset] [])) (fun t k => XS.icmpYes X72.here hx rfl (pc0 := 252) (pc' := 257) rfl (hb hby at_252) rfl (teq hc252).1 (by decide) (by decide) k) ?_
        refine Goes.pre (U' := T72.setTop (mkF m 259 #[.val (.int p1), .val (.int p2), .val (.int p3), .val (.int p4), .val (.int p5), .val (.int (3 : Int32)), .val (.int v0), .val (.int v1), .val (.int v2), .val (.ref la), .val (.ref a), .val (.ref r), .val (.int (1 : Int32)), .val (.int (2 : Int32)), .unset, .unset, .unset] [(.int (2 : Int32))])) (fun t k => XS.iload X72.here hx rfl (hb hby at_257) rfl k) ?_
        refine Goes.pre (U' := T72.setTop (mkF m 260 #[.val (.int p1), .val (.int p2), .val (.int p3), .val (.int p4), .val (.int p5), .val (.int (3 : Int32)), .val (.int v0), .val (.int v1), .val (.int v2), .val (.ref la), .val (.ref a), .val (.ref r), .val (.int (1 : Int32)), .val (.int (2 : Int32)), .unset, .unset, .unset] [(.int (1 : Int32)), (.int (2 : Int32))])) (fun t k => XS.iconst X72.here hx rfl (hb hby at_259) k) ?_
        have hc260 : ¬ ((2 : Int32) = (1 : Int32)) := by decide
        refine Goes.pre (U' := T72.setTop (mkF m 271 #[.val (.int p1), .val (.int p2), .val (.int p3), .val (.int p4), .val (.int p5), .val (.int (3 : Int32)), .val (.int v0), .val (.int v1), .val (.int v2), .val (.ref la), .val (.ref a), .val (.ref r), .val (.int (1 : Int32)), .val (.int (2 : Int32)), .unset, .unset, .unset] [])) (fun t k => XS.icmpYes X72.here hx rfl (pc0 := 260) (pc' := 271) rfl (hb hby at_260) rfl (feq hc260).2 (by decide) (by decide) k) ?_
        refine Goes.pre (U' := T72.setTop (mkF m 273 #[.val (.int p1), .val (.int p2), .val (.int p3), .val (.int p4), .val (.int p5), .val (.int (3 : Int32)), .val (.int v0), .val (.int v1), .val (.int v2), .val (.ref la), .val (.ref a), .val (.ref r), .val (.int (1 : Int32)), .val (.int (2 : Int32)), .unset, .unset, .unset] [(.int v0)])) (fun t k => XS.iload X72.here hx rfl (hb hby at_271) rfl k) ?_
        refine Goes.pre (U' := T72.setTop (mkF m 275 #[.val (.int p1), .val (.int p2), .val (.int p3), .val (.int p4), .val (.int p5), .val (.int (3 : Int32)), .val (.int v0), .val (.int v1), .val (.int v2), .val (.ref la), .val (.ref a), .val (.ref r), .val (.int (1 : Int32)), .val (.int (2 : Int32)), .val (.int v0), .unset, .unset] [])) (fun t k => XS.istore X72.here hx rfl (hb hby at_273) rfl (l' := #[.val (.int p1), .val (.int p2), .val (.int p3), .val (.int p4), .val (.int p5), .val (.int (3 : Int32)), .val (.int v0), .val (.int v1), .val (.int v2), .val (.ref la), .val (.ref a), .val (.ref r), .val (.int (1 : Int32)), .val (.int (2 : Int32)), .val (.int v0), .unset, .unset]) rfl k) ?_
        refine Goes.pre (U' := T72.setTop (mkF m 277 #[.val (.int p1), .val (.int p2), .val (.int p3), .val (.int p4), .val (.int p5), .val (.int (3 : Int32)), .val (.int v0), .val (.int v1), .val (.int v2), .val (.ref la), .val (.ref a), .val (.ref r), .val (.int (1 : Int32)), .val (.int (2 : Int32)), .val (.int v0), .unset, .unset] [(.int (2 : Int32))])) (fun t k => XS.iload X72.here hx rfl (hb hby at_275) rfl k) ?_
        refine Goes.pre (U' := T72.setTop (mkF m 278 #[.val (.int p1), .val (.int p2), .val (.int p3), .val (.int p4), .val (.int p5), .val (.int (3 : Int32)), .val (.int v0), .val (.int v1), .val (.int v2), .val (.ref la), .val (.ref a), .val (.ref r), .val (.int (1 : Int32)), .val (.int (2 : Int32)), .val (.int v0), .unset, .unset] [(.int (2 : Int32)), (.int (2 : Int32))])) (fun t k => XS.iconst X72.here hx rfl (hb hby at_277) k) ?_
        have hc278 : (2 : Int32) = (2 : Int32) := rfl
        refine Goes.pre (U' := T72.setTop (mkF m 281 #[.val (.int p1), .val (.int p2), .val (.int p3), .val (.int p4), .val (.int p5), .val (.int (3 : Int32)), .val (.int v0), .val (.int v1), .val (.int v2), .val (.ref la), .val (.ref a), .val (.ref r), .val (.int (1 : Int32)), .val (.int (2 : Int32)), .val (.int v0), .unset, .unset] [])) (fun t k => XS.icmpNo X72.here hx rfl (hb hby at_278) rfl (teq hc278).2 k) ?_
        refine Goes.pre (U' := T72.setTop (mkF m 283 #[.val (.int p1), .val (.int p2), .val (.int p3), .val (.int p4), .val (.int p5), .val (.int (3 : Int32)), .val (.int v0), .val (.int v1), .val (.int v2), .val (.ref la), .val (.ref a), .val (.ref r), .val (.int (1 : Int32)), .val (.int (2 : Int32)), .val (.int v0), .unset, .unset] [(.int v1)])) (fun t k => XS.iload X72.here hx rfl (hb hby at_281) rfl k) ?_
        refine Goes.pre (U' := T72.setTop (mkF m 284 #[.val (.int p1), .val (.int p2), .val (.int p3), .val (.int p4), .val (.int p5), .val (.int (3 : Int32)), .val (.int v0), .val (.int v1), .val (.int v2), .val (.ref la), .val (.ref a), .val (.ref r), .val (.int (1 : Int32)), .val (.int (2 : Int32)), .val (.int v0), .unset, .unset] [(.int (1 : Int32)), (.int v1)])) (fun t k => XS.iconst X72.here hx rfl (hb hby at_283) k) ?_
        refine Goes.pre (U' := T72.setTop (mkF m 285 #[.val (.int p1), .val (.int p2), .val (.int p3), .val (.int p4), .val (.int p5), .val (.int (3 : Int32)), .val (.int v0), .val (.int v1), .val (.int v2), .val (.ref la), .val (.ref a), .val (.ref r), .val (.int (1 : Int32)), .val (.int (2 : Int32)), .val (.int v0), .unset, .unset] [(.int (v1 + (1 : Int32)))])) (fun t k => XS.iadd X72.here hx rfl (hb hby at_284) rfl k) ?_
        refine Goes.pre (U' := T72.setTop (mkF m 286 #[.val (.int p1), .val (.int p2), .val (.int p3), .val (.int p4), .val (.int p5), .val (.int (3 : Int32)), .val (.int v0), .val (.int v1), .val (.int v2), .val (.ref la), .val (.ref a), .val (.ref r), .val (.int (1 : Int32)), .val (.int (2 : Int32)), .val (.int v0), .unset, .unset] [(.int ((v1 + (1 : Int32)).toInt8.toInt32))])) (fun t k => XS.i2b X72.here hx rfl (hb hby at_285) rfl k) ?_
        refine Goes.pre (U' := T72.setTop (mkF m 291 #[.val (.int p1), .val (.int p2), .val (.int p3), .val (.int p4), .val (.int p5), .val (.int (3 : Int32)), .val (.int v0), .val (.int v1), .val (.int v2), .val (.ref la), .val (.ref a), .val (.ref r), .val (.int (1 : Int32)), .val (.int (2 : Int32)), .val (.int v0), .unset, .unset] [(.int ((v1 + (1 : Int32)).toInt8.toInt32))])) (fun t k => XS.goto X72.here hx rfl (pc0 := 286) (pc' := 291) rfl (hb hby at_286) (by decide) (by decide) k) ?_
        refine Goes.pre (U' := T72.setTop (mkF m 293 #[.val (.int p1), .val (.int p2), .val (.int p3), .val (.int p4), .val (.int p5), .val (.int (3 : Int32)), .val (.int v0), .val (.int v1), .val (.int v2), .val (.ref la), .val (.ref a), .val (.ref r), .val (.int (1 : Int32)), .val (.int (2 : Int32)), .val (.int v0), .val (.int ((v1 + (1 : Int32)).toInt8.toInt32)), .unset] [])) (fun t k => XS.istore X72.here hx rfl (hb hby at_291) rfl (l' := #[.val (.int p1), .val (.int p2), .val (.int p3), .val (.int p4), .val (.int p5), .val (.int (3 : Int32)), .val (.int v0), .val (.int v1), .val (.int v2), .val (.ref la), .val (.ref a), .val (.ref r), .val (.int (1 : Int32)), .val (.int (2 : Int32)), .val (.int v0), .val (.int ((v1 + (1 : Int32)).toInt8.toInt32)), .unset]) rfl k) ?_
        refine Goes.pre (U' := T72.setTop (mkF m 295 #[.val (.int p1), .val (.int p2), .val (.int p3), .val (.int p4), .val (.int p5), .val (.int (3 : Int32)), .val (.int v0), .val (.int v1), .val (.int v2), .val (.ref la), .val (.ref a), .val (.ref r), .val (.int (1 : Int32)), .val (.int (2 : Int32)), .val (.int v0), .val (.int ((v1 + (1 : Int32)).toInt8.toInt32)), .unset] [(.int v2)])) (fun t k => XS.iload X72.here hx rfl (hb hby at_293) rfl k) ?_
        refine Goes.pre (U' := T72.setTop (mkF m 296 #[.val (.int p1), .val (.int p2), .val (.int p3), .val (.int p4), .val (.int p5), .val (.int (3 : Int32)), .val (.int v0), .val (.int v1), .val (.int v2), .val (.ref la), .val (.ref a), .val (.ref r), .val (.int (1 : Int32)), .val (.int (2 : Int32)), .val (.int v0), .val (.int ((v1 + (1 : Int32)).toInt8.toInt32)), .unset] [(.int (1 : Int32)), (.int v2)])) (fun t k => XS.iconst X72.here hx rfl (hb hby at_295) k) ?_
        refine Goes.pre (U' := T72.setTop (mkF m 297 #[.val (.int p1), .val (.int p2), .val (.int p3), .val (.int p4), .val (.int p5), .val (.int (3 : Int32)), .val (.int v0), .val (.int v1), .val (.int v2), .val (.ref la), .val (.ref a), .val (.ref r), .val (.int (1 : Int32)), .val (.int (2 : Int32)), .val (.int v0), .val (.int ((v1 + (1 : Int32)).toInt8.toInt32)), .unset] [(.int (v2 + (1 : Int32)))])) (fun t k => XS.iadd X72.here hx rfl (hb hby at_296) rfl k) ?_
        refine Goes.pre (U' := T72.setTop (mkF m 298 #[.val (.int p1), .val (.int p2), .val (.int p3), .val (.int p4), .val (.int p5), .val (.int (3 : Int32)), .val (.int v0), .val (.int v1), .val (.int v2), .val (.ref la), .val (.ref a), .val (.ref r), .val (.int (1 : Int32)), .val (.int (2 : Int32)), .val (.int v0), .val (.int ((v1 + (1 : Int32)).toInt8.toInt32)), .unset] [(.int ((v2 + (1 : Int32)).toInt8.toInt32))])) (fun t k => XS.i2b X72.here hx rfl (hb hby at_297) rfl k) ?_
        refine Goes.pre (U' := T72.setTop (mkF m 300 #[.val (.int p1), .val (.int p2), .val (.int p3), .val (.int p4), .val (.int p5), .val (.int (3 : Int32)), .val (.int v0), .val (.int v1), .val (.int v2), .val (.ref la), .val (.ref a), .val (.ref r), .val (.int (1 : Int32)), .val (.int (2 : Int32)), .val (.int v0), .val (.int ((v1 + (1 : Int32)).toInt8.toInt32)), .val (.int ((v2 + (1 : Int32)).toInt8.toInt32))] [])) (fun t k => XS.istore X72.here hx rfl (hb hby at_298) rfl (l' := #[.val (.int p1), .val (.int p2), .val (.int p3), .val (.int p4), .val (.int p5), .val (.int (3 : Int32)), .val (.int v0), .val (.int v1), .val (.int v2), .val (.ref la), .val (.ref a), .val (.ref r), .val (.int (1 : Int32)), .val (.int (2 : Int32)), .val (.int v0), .val (.int ((v1 + (1 : Int32)).toInt8.toInt32)), .val (.int ((v2 + (1 : Int32)).toInt8.toInt32))]) rfl k) ?_
        refine Goes.pre (U' := T72.setTop (mkF m 302 #[.val (.int p1), .val (.int p2), .val (.int p3), .val (.int p4), .val (.int p5), .val (.int (3 : Int32)), .val (.int v0), .val (.int v1), .val (.int v2), .val (.ref la), .val (.ref a), .val (.ref r), .val (.int (1 : Int32)), .val (.int (2 : Int32)), .val (.int v0), .val (.int ((v1 + (1 : Int32)).toInt8.toInt32)), .val (.int ((v2 + (1 : Int32)).toInt8.toInt32))] [(.int (1 : Int32))])) (fun t k => XS.iload X72.here hx rfl (hb hby at_300) rfl k) ?_
        have hc302 : ¬ ((1 : Int32) = (0 : Int32)) := by decide
        refine Goes.pre (U' := T72.setTop (mkF m 305 #[.val (.int p1), .val (.int p2), .val (.int p3), .val (.int p4), .val (.int p5), .val (.int (3 : Int32)), .val (.int v0), .val (.int v1), .val (.int v2), .val (.ref la), .val (.ref a), .val (.ref r), .val (.int (1 : Int32)), .val (.int (2 : Int32)), .val (.int v0), .val (.int ((v1 + (1 : Int32)).toInt8.toInt32)), .val (.int ((v2 + (1 : Int32)).toInt8.toInt32))] [])) (fun t k => XS.ifNo X72.here hx rfl (hb hby at_302) rfl ((if0 _ _).trans (feq hc302).1) k) ?_
        refine Goes.pre (U' := T72.setTop (mkF m 307 #[.val (.int p1), .val (.int p2), .val (.int p3), .val (.int p4), .val (.int p5), .val (.int (3 : Int32)), .val (.int v0), .val (.int v1), .val (.int v2), .val (.ref la), .val (.ref a), .val (.ref r), .val (.int (1 : Int32)), .val (.int (2 : Int32)), .val (.int v0), .val (.int ((v1 + (1 : Int32)).toInt8.toInt32)), .val (.int ((v2 + (1 : Int32)).toInt8.toInt32))] [(.ref r)])) (fun t k => XS.aload X72.here hx rfl (hb hby at_305) rfl rfl k) ?_
        refine Goes.pre (U' := T72.setTop (mkF m 308 #[.val (.int p1), .val (.int p2), .val (.int p3), .val (.int p4), .val (.int p5), .val (.int (3 : Int32)), .val (.int v0), .val (.int v1), .val (.int v2), .val (.ref la), .val (.ref a), .val (.ref r), .val (.int (1 : Int32)), .val (.int (2 : Int32)), .val (.int v0), .val (.int ((v1 + (1 : Int32)).toInt8.toInt32)), .val (.int ((v2 + (1 : Int32)).toInt8.toInt32))] [(.int (0 : Int32)), (.ref r)])) (fun t k => XS.iconst X72.here hx rfl (hb hby at_307) k) ?_
        obtain ⟨cl78, Ar78, q78, Sz78, Ng78, Hs78, Ft78⟩ := id V_r
        have hin78 := inb_of (j := (0 : Int32)) Sz78 ⟨by decide, by decide⟩
        refine Goes.pre (U' := T72.setTop (mkF m 309 #[.val (.int p1), .val (.int p2), .val (.int p3), .val (.int p4), .val (.int p5), .val (.int (3 : Int32)), .val (.int v0), .val (.int v1), .val (.int v2), .val (.ref la), .val (.ref a), .val (.ref r), .val (.int (1 : Int32)), .val (.int (2 : Int32)), .val (.int v0), .val (.int ((v1 + (1 : Int32)).toInt8.toInt32)), .val (.int ((v2 + (1 : Int32)).toInt8.toInt32))] [(.int v0)])) (fun t k => X72.baloadBytes hx (j := (0 : Int32)) (v := (.int v0)) Ar78.1 (State.isArrayOf_alike hZ.alike Ar78.2.1) Ar78.2.2 hin78 (Has.at Hs78 hin78 rfl) (g := (mkF m 308 #[.val (.int p1), .val (.int p2), .val (.int p3), .val (.int p4), .val (.int p5), .val (.int (3 : Int32)), .val (.int v0), .val (.int v1), .val (.int v2), .val (.ref la), .val (.ref a), .val (.ref r), .val (.int (1 : Int32)), .val (.int (2 : Int32)), .val (.int v0), .val (.int ((v1 + (1 : Int32)).toInt8.toInt32)), .val (.int ((v2 + (1 : Int32)).toInt8.toInt32))] [(.int (0 : Int32)), (.ref r)])) rfl rfl (hb hby at_308) _ k) ?_
        refine Goes.pre (U' := T72.setTop (mkF m 311 #[.val (.int p1), .val (.int p2), .val (.int p3), .val (.int p4), .val (.int p5), .val (.int (3 : Int32)), .val (.int v0), .val (.int v1), .val (.int v2), .val (.ref la), .val (.ref a), .val (.ref r), .val (.int (1 : Int32)), .val (.int (2 : Int32)), .val (.int v0), .val (.int ((v1 + (1 : Int32)).toInt8.toInt32)), .val (.int ((v2 + (1 : Int32)).toInt8.toInt32))] [(.int v0), (.int v0)])) (fun t k => XS.iload X72.here hx rfl (hb hby at_309) rfl k) ?_
        have hc311 : v0 = v0 := rfl
        refine Goes.pre (U' := T72.setTop (mkF m 314 #[.val (.int p1), .val (.int p2), .val (.int p3), .val (.int p4), .val (.int p5), .val (.int (3 : Int32)), .val (.int v0), .val (.int v1), .val (.int v2), .val (.ref la), .val (.ref a), .val (.ref r), .val (.int (1 : Int32)), .val (.int (2 : Int32)), .val (.int v0), .val (.int ((v1 + (1 : Int32)).toInt8.toInt32)), .val (.int ((v2 + (1 : Int32)).toInt8.toInt32))] [])) (fun t k => XS.icmpNo X72.here hx rfl (hb hby at_311) rfl (teq hc311).2 k) ?_
        refine Goes.pre (U' := T72.setTop (mkF m 316 #[.val (.int p1), .val (.int p2), .val (.int p3), .val (.int p4), .val (.int p5), .val (.int (3 : Int32)), .val (.int v0), .val (.int v1), .val (.int v2), .val (.ref la), .val (.ref a), .val (.ref r), .val (.int (1 : Int32)), .val (.int (2 : Int32)), .val (.int v0), .val (.int ((v1 + (1 : Int32)).toInt8.toInt32)), .val (.int ((v2 + (1 : Int32)).toInt8.toInt32))] [(.int (2 : Int32))])) (fun t k => XS.iload X72.here hx rfl (hb hby at_314) rfl k) ?_
        refine Goes.pre (U' := T72.setTop (mkF m 317 #[.val (.int p1), .val (.int p2), .val (.int p3), .val (.int p4), .val (.int p5), .val (.int (3 : Int32)), .val (.int v0), .val (.int v1), .val (.int v2), .val (.ref la), .val (.ref a), .val (.ref r), .val (.int (1 : Int32)), .val (.int (2 : Int32)), .val (.int v0), .val (.int ((v1 + (1 : Int32)).toInt8.toInt32)), .val (.int ((v2 + (1 : Int32)).toInt8.toInt32))] [(.int (2 : Int32)), (.int (2 : Int32))])) (fun t k => XS.iconst X72.here hx rfl (hb hby at_316) k) ?_
        have hc317 : ¬ ((2 : Int32) < (2 : Int32)) := by decide
        refine Goes.pre (U' := T72.setTop (mkF m 320 #[.val (.int p1), .val (.int p2), .val (.int p3), .val (.int p4), .val (.int p5), .val (.int (3 : Int32)), .val (.int v0), .val (.int v1), .val (.int v2), .val (.ref la), .val (.ref a), .val (.ref r), .val (.int (1 : Int32)), .val (.int (2 : Int32)), .val (.int v0), .val (.int ((v1 + (1 : Int32)).toInt8.toInt32)), .val (.int ((v2 + (1 : Int32)).toInt8.toInt32))] [])) (fun t k => XS.icmpNo X72.here hx rfl (hb hby at_317) rfl (flt hc317).1 k) ?_
        refine Goes.pre (U' := T72.setTop (mkF m 322 #[.val (.int p1), .val (.int p2), .val (.int p3), .val (.int p4), .val (.int p5), .val (.int (3 : Int32)), .val (.int v0), .val (.int v1), .val (.int v2), .val (.ref la), .val (.ref a), .val (.ref r), .val (.int (1 : Int32)), .val (.int (2 : Int32)), .val (.int v0), .val (.int ((v1 + (1 : Int32)).toInt8.toInt32)), .val (.int ((v2 + (1 : Int32)).toInt8.toInt32))] [(.ref r)])) (fun t k => XS.aload X72.here hx rfl (hb hby at_320) rfl rfl k) ?_
        refine Goes.pre (U' := T72.setTop (mkF m 323 #[.val (.int p1), .val (.int p2), .val (.int p3), .val (.int p4), .val (.int p5), .val (.int (3 : Int32)), .val (.int v0), .val (.int v1), .val (.int v2), .val (.ref la), .val (.ref a), .val (.ref r), .val (.int (1 : Int32)), .val (.int (2 : Int32)), .val (.int v0), .val (.int ((v1 + (1 : Int32)).toInt8.toInt32)), .val (.int ((v2 + (1 : Int32)).toInt8.toInt32))] [(.int (1 : Int32)), (.ref r)])) (fun t k => XS.iconst X72.here hx rfl (hb hby at_322) k) ?_
        obtain ⟨cl79, Ar79, q79, Sz79, Ng79, Hs79, Ft79⟩ := id V_r
        have hin79 := inb_of (j := (1 : Int32)) Sz79 ⟨by decide, by decide⟩
        refine Goes.pre (U' := T72.setTop (mkF m 324 #[.val (.int p1), .val (.int p2), .val (.int p3), .val (.int p4), .val (.int p5), .val (.int (3 : Int32)), .val (.int v0), .val (.int v1), .val (.int v2), .val (.ref la), .val (.ref a), .val (.ref r), .val (.int (1 : Int32)), .val (.int (2 : Int32)), .val (.int v0), .val (.int ((v1 + (1 : Int32)).toInt8.toInt32)), .val (.int ((v2 + (1 : Int32)).toInt8.toInt32))] [(.int ((v1 + (1 : Int32)).toInt8.toInt32))])) (fun t k => X72.baloadBytes hx (j := (1 : Int32)) (v := (.int ((v1 + (1 : Int32)).toInt8.toInt32))) Ar79.1 (State.isArrayOf_alike hZ.alike Ar79.2.1) Ar79.2.2 hin79 (Has.at Hs79 hin79 rfl) (g := (mkF m 323 #[.val (.int p1), .val (.int p2), .val (.int p3), .val (.int p4), .val (.int p5), .val (.int (3 : Int32)), .val (.int v0), .val (.int v1), .val (.int v2), .val (.ref la), .val (.ref a), .val (.ref r), .val (.int (1 : Int32)), .val (.int (2 : Int32)), .val (.int v0), .val (.int ((v1 + (1 : Int32)).toInt8.toInt32)), .val (.int ((v2 + (1 : Int32)).toInt8.toInt32))] [(.int (1 : Int32)), (.ref r)])) rfl rfl (hb hby at_323) _ k) ?_
        refine Goes.pre (U' := T72.setTop (mkF m 326 #[.val (.int p1), .val (.int p2), .val (.int p3), .val (.int p4), .val (.int p5), .val (.int (3 : Int32)), .val (.int v0), .val (.int v1), .val (.int v2), .val (.ref la), .val (.ref a), .val (.ref r), .val (.int (1 : Int32)), .val (.int (2 : Int32)), .val (.int v0), .val (.int ((v1 + (1 : Int32)).toInt8.toInt32)), .val (.int ((v2 + (1 : Int32)).toInt8.toInt32))] [(.int ((v1 + (1 : Int32)).toInt8.toInt32)), (.int ((v1 + (1 : Int32)).toInt8.toInt32))])) (fun t k => XS.iload X72.here hx rfl (hb hby at_324) rfl k) ?_
        have hc326 : ((v1 + (1 : Int32)).toInt8.toInt32) = ((v1 + (1 : Int32)).toInt8.toInt32) := rfl
        refine Goes.pre (U' := T72.setTop (mkF m 329 #[.val (.int p1), .val (.int p2), .val (.int p3), .val (.int p4), .val (.int p5), .val (.int (3 : Int32)), .val (.int v0), .val (.int v1), .val (.int v2), .val (.ref la), .val (.ref a), .val (.ref r), .val (.int (1 : Int32)), .val (.int (2 : Int32)), .val (.int v0), .val (.int ((v1 + (1 : Int32)).toInt8.toInt32)), .val (.int ((v2 + (1 : Int32)).toInt8.toInt32))] [])) (fun t k => XS.icmpNo X72.here hx rfl (hb hby at_326) rfl (teq hc326).2 k) ?_
        refine Goes.pre (U' := T72.setTop (mkF m 331 #[.val (.int p1), .val (.int p2), .val (.int p3), .val (.int p4), .val (.int p5), .val (.int (3 : Int32)), .val (.int v0), .val (.int v1), .val (.int v2), .val (.ref la), .val (.ref a), .val (.ref r), .val (.int (1 : Int32)), .val (.int (2 : Int32)), .val (.int v0), .val (.int ((v1 + (1 : Int32)).toInt8.toInt32)), .val (.int ((v2 + (1 : Int32)).toInt8.toInt32))] [(.int (2 : Int32))])) (fun t k => XS.iload X72.here hx rfl (hb hby at_329) rfl k) ?_
        refine Goes.pre (U' := T72.setTop (mkF m 332 #[.val (.int p1), .val (.int p2), .val (.int p3), .val (.int p4), .val (.int p5), .val (.int (3 : Int32)), .val (.int v0), .val (.int v1), .val (.int v2), .val (.ref la), .val (.ref a), .val (.ref r), .val (.int (1 : Int32)), .val (.int (2 : Int32)), .val (.int v0), .val (.int ((v1 + (1 : Int32)).toInt8.toInt32)), .val (.int ((v2 + (1 : Int32)).toInt8.toInt32))] [(.int (3 : Int32)), (.int (2 : Int32))])) (fun t k => XS.iconst X72.here hx rfl (hb hby at_331) k) ?_
        have hc332 : (2 : Int32) < (3 : Int32) := by decide
        refine Goes.pre (U' := T72.setTop (mkF m 344 #[.val (.int p1), .val (.int p2), .val (.int p3), .val (.int p4), .val (.int p5), .val (.int (3 : Int32)), .val (.int v0), .val (.int v1), .val (.int v2), .val (.ref la), .val (.ref a), .val (.ref r), .val (.int (1 : Int32)), .val (.int (2 : Int32)), .val (.int v0), .val (.int ((v1 + (1 : Int32)).toInt8.toInt32)), .val (.int ((v2 + (1 : Int32)).toInt8.toInt32))] [])) (fun t k => XS.icmpYes X72.here hx rfl (pc0 := 332) (pc' := 344) rfl (hb hby at_332) rfl (tlt hc332).1 (by decide) (by decide) k) ?_
        refine Goes.pre (U' := T72.setTop (mkF m 345 #[.val (.int p1), .val (.int p2), .val (.int p3), .val (.int p4), .val (.int p5), .val (.int (3 : Int32)), .val (.int v0), .val (.int v1), .val (.int v2), .val (.ref la), .val (.ref a), .val (.ref r), .val (.int (1 : Int32)), .val (.int (2 : Int32)), .val (.int v0), .val (.int ((v1 + (1 : Int32)).toInt8.toInt32)), .val (.int ((v2 + (1 : Int32)).toInt8.toInt32))] [(.int (1 : Int32))])) (fun t k => XS.iconst X72.here hx rfl (hb hby at_344) k) ?_
        refine Goes.pre (U' := T72.setTop (mkF m 349 #[.val (.int p1), .val (.int p2), .val (.int p3), .val (.int p4), .val (.int p5), .val (.int (3 : Int32)), .val (.int v0), .val (.int v1), .val (.int v2), .val (.ref la), .val (.ref a), .val (.ref r), .val (.int (1 : Int32)), .val (.int (2 : Int32)), .val (.int v0), .val (.int ((v1 + (1 : Int32)).toInt8.toInt32)), .val (.int ((v2 + (1 : Int32)).toInt8.toInt32))] [(.int (1 : Int32))])) (fun t k => XS.goto X72.here hx rfl (pc0 := 345) (pc' := 349) rfl (hb hby at_345) (by decide) (by decide) k) ?_
        refine Goes.ret X72 (v := (some (.int (1 : Int32)))) (fun h => by rw [Bd.returns] at h; cases h) Bd.notSynchronized (by decide) (by decide) rfl (fun fs hr => retN X72 hx (t := .boolean) Bd.returns (by simp) (hb hby at_349) hr) ?_
        exact ⟨rfl, N72⟩
    ·
      have hk := hq2
      refine Goes.pre (U' := T58.setTop (mkF m 107 #[.val (.int p1), .val (.int p2), .val (.int p3), .val (.int p4), .val (.int p5), .val (.int (3 : Int32)), .val (.int v0), .val (.int v1), .val (.int v2), .val (.ref la), .val (.ref a), .unset, .unset, .unset, .unset, .unset, .unset] [(.ref a)])) (fun t k => XS.aload X58.here hx rfl (hb hby at_105) rfl rfl k) ?_
      have lt_a := E_a.lt
      have lt_fa := E_fa.lt
      have lt_la := E_la.lt
      obtain ⟨cq80, kq80, q80a, q80b, q80c⟩ := isOf hZ rfl E_a
      obtain ⟨_, _, ⟨T80, L80, k80, n80⟩, -, X80, ⟨Lc80, hQ80, l80, y80, z80⟩, st80⟩ := X58.virtualBack hx (y := (⟨"com/example/known_paths/knownpaths/key/KeyRange", "end", "()[B"⟩ : MethodName)) (z := (⟨"com/example/known_paths/knownpaths/key/KeyRange", "end", "()[B"⟩ : MethodName)) hown (mvT hZ (hw _ (List.mem_of_getElem? (i := 19) rfl))) (mvT hZ (hw _ (List.mem_of_getElem? (i := 20) rfl))) (notFace_of_selects (args := #[]) (mvT hZ (hw _ (List.mem_of_getElem? (i := 22) rfl)))) (mvT hZ (hw _ (List.mem_of_getElem? (i := 22) rfl))) (mvT hZ (hw _ (List.mem_of_getElem? (i := 21) rfl))) (by decide) (backOf (W := 0) (rm_end33 l Z a0 hw [] a la k52 v0 v1 v2 T58.heap n0 Z59 F_last_a E_la V_la hk) hZ (hw _ (List.mem_of_getElem? (i := 23) rfl)) (hw _ (List.mem_of_getElem? (i := 3) rfl)) (by decide) (by decide)) q80a q80c (g := (mkF m 107 #[.val (.int p1), .val (.int p2), .val (.int p3), .val (.int p4), .val (.int p5), .val (.int (3 : Int32)), .val (.int v0), .val (.int v1), .val (.int v2), .val (.ref la), .val (.ref a), .unset, .unset, .unset, .unset, .unset, .unset] [(.ref a)])) rfl (by rw [hml]; rfl) (Steps.refl _) (argsL := []) (rest := []) (lenOf pd__28_29_5bB rfl) rfl (by show 2 * 0 + _ ≤ _; exact Nat.le_of_eq rfl) (hb hby at_107) (fun _ _ => ⟨rfl, rfl, (by decide : 3 + 1 ≤ _), (by decide : 5 + 3 ≤ _)⟩)
      dsimp only [Pt.U, Pt.locs, Pt.cells, Pt.slots] at X80 l80 y80 z80 st80 hQ80
      subst l80 y80 z80
      obtain ⟨r, kr, rfl, N80q, KQ80, V_r, g_r, sz_r0⟩ := hQ80
      have N80 := Fr.app N58 N80q
      have E_la := E_la.keep KQ80
      have V_la := V_la.keep KQ80 nin0
      have E_a := E_a.keep KQ80
      have E_fa := E_fa.keep KQ80
      have V_fa := V_fa.keep KQ80 nin0
      have F_last_a := F_last_a.keep KQ80 nin0
      have Z81 : n0 ≤ T80.heap.size := Nat.le_trans Z59 KQ80.1
      have ne_a_r : a ≠ r := Nat.ne_of_lt (Nat.lt_of_lt_of_le lt_a sz_r0)
      have ne_r_a := ne_a_r.symm
      have ne_fa_r : fa ≠ r := Nat.ne_of_lt (Nat.lt_of_lt_of_le lt_fa sz_r0)
      have ne_r_fa := ne_fa_r.symm
      have ne_la_r : la ≠ r := Nat.ne_of_lt (Nat.lt_of_lt_of_le lt_la sz_r0)
      have ne_r_la := ne_la_r.symm
      refine Goes.pre (U' := T80.setTop (mkF m 110 #[.val (.int p1), .val (.int p2), .val (.int p3), .val (.int p4), .val (.int p5), .val (.int (3 : Int32)), .val (.int v0), .val (.int v1), .val (.int v2), .val (.ref la), .val (.ref a), .unset, .unset, .unset, .unset, .unset, .unset] [(.ref r)])) (fun t k => st80.trans k) ?_
      refine Goes.pre (U' := T80.setTop (mkF m 112 #[.val (.int p1), .val (.int p2), .val (.int p3), .val (.int p4), .val (.int p5), .val (.int (3 : Int32)), .val (.int v0), .val (.int v1), .val (.int v2), .val (.ref la), .val (.ref a), .val (.ref r), .unset, .unset, .unset, .unset, .unset] [])) (fun t k => XS.astore X80.here hx rfl (hb hby at_110) rfl rfl (l' := #[.val (.int p1), .val (.int p2), .val (.int p3), .val (.int p4), .val (.int p5), .val (.int (3 : Int32)), .val (.int v0), .val (.int v1), .val (.int v2), .val (.ref la), .val (.ref a), .val (.ref r), .unset, .unset, .unset, .unset, .unset]) rfl k) ?_
      refine Goes.pre (U' := T80.setTop (mkF m 114 #[.val (.int p1), .val (.int p2), .val (.int p3), .val (.int p4), .val (.int p5), .val (.int (3 : Int32)), .val (.int v0), .val (.int v1), .val (.int v2), .val (.ref la), .val (.ref a), .val (.ref r), .unset, .unset, .unset, .unset, .unset] [(.int (3 : Int32))])) (fun t k => XS.iload X80.here hx rfl (hb hby at_112) rfl k) ?_
      refine Goes.pre (U' := T80.setTop (mkF m 115 #[.val (.int p1), .val (.int p2), .val (.int p3), .val (.int p4), .val (.int p5), .val (.int (3 : Int32)), .val (.int v0), .val (.int v1), .val (.int v2), .val (.ref la), .val (.ref a), .val (.ref r), .unset, .unset, .unset, .unset, .unset] [(.int (1 : Int32)), (.int (3 : Int32))])) (fun t k => XS.iconst X80.here hx rfl (hb hby at_114) k) ?_
      have hc115 : ¬ ((3 : Int32) < (1 : Int32)) := by decide
      refine Goes.pre (U' := T80.setTop (mkF m 118 #[.val (.int p1), .val (.int p2), .val (.int p3), .val (.int p4), .val (.int p5), .val (.int (3 : Int32)), .val (.int v0), .val (.int v1), .val (.int v2), .val (.ref la), .val (.ref a), .val (.ref r), .unset, .unset, .unset, .unset, .unset] [])) (fun t k => XS.icmpNo X80.here hx rfl (hb hby at_115) rfl (flt hc115).1 k) ?_
      refine Goes.pre (U' := T80.setTop (mkF m 120 #[.val (.int p1), .val (.int p2), .val (.int p3), .val (.int p4), .val (.int p5), .val (.int (3 : Int32)), .val (.int v0), .val (.int v1), .val (.int v2), .val (.ref la), .val (.ref a), .val (.ref r), .unset, .unset, .unset, .unset, .unset] [(.ref la)])) (fun t k => XS.aload X80.here hx rfl (hb hby at_118) rfl rfl k) ?_
      refine Goes.pre (U' := T80.setTop (mkF m 121 #[.val (.int p1), .val (.int p2), .val (.int p3), .val (.int p4), .val (.int p5), .val (.int (3 : Int32)), .val (.int v0), .val (.int v1), .val (.int v2), .val (.ref la), .val (.ref a), .val (.ref r), .unset, .unset, .unset, .unset, .unset] [(.int (0 : Int32)), (.ref la)])) (fun t k => XS.iconst X80.here hx rfl (hb hby at_120) k) ?_
      obtain ⟨cl82, Ar82, q82, Sz82, Ng82, Hs82, Ft82⟩ := id V_la
      have hin82 := inb_of (j := (0 : Int32)) Sz82 ⟨by decide, by decide⟩
      refine Goes.pre (U' := T80.setTop (mkF m 122 #[.val (.int p1), .val (.int p2), .val (.int p3), .val (.int p4), .val (.int p5), .val (.int (3 : Int32)), .val (.int v0), .val (.int v1), .val (.int v2), .val (.ref la), .val (.ref a), .val (.ref r), .unset, .unset, .unset, .unset, .unset] [(.int v0)])) (fun t k => X80.baloadBytes hx (j := (0 : Int32)) (v := (.int v0)) Ar82.1 (State.isArrayOf_alike hZ.alike Ar82.2.1) Ar82.2.2 hin82 (Has.at Hs82 hin82 rfl) (g := (mkF m 121 #[.val (.int p1), .val (.int p2), .val (.int p3), .val (.int p4), .val (.int p5), .val (.int (3 : Int32)), .val (.int v0), .val (.int v1), .val (.int v2), .val (.ref la), .val (.ref a), .val (.ref r), .unset, .unset, .unset, .unset, .unset] [(.int (0 : Int32)), (.ref la)])) rfl rfl (hb hby at_121) _ k) ?_
      refine Goes.pre (U' := T80.setTop (mkF m 124 #[.val (.int p1), .val (.int p2), .val (.int p3), .val (.int p4), .val (.int p5), .val (.int (3 : Int32)), .val (.int v0), .val (.int v1), .val (.int v2), .val (.ref la), .val (.ref a), .val (.ref r), .unset, .unset, .unset, .unset, .unset] [(.int v0), (.int v0)])) (fun t k => XS.iload X80.here hx rfl (hb hby at_122) rfl k) ?_
      have hc124 : v0 = v0 := rfl
      refine Goes.pre (U' := T80.setTop (mkF m 127 #[.val (.int p1), .val (.int p2), .val (.int p3), .val (.int p4), .val (.int p5), .val (.int (3 : Int32)), .val (.int v0), .val (.int v1), .val (.int v2), .val (.ref la), .val (.ref a), .val (.ref r), .unset, .unset, .unset, .unset, .unset] [])) (fun t k => XS.icmpNo X80.here hx rfl (hb hby at_124) rfl (teq hc124).2 k) ?_
      refine Goes.pre (U' := T80.setTop (mkF m 129 #[.val (.int p1), .val (.int p2), .val (.int p3), .val (.int p4), .val (.int p5), .val (.int (3 : Int32)), .val (.int v0), .val (.int v1), .val (.int v2), .val (.ref la), .val (.ref a), .val (.ref r), .unset, .unset, .unset, .unset, .unset] [(.int (3 : Int32))])) (fun t k => XS.iload X80.here hx rfl (hb hby at_127) rfl k) ?_
      refine Goes.pre (U' := T80.setTop (mkF m 130 #[.val (.int p1), .val (.int p2), .val (.int p3), .val (.int p4), .val (.int p5), .val (.int (3 : Int32)), .val (.int v0), .val (.int v1), .val (.int v2), .val (.ref la), .val (.ref a), .val (.ref r), .unset, .unset, .unset, .unset, .unset] [(.int (2 : Int32)), (.int (3 : Int32))])) (fun t k => XS.iconst X80.here hx rfl (hb hby at_129) k) ?_
      have hc130 : ¬ ((3 : Int32) < (2 : Int32)) := by decide
      refine Goes.pre (U' := T80.setTop (mkF m 133 #[.val (.int p1), .val (.int p2), .val (.int p3), .val (.int p4), .val (.int p5), .val (.int (3 : Int32)), .val (.int v0), .val (.int v1), .val (.int v2), .val (.ref la), .val (.ref a), .val (.ref r), .unset, .unset, .unset, .unset, .unset] [])) (fun t k => XS.icmpNo X80.here hx rfl (hb hby at_130) rfl (flt hc130).1 k) ?_
      refine Goes.pre (U' := T80.setTop (mkF m 135 #[.val (.int p1), .val (.int p2), .val (.int p3), .val (.int p4), .val (.int p5), .val (.int (3 : Int32)), .val (.int v0), .val (.int v1), .val (.int v2), .val (.ref la), .val (.ref a), .val (.ref r), .unset, .unset, .unset, .unset, .unset] [(.ref la)])) (fun t k => XS.aload X80.here hx rfl (hb hby at_133) rfl rfl k) ?_
      refine Goes.pre (U' := T80.setTop (mkF m 136 #[.val (.int p1), .val (.int p2), .val (.int p3), .val (.int p4), .val (.int p5), .val (.int (3 : Int32)), .val (.int v0), .val (.int v1), .val (.int v2), .val (.ref la), .val (.ref a), .val (.ref r), .unset, .unset, .unset, .unset, .unset] [(.int (1 : Int32)), (.ref la)])) (fun t k => XS.iconst X80.here hx rfl (hb hby at_135) k) ?_
      obtain ⟨cl83, Ar83, q83, Sz83, Ng83, Hs83, Ft83⟩ := id V_la
      have hin83 := inb_of (j := (1 : Int32)) Sz83 ⟨by decide, by decide⟩
      refine Goes.pre (U' := T80.setTop (mkF m 137 #[.val (.int p1), .val (.int p2), .val (.int p3), .val (.int p4), .val (.int p5), .val (.int (3 : Int32)), .val (.int v0), .val (.int v1), .val (.int v2), .val (.ref la), .val (.ref a), .val (.ref r), .unset, .unset, .unset, .unset, .unset] [(.int v1)])) (fun t k => X80.baloadBytes hx (j := (1 : Int32)) (v := (.int v1)) Ar83.1 (State.isArrayOf_alike hZ.alike Ar83.2.1) Ar83.2.2 hin83 (Has.at Hs83 hin83 rfl) (g := (mkF m 136 #[.val (.int p1), .val (.int p2), .val (.int p3), .val (.int p4), .val (.int p5), .val (.int (3 : Int32)), .val (.int v0), .val (.int v1), .val (.int v2), .val (.ref la), .val (.ref a), .val (.ref r), .unset, .unset, .unset, .unset, .unset] [(.int (1 : Int32)), (.ref la)])) rfl rfl (hb hby at_136) _ k) ?_
      refine Goes.pre (U' := T80.setTop (mkF m 139 #[.val (.int p1), .val (.int p2), .val (.int p3), .val (.int p4), .val (.int p5), .val (.int (3 : Int32)), .val (.int v0), .val (.int v1), .val (.int v2), .val (.ref la), .val (.ref a), .val (.ref r), .unset, .unset, .unset, .unset, .unset] [(.int v1), (.int v1)])) (fun t k => XS.iload X80.here hx rfl (hb hby at_137) rfl k) ?_
      have hc139 : v1 = v1 := rfl
      refine Goes.pre (U' := T80.setTop (mkF m 142 #[.val (.int p1), .val (.int p2), .val (.int p3), .val (.int p4), .val (.int p5), .val (.int (3 : Int32)), .val (.int v0), .val (.int v1), .val (.int v2), .val (.ref la), .val (.ref a), .val (.ref r), .unset, .unset, .unset, .unset, .unset] [])) (fun t k => XS.icmpNo X80.here hx rfl (hb hby at_139) rfl (teq hc139).2 k) ?_
      refine Goes.pre (U' := T80.setTop (mkF m 144 #[.val (.int p1), .val (.int p2), .val (.int p3), .val (.int p4), .val (.int p5), .val (.int (3 : Int32)), .val (.int v0), .val (.int v1), .val (.int v2), .val (.ref la), .val (.ref a), .val (.ref r), .unset, .unset, .unset, .unset, .unset] [(.int (3 : Int32))])) (fun t k => XS.iload X80.here hx rfl (hb hby at_142) rfl k) ?_
      refine Goes.pre (U' := T80.setTop (mkF m 145 #[.val (.int p1), .val (.int p2), .val (.int p3), .val (.int p4), .val (.int p5), .val (.int (3 : Int32)), .val (.int v0), .val (.int v1), .val (.int v2), .val (.ref la), .val (.ref a), .val (.ref r), .unset, .unset, .unset, .unset, .unset] [(.int (3 : Int32)), (.int (3 : Int32))])) (fun t k => XS.iconst X80.here hx rfl (hb hby at_144) k) ?_
      have hc145 : ¬ ((3 : Int32) < (3 : Int32)) := by decide
      refine Goes.pre (U' := T80.setTop (mkF m 148 #[.val (.int p1), .val (.int p2), .val (.int p3), .val (.int p4), .val (.int p5), .val (.int (3 : Int32)), .val (.int v0), .val (.int v1), .val (.int v2), .val (.ref la), .val (.ref a), .val (.ref r), .unset, .unset, .unset, .unset, .unset] [])) (fun t k => XS.icmpNo X80.here hx rfl (hb hby at_145) rfl (flt hc145).1 k) ?_
      refine Goes.pre (U' := T80.setTop (mkF m 150 #[.val (.int p1), .val (.int p2), .val (.int p3), .val (.int p4), .val (.int p5), .val (.int (3 : Int32)), .val (.int v0), .val (.int v1), .val (.int v2), .val (.ref la), .val (.ref a), .val (.ref r), .unset, .unset, .unset, .unset, .unset] [(.ref la)])) (fun t k => XS.aload X80.here hx rfl (hb hby at_148) rfl rfl k) ?_
      refine Goes.pre (U' := T80.setTop (mkF m 151 #[.val (.int p1), .val (.int p2), .val (.int p3), .val (.int p4), .val (.int p5), .val (.int (3 : Int32)), .val (.int v0), .val (.int v1), .val (.int v2), .val (.ref la), .val (.ref a), .val (.ref r), .unset, .unset, .unset, .unset, .unset] [(.int (2 : Int32)), (.ref la)])) (fun t k => XS.iconst X80.here hx rfl (hb hby at_150) k) ?_
      obtain ⟨cl84, Ar84, q84, Sz84, Ng84, Hs84, Ft84⟩ := id V_la
      have hin84 := inb_of (j := (2 : Int32)) Sz84 ⟨by decide, by decide⟩
      refine Goes.pre (U' := T80.setTop (mkF m 152 #[.val (.int p1), .val (.int p2), .val (.int p3), .val (.int p4), .val (.int p5), .val (.int (3 : Int32)), .val (.int v0), .val (.int v1), .val (.int v2), .val (.ref la), .val (.ref a), .val (.ref r), .unset, .unset, .unset, .unset, .unset] [(.int v2)])) (fun t k => X80.baloadBytes hx (j := (2 : Int32)) (v := (.int v2)) Ar84.1 (State.isArrayOf_alike hZ.alike Ar84.2.1) Ar84.2.2 hin84 (Has.at Hs84 hin84 rfl) (g := (mkF m 151 #[.val (.int p1), .val (.int p2), .val (.int p3), .val (.int p4), .val (.int p5), .val (.int (3 : Int32)), .val (.int v0), .val (.int v1), .val (.int v2), .val (.ref la), .val (.ref a), .val (.ref r), .unset, .unset, .unset, .unset, .unset] [(.int (2 : Int32)), (.ref la)])) rfl rfl (hb hby at_151) _ k) ?_
      refine Goes.pre (U' := T80.setTop (mkF m 154 #[.val (.int p1), .val (.int p2), .val (.int p3), .val (.int p4), .val (.int p5), .val (.int (3 : Int32)), .val (.int v0), .val (.int v1), .val (.int v2), .val (.ref la), .val (.ref a), .val (.ref r), .unset, .unset, .unset, .unset, .unset] [(.int v2), (.int v2)])) (fun t k => XS.iload X80.here hx rfl (hb hby at_152) rfl k) ?_
      have hc154 : v2 = v2 := rfl
      refine Goes.pre (U' := T80.setTop (mkF m 157 #[.val (.int p1), .val (.int p2), .val (.int p3), .val (.int p4), .val (.int p5), .val (.int (3 : Int32)), .val (.int v0), .val (.int v1), .val (.int v2), .val (.ref la), .val (.ref a), .val (.ref r), .unset, .unset, .unset, .unset, .unset] [])) (fun t k => XS.icmpNo X80.here hx rfl (hb hby at_154) rfl (teq hc154).2 k) ?_
      refine Goes.pre (U' := T80.setTop (mkF m 158 #[.val (.int p1), .val (.int p2), .val (.int p3), .val (.int p4), .val (.int p5), .val (.int (3 : Int32)), .val (.int v0), .val (.int v1), .val (.int v2), .val (.ref la), .val (.ref a), .val (.ref r), .unset, .unset, .unset, .unset, .unset] [(.int (1 : Int32))])) (fun t k => XS.iconst X80.here hx rfl (hb hby at_157) k) ?_
      refine Goes.pre (U' := T80.setTop (mkF m 162 #[.val (.int p1), .val (.int p2), .val (.int p3), .val (.int p4), .val (.int p5), .val (.int (3 : Int32)), .val (.int v0), .val (.int v1), .val (.int v2), .val (.ref la), .val (.ref a), .val (.ref r), .unset, .unset, .unset, .unset, .unset] [(.int (1 : Int32))])) (fun t k => XS.goto X80.here hx rfl (pc0 := 158) (pc' := 162) rfl (hb hby at_158) (by decide) (by decide) k) ?_
      refine Goes.pre (U' := T80.setTop (mkF m 164 #[.val (.int p1), .val (.int p2), .val (.int p3), .val (.int p4), .val (.int p5), .val (.int (3 : Int32)), .val (.int v0), .val (.int v1), .val (.int v2), .val (.ref la), .val (.ref a), .val (.ref r), .val (.int (1 : Int32)), .unset, .unset, .unset, .unset] [])) (fun t k => XS.istore X80.here hx rfl (hb hby at_162) rfl (l' := #[.val (.int p1), .val (.int p2), .val (.int p3), .val (.int p4), .val (.int p5), .val (.int (3 : Int32)), .val (.int v0), .val (.int v1), .val (.int v2), .val (.ref la), .val (.ref a), .val (.ref r), .val (.int (1 : Int32)), .unset, .unset, .unset, .unset]) rfl k) ?_
      refine Goes.pre (U' := T80.setTop (mkF m 166 #[.val (.int p1), .val (.int p2), .val (.int p3), .val (.int p4), .val (.int p5), .val (.int (3 : Int32)), .val (.int v0), .val (.int v1), .val (.int v2), .val (.ref la), .val (.ref a), .val (.ref r), .val (.int (1 : Int32)), .unset, .unset, .unset, .unset] [(.int (3 : Int32))])) (fun t k => XS.iload X80.here hx rfl (hb hby at_164) rfl k) ?_
      refine Goes.pre (U' := T80.setTop (mkF m 167 #[.val (.int p1), .val (.int p2), .val (.int p3), .val (.int p4), .val (.int p5), .val (.int (3 : Int32)), .val (.int v0), .val (.int v1), .val (.int v2), .val (.ref la), .val (.ref a), .val (.ref r), .val (.int (1 : Int32)), .unset, .unset, .unset, .unset] [(.int (3 : Int32)), (.int (3 : Int32))])) (fun t k => XS.iconst X80.here hx rfl (hb hby at_166) k) ?_
      have hc167 : ¬ ((3 : Int32) < (3 : Int32)) := by decide
      refine Goes.pre (U' := T80.setTop (mkF m 170 #[.val (.int p1), .val (.int p2), .val (.int p3), .val (.int p4), .val (.int p5), .val (.int (3 : Int32)), .val (.int v0), .val (.int v1), .val (.int v2), .val (.ref la), .val (.ref a), .val (.ref r), .val (.int (1 : Int32)), .unset, .unset, .unset, .unset] [])) (fun t k => XS.icmpNo X80.here hx rfl (hb hby at_167) rfl (flt hc167).1 k) ?_
      refine Goes.pre (U' := T80.setTop (mkF m 172 #[.val (.int p1), .val (.int p2), .val (.int p3), .val (.int p4), .val (.int p5), .val (.int (3 : Int32)), .val (.int v0), .val (.int v1), .val (.int v2), .val (.ref la), .val (.ref a), .val (.ref r), .val (.int (1 : Int32)), .unset, .unset, .unset, .unset] [(.int v2)])) (fun t k => XS.iload X80.here hx rfl (hb hby at_170) rfl k) ?_
      refine Goes.pre (U' := T80.setTop (mkF m 173 #[.val (.int p1), .val (.int p2), .val (.int p3), .val (.int p4), .val (.int p5), .val (.int (3 : Int32)), .val (.int v0), .val (.int v1), .val (.int v2), .val (.ref la), .val (.ref a), .val (.ref r), .val (.int (1 : Int32)), .unset, .unset, .unset, .unset] [(.int (-1 : Int32)), (.int v2)])) (fun t k => XS.iconst X80.here hx rfl (hb hby at_172) k) ?_
      have hc173 : ¬ (v2 = (-1 : Int32)) := hq2
      refine Goes.pre (U' := T80.setTop (mkF m 176 #[.val (.int p1), .val (.int p2), .val (.int p3), .val (.int p4), .val (.int p5), .val (.int (3 : Int32)), .val (.int v0), .val (.int v1), .val (.int v2), .val (.ref la), .val (.ref a), .val (.ref r), .val (.int (1 : Int32)), .unset, .unset, .unset, .unset] [])) (fun t k => XS.icmpNo X80.here hx rfl (hb hby at_173) rfl (feq hc173).1 k) ?_
      refine Goes.pre (U' := T80.setTop (mkF m 177 #[.val (.int p1), .val (.int p2), .val (.int p3), .val (.int p4), .val (.int p5), .val (.int (3 : Int32)), .val (.int v0), .val (.int v1), .val (.int v2), .val (.ref la), .val (.ref a), .val (.ref r), .val (.int (1 : Int32)), .unset, .unset, .unset, .unset] [(.int (3 : Int32))])) (fun t k => XS.iconst X80.here hx rfl (hb hby at_176) k) ?_
      refine Goes.pre (U' := T80.setTop (mkF m 179 #[.val (.int p1), .val (.int p2), .val (.int p3), .val (.int p4), .val (.int p5), .val (.int (3 : Int32)), .val (.int v0), .val (.int v1), .val (.int v2), .val (.ref la), .val (.ref a), .val (.ref r), .val (.int (1 : Int32)), .val (.int (3 : Int32)), .unset, .unset, .unset] [])) (fun t k => XS.istore X80.here hx rfl (hb hby at_177) rfl (l' := #[.val (.int p1), .val (.int p2), .val (.int p3), .val (.int p4), .val (.int p5), .val (.int (3 : Int32)), .val (.int v0), .val (.int v1), .val (.int v2), .val (.ref la), .val (.ref a), .val (.ref r), .val (.int (1 : Int32)), .val (.int (3 : Int32)), .unset, .unset, .unset]) rfl k) ?_
      refine Goes.pre (U' := T80.setTop (mkF m 221 #[.val (.int p1), .val (.int p2), .val (.int p3), .val (.int p4), .val (.int p5), .val (.int (3 : Int32)), .val (.int v0), .val (.int v1), .val (.int v2), .val (.ref la), .val (.ref a), .val (.ref r), .val (.int (1 : Int32)), .val (.int (3 : Int32)), .unset, .unset, .unset] [])) (fun t k => XS.goto X80.here hx rfl (pc0 := 179) (pc' := 221) rfl (hb hby at_179) (by decide) (by decide) k) ?_
      refine Goes.pre (U' := T80.setTop (mkF m 223 #[.val (.int p1), .val (.int p2), .val (.int p3), .val (.int p4), .val (.int p5), .val (.int (3 : Int32)), .val (.int v0), .val (.int v1), .val (.int v2), .val (.ref la), .val (.ref a), .val (.ref r), .val (.int (1 : Int32)), .val (.int (3 : Int32)), .unset, .unset, .unset] [(.int (3 : Int32))])) (fun t k => XS.iload X80.here hx rfl (hb hby at_221) rfl k) ?_
      have hc223 : ¬ ((3 : Int32) = (0 : Int32)) := by decide
      refine Goes.pre (U' := T80.setTop (mkF m 242 #[.val (.int p1), .val (.int p2), .val (.int p3), .val (.int p4), .val (.int p5), .val (.int (3 : Int32)), .val (.int v0), .val (.int v1), .val (.int v2), .val (.ref la), .val (.ref a), .val (.ref r), .val (.int (1 : Int32)), .val (.int (3 : Int32)), .unset, .unset, .unset] [])) (fun t k => XS.ifYes X80.here hx rfl (pc0 := 223) (pc' := 242) rfl (hb hby at_223) rfl ((if0 _ _).trans (feq hc223).2) (by decide) (by decide) k) ?_
      refine Goes.pre (U' := T80.setTop (mkF m 244 #[.val (.int p1), .val (.int p2), .val (.int p3), .val (.int p4), .val (.int p5), .val (.int (3 : Int32)), .val (.int v0), .val (.int v1), .val (.int v2), .val (.ref la), .val (.ref a), .val (.ref r), .val (.int (1 : Int32)), .val (.int (3 : Int32)), .unset, .unset, .unset] [(.ref r)])) (fun t k => XS.aload X80.here hx rfl (hb hby at_242) rfl rfl k) ?_
      refine Goes.pre (U' := T80.setTop (mkF m 247 #[.val (.int p1), .val (.int p2), .val (.int p3), .val (.int p4), .val (.int p5), .val (.int (3 : Int32)), .val (.int v0), .val (.int v1), .val (.int v2), .val (.ref la), .val (.ref a), .val (.ref r), .val (.int (1 : Int32)), .val (.int (3 : Int32)), .unset, .unset, .unset] [])) (fun t k => XS.ifnullNo X80.here hx rfl (hb hby at_244) rfl k) ?_
      refine Goes.pre (U' := T80.setTop (mkF m 249 #[.val (.int p1), .val (.int p2), .val (.int p3), .val (.int p4), .val (.int p5), .val (.int (3 : Int32)), .val (.int v0), .val (.int v1), .val (.int v2), .val (.ref la), .val (.ref a), .val (.ref r), .val (.int (1 : Int32)), .val (.int (3 : Int32)), .unset, .unset, .unset] [(.ref r)])) (fun t k => XS.aload X80.here hx rfl (hb hby at_247) rfl rfl k) ?_
      obtain ⟨cl85, Ar85, q85, Sz85, Ng85, -, -⟩ := id V_r
      have ln85 := len_of Sz85 Ng85
      refine Goes.pre (U' := T80.setTop (mkF m 250 #[.val (.int p1), .val (.int p2), .val (.int p3), .val (.int p4), .val (.int p5), .val (.int (3 : Int32)), .val (.int v0), .val (.int v1), .val (.int v2), .val (.ref la), .val (.ref a), .val (.ref r), .val (.int (1 : Int32)), .val (.int (3 : Int32)), .unset, .unset, .unset] [(.int (3 : Int32))])) (fun t k => X80.arraylength hx Ar85.1 (State.isArrayOf_alike hZ.alike Ar85.2.1) (g := (mkF m 249 #[.val (.int p1), .val (.int p2), .val (.int p3), .val (.int p4), .val (.int p5), .val (.int (3 : Int32)), .val (.int v0), .val (.int v1), .val (.int v2), .val (.ref la), .val (.ref a), .val (.ref r), .val (.int (1 : Int32)), .val (.int (3 : Int32)), .unset, .unset, .unset] [(.ref r)])) rfl rfl (hb hby at_249) _ (by rw [ln85]; exact k)) ?_
      refine Goes.pre (U' := T80.setTop (mkF m 252 #[.val (.int p1), .val (.int p2), .val (.int p3), .val (.int p4), .val (.int p5), .val (.int (3 : Int32)), .val (.int v0), .val (.int v1), .val (.int v2), .val (.ref la), .val (.ref a), .val (.ref r), .val (.int (1 : Int32)), .val (.int (3 : Int32)), .unset, .unset, .unset] [(.int (3 : Int32)), (.int (3 : Int32))])) (fun t k => XS.iload X80.here hx rfl (hb hby at_250) rfl k) ?_
      have hc252 : (3 : Int32) = (3 : Int32) := rfl
      refine Goes.pre (U' := T80.setTop (mkF m 257 #[.val (.int p1), .val (.int p2), .val (.int p3), .val (.int p4), .val (.int p5), .val (.int (3 : Int32)), .val (.int v0), .val (.int v1), .val (.int v2), .val (.ref la), .val (.ref a), .val (.ref r), .val (.int (1 : Int32)), .val (.int (3 : Int32)), .unset, .unset, .unset] [])) (fun t k => XS.icmpYes X80.here hx rfl (pc0 := 252) (pc' := 257) rfl (hb hby at_252) rfl (teq hc252).1 (by decide) (by decide) k) ?_
      refine Goes.pre (U' := T80.setTop (mkF m 259 #[.val (.int p1), .val (.int p2), .val (.int p3), .val (.int p4), .val (.int p5), .val (.int (3 : Int32)), .val (.int v0), .val (.int v1), .val (.int v2), .val (.ref la), .val (.ref a), .val (.ref r), .val (.int (1 : Int32)), .val (.int (3 : Int32)), .unset, .unset, .unset] [(.int (3 : Int32))])) (fun t k => XS.iload X80.here hx rfl (hb hby at_257) rfl k) ?_
      refine Goes.pre (U' := T80.setTop (mkF m 260 #[.val (.int p1), .val (.int p2), .val (.int p3), .val (.int p4), .val (.int p5), .val (.int (3 : Int32)), .val (.int v0), .val (.int v1), .val (.int v2), .val (.ref la), .val (.ref a), .val (.ref r), .val (.int (1 : Int32)), .val (.int (3 : Int32)), .unset, .unset, .unset] [(.int (1 : Int32)), (.int (3 : Int32))])) (fun t k => XS.iconst X80.here hx rfl (hb hby at_259) k) ?_
      have hc260 : ¬ ((3 : Int32) = (1 : Int32)) := by decide
      refine Goes.pre (U' := T80.setTop (mkF m 271 #[.val (.int p1), .val (.int p2), .val (.int p3), .val (.int p4), .val (.int p5), .val (.int (3 : Int32)), .val (.int v0), .val (.int v1), .val (.int v2), .val (.ref la), .val (.ref a), .val (.ref r), .val (.int (1 : Int32)), .val (.int (3 : Int32)), .unset, .unset, .unset] [])) (fun t k => XS.icmpYes X80.here hx rfl (pc0 := 260) (pc' := 271) rfl (hb hby at_260) rfl (feq hc260).2 (by decide) (by decide) k) ?_
      refine Goes.pre (U' := T80.setTop (mkF m 273 #[.val (.int p1), .val (.int p2), .val (.int p3), .val (.int p4), .val (.int p5), .val (.int (3 : Int32)), .val (.int v0), .val (.int v1), .val (.int v2), .val (.ref la), .val (.ref a), .val (.ref r), .val (.int (1 : Int32)), .val (.int (3 : Int32)), .unset, .unset, .unset] [(.int v0)])) (fun t k => XS.iload X80.here hx rfl (hb hby at_271) rfl k) ?_
      refine Goes.pre (U' := T80.setTop (mkF m 275 #[.val (.int p1), .val (.int p2), .val (.int p3), .val (.int p4), .val (.int p5), .val (.int (3 : Int32)), .val (.int v0), .val (.int v1), .val (.int v2), .val (.ref la), .val (.ref a), .val (.ref r), .val (.int (1 : Int32)), .val (.int (3 : Int32)), .val (.int v0), .unset, .unset] [])) (fun t k => XS.istore X80.here hx rfl (hb hby at_273) rfl (l' := #[.val (.int p1), .val (.int p2), .val (.int p3), .val (.int p4), .val (.int p5), .val (.int (3 : Int32)), .val (.int v0), .val (.int v1), .val (.int v2), .val (.ref la), .val (.ref a), .val (.ref r), .val (.int (1 : Int32)), .val (.int (3 : Int32)), .val (.int v0), .unset, .unset]) rfl k) ?_
      refine Goes.pre (U' := T80.setTop (mkF m 277 #[.val (.int p1), .val (.int p2), .val (.int p3), .val (.int p4), .val (.int p5), .val (.int (3 : Int32)), .val (.int v0), .val (.int v1), .val (.int v2), .val (.ref la), .val (.ref a), .val (.ref r), .val (.int (1 : Int32)), .val (.int (3 : Int32)), .val (.int v0), .unset, .unset] [(.int (3 : Int32))])) (fun t k => XS.iload X80.here hx rfl (hb hby at_275) rfl k) ?_
      refine Goes.pre (U' := T80.setTop (mkF m 278 #[.val (.int p1), .val (.int p2), .val (.int p3), .val (.int p4), .val (.int p5), .val (.int (3 : Int32)), .val (.int v0), .val (.int v1), .val (.int v2), .val (.ref la), .val (.ref a), .val (.ref r), .val (.int (1 : Int32)), .val (.int (3 : Int32)), .val (.int v0), .unset, .unset] [(.int (2 : Int32)), (.int (3 : Int32))])) (fun t k => XS.iconst X80.here hx rfl (hb hby at_277) k) ?_
      have hc278 : ¬ ((3 : Int32) = (2 : Int32)) := by decide
      refine Goes.pre (U' := T80.setTop (mkF m 289 #[.val (.int p1), .val (.int p2), .val (.int p3), .val (.int p4), .val (.int p5), .val (.int (3 : Int32)), .val (.int v0), .val (.int v1), .val (.int v2), .val (.ref la), .val (.ref a), .val (.ref r), .val (.int (1 : Int32)), .val (.int (3 : Int32)), .val (.int v0), .unset, .unset] [])) (fun t k => XS.icmpYes X80.here hx rfl (pc0 := 278) (pc' := 289) rfl (hb hby at_278) rfl (feq hc278).2 (by decide) (by decide) k) ?_
      refine Goes.pre (U' := T80.setTop (mkF m 291 #[.val (.int p1), .val (.int p2), .val (.int p3), .val (.int p4), .val (.int p5), .val (.int (3 : Int32)), .val (.int v0), .val (.int v1), .val (.int v2), .val (.ref la), .val (.ref a), .val (.ref r), .val (.int (1 : Int32)), .val (.int (3 : Int32)), .val (.int v0), .unset, .unset] [(.int v1)])) (fun t k => XS.iload X80.here hx rfl (hb hby at_289) rfl k) ?_
      refine Goes.pre (U' := T80.setTop (mkF m 293 #[.val (.int p1), .val (.int p2), .val (.int p3), .val (.int p4), .val (.int p5), .val (.int (3 : Int32)), .val (.int v0), .val (.int v1), .val (.int v2), .val (.ref la), .val (.ref a), .val (.ref r), .val (.int (1 : Int32)), .val (.int (3 : Int32)), .val (.int v0), .val (.int v1), .unset] [])) (fun t k => XS.istore X80.here hx rfl (hb hby at_291) rfl (l' := #[.val (.int p1), .val (.int p2), .val (.int p3), .val (.int p4), .val (.int p5), .val (.int (3 : Int32)), .val (.int v0), .val (.int v1), .val (.int v2), .val (.ref la), .val (.ref a), .val (.ref r), .val (.int (1 : Int32)), .val (.int (3 : Int32)), .val (.int v0), .val (.int v1), .unset]) rfl k) ?_
      refine Goes.pre (U' := T80.setTop (mkF m 295 #[.val (.int p1), .val (.int p2), .val (.int p3), .val (.int p4), .val (.int p5), .val (.int (3 : Int32)), .val (.int v0), .val (.int v1), .val (.int v2), .val (.ref la), .val (.ref a), .val (.ref r), .val (.int (1 : Int32)), .val (.int (3 : Int32)), .val (.int v0), .val (.int v1), .unset] [(.int v2)])) (fun t k => XS.iload X80.here hx rfl (hb hby at_293) rfl k) ?_
      refine Goes.pre (U' := T80.setTop (mkF m 296 #[.val (.int p1), .val (.int p2), .val (.int p3), .val (.int p4), .val (.int p5), .val (.int (3 : Int32)), .val (.int v0), .val (.int v1), .val (.int v2), .val (.ref la), .val (.ref a), .val (.ref r), .val (.int (1 : Int32)), .val (.int (3 : Int32)), .val (.int v0), .val (.int v1), .unset] [(.int (1 : Int32)), (.int v2)])) (fun t k => XS.iconst X80.here hx rfl (hb hby at_295) k) ?_
      refine Goes.pre (U' := T80.setTop (mkF m 297 #[.val (.int p1), .val (.int p2), .val (.int p3), .val (.int p4), .val (.int p5), .val (.int (3 : Int32)), .val (.int v0), .val (.int v1), .val (.int v2), .val (.ref la), .val (.ref a), .val (.ref r), .val (.int (1 : Int32)), .val (.int (3 : Int32)), .val (.int v0), .val (.int v1), .unset] [(.int (v2 + (1 : Int32)))])) (fun t k => XS.iadd X80.here hx rfl (hb hby at_296) rfl k) ?_
      refine Goes.pre (U' := T80.setTop (mkF m 298 #[.val (.int p1), .val (.int p2), .val (.int p3), .val (.int p4), .val (.int p5), .val (.int (3 : Int32)), .val (.int v0), .val (.int v1), .val (.int v2), .val (.ref la), .val (.ref a), .val (.ref r), .val (.int (1 : Int32)), .val (.int (3 : Int32)), .val (.int v0), .val (.int v1), .unset] [(.int ((v2 + (1 : Int32)).toInt8.toInt32))])) (fun t k => XS.i2b X80.here hx rfl (hb hby at_297) rfl k) ?_
      refine Goes.pre (U' := T80.setTop (mkF m 300 #[.val (.int p1), .val (.int p2), .val (.int p3), .val (.int p4), .val (.int p5), .val (.int (3 : Int32)), .val (.int v0), .val (.int v1), .val (.int v2), .val (.ref la), .val (.ref a), .val (.ref r), .val (.int (1 : Int32)), .val (.int (3 : Int32)), .val (.int v0), .val (.int v1), .val (.int ((v2 + (1 : Int32)).toInt8.toInt32))] [])) (fun t k => XS.istore X80.here hx rfl (hb hby at_298) rfl (l' := #[.val (.int p1), .val (.int p2), .val (.int p3), .val (.int p4), .val (.int p5), .val (.int (3 : Int32)), .val (.int v0), .val (.int v1), .val (.int v2), .val (.ref la), .val (.ref a), .val (.ref r), .val (.int (1 : Int32)), .val (.int (3 : Int32)), .val (.int v0), .val (.int v1), .val (.int ((v2 + (1 : Int32)).toInt8.toInt32))]) rfl k) ?_
      refine Goes.pre (U' := T80.setTop (mkF m 302 #[.val (.int p1), .val (.int p2), .val (.int p3), .val (.int p4), .val (.int p5), .val (.int (3 : Int32)), .val (.int v0), .val (.int v1), .val (.int v2), .val (.ref la), .val (.ref a), .val (.ref r), .val (.int (1 : Int32)), .val (.int (3 : Int32)), .val (.int v0), .val (.int v1), .val (.int ((v2 + (1 : Int32)).toInt8.toInt32))] [(.int (1 : Int32))])) (fun t k => XS.iload X80.here hx rfl (hb hby at_300) rfl k) ?_
      have hc302 : ¬ ((1 : Int32) = (0 : Int32)) := by decide
      refine Goes.pre (U' := T80.setTop (mkF m 305 #[.val (.int p1), .val (.int p2), .val (.int p3), .val (.int p4), .val (.int p5), .val (.int (3 : Int32)), .val (.int v0), .val (.int v1), .val (.int v2), .val (.ref la), .val (.ref a), .val (.ref r), .val (.int (1 : Int32)), .val (.int (3 : Int32)), .val (.int v0), .val (.int v1), .val (.int ((v2 + (1 : Int32)).toInt8.toInt32))] [])) (fun t k => XS.ifNo X80.here hx rfl (hb hby at_302) rfl ((if0 _ _).trans (feq hc302).1) k) ?_
      refine Goes.pre (U' := T80.setTop (mkF m 307 #[.val (.int p1), .val (.int p2), .val (.int p3), .val (.int p4), .val (.int p5), .val (.int (3 : Int32)), .val (.int v0), .val (.int v1), .val (.int v2), .val (.ref la), .val (.ref a), .val (.ref r), .val (.int (1 : Int32)), .val (.int (3 : Int32)), .val (.int v0), .val (.int v1), .val (.int ((v2 + (1 : Int32)).toInt8.toInt32))] [(.ref r)])) (fun t k => XS.aload X80.here hx rfl (hb hby at_305) rfl rfl k) ?_
      refine Goes.pre (U' := T80.setTop (mkF m 308 #[.val (.int p1), .val (.int p2), .val (.int p3), .val (.int p4), .val (.int p5), .val (.int (3 : Int32)), .val (.int v0), .val (.int v1), .val (.int v2), .val (.ref la), .val (.ref a), .val (.ref r), .val (.int (1 : Int32)), .val (.int (3 : Int32)), .val (.int v0), .val (.int v1), .val (.int ((v2 + (1 : Int32)).toInt8.toInt32))] [(.int (0 : Int32)), (.ref r)])) (fun t k => XS.iconst X80.here hx rfl (hb hby at_307) k) ?_
      obtain ⟨cl86, Ar86, q86, Sz86, Ng86, Hs86, Ft86⟩ := id V_r
      have hin86 := inb_of (j := (0 : Int32)) Sz86 ⟨by decide, by decide⟩
      refine Goes.pre (U' := T80.setTop (mkF m 309 #[.val (.int p1), .val (.int p2), .val (.int p3), .val (.int p4), .val (.int p5), .val (.int (3 : Int32)), .val (.int v0), .val (.int v1), .val (.int v2), .val (.ref la), .val (.ref a), .val (.ref r), .val (.int (1 : Int32)), .val (.int (3 : Int32)), .val (.int v0), .val (.int v1), .val (.int ((v2 + (1 : Int32)).toInt8.toInt32))] [(.int v0)])) (fun t k => X80.baloadBytes hx (j := (0 : Int32)) (v := (.int v0)) Ar86.1 (State.isArrayOf_alike hZ.alike Ar86.2.1) Ar86.2.2 hin86 (Has.at Hs86 hin86 rfl) (g := (mkF m 308 #[.val (.int p1), .val (.int p2), .val (.int p3), .val (.int p4), .val (.int p5), .val (.int (3 : Int32)), .val (.int v0), .val (.int v1), .val (.int v2), .val (.ref la), .val (.ref a), .val (.ref r), .val (.int (1 : Int32)), .val (.int (3 : Int32)), .val (.int v0), .val (.int v1), .val (.int ((v2 + (1 : Int32)).toInt8.toInt32))] [(.int (0 : Int32)), (.ref r)])) rfl rfl (hb hby at_308) _ k) ?_
      refine Goes.pre (U' := T80.setTop (mkF m 311 #[.val (.int p1), .val (.int p2), .val (.int p3), .val (.int p4), .val (.int p5), .val (.int (3 : Int32)), .val (.int v0), .val (.int v1), .val (.int v2), .val (.ref la), .val (.ref a), .val (.ref r), .val (.int (1 : Int32)), .val (.int (3 : Int32)), .val (.int v0), .val (.int v1), .val (.int ((v2 + (1 : Int32)).toInt8.toInt32))] [(.int v0), (.int v0)])) (fun t k => XS.iload X80.here hx rfl (hb hby at_309) rfl k) ?_
      have hc311 : v0 = v0 := rfl
      refine Goes.pre (U' := T80.setTop (mkF m 314 #[.val (.int p1), .val (.int p2), .val (.int p3), .val (.int p4), .val (.int p5), .val (.int (3 : Int32)), .val (.int v0), .val (.int v1), .val (.int v2), .val (.ref la), .val (.ref a), .val (.ref r), .val (.int (1 : Int32)), .val (.int (3 : Int32)), .val (.int v0), .val (.int v1), .val (.int ((v2 + (1 : Int32)).toInt8.toInt32))] [])) (fun t k => XS.icmpNo X80.here hx rfl (hb hby at_311) rfl (teq hc311).2 k) ?_
      refine Goes.pre (U' := T80.setTop (mkF m 316 #[.val (.int p1), .val (.int p2), .val (.int p3), .val (.int p4), .val (.int p5), .val (.int (3 : Int32)), .val (.int v0), .val (.int v1), .val (.int v2), .val (.ref la), .val (.ref a), .val (.ref r), .val (.int (1 : Int32)), .val (.int (3 : Int32)), .val (.int v0), .val (.int v1), .val (.int ((v2 + (1 : Int32)).toInt8.toInt32))] [(.int (3 : Int32))])) (fun t k => XS.iload X80.here hx rfl (hb hby at_314) rfl k) ?_
      refine Goes.pre (U' := T80.setTop (mkF m 317 #[.val (.int p1), .val (.int p2), .val (.int p3), .val (.int p4), .val (.int p5), .val (.int (3 : Int32)), .val (.int v0), .val (.int v1), .val (.int v2), .val (.ref la), .val (.ref a), .val (.ref r), .val (.int (1 : Int32)), .val (.int (3 : Int32)), .val (.int v0), .val (.int v1), .val (.int ((v2 + (1 : Int32)).toInt8.toInt32))] [(.int (2 : Int32)), (.int (3 : Int32))])) (fun t k => XS.iconst X80.here hx rfl (hb hby at_316) k) ?_
      have hc317 : ¬ ((3 : Int32) < (2 : Int32)) := by decide
      refine Goes.pre (U' := T80.setTop (mkF m 320 #[.val (.int p1), .val (.int p2), .val (.int p3), .val (.int p4), .val (.int p5), .val (.int (3 : Int32)), .val (.int v0), .val (.int v1), .val (.int v2), .val (.ref la), .val (.ref a), .val (.ref r), .val (.int (1 : Int32)), .val (.int (3 : Int32)), .val (.int v0), .val (.int v1), .val (.int ((v2 + (1 : Int32)).toInt8.toInt32))] [])) (fun t k => XS.icmpNo X80.here hx rfl (hb hby at_317) rfl (flt hc317).1 k) ?_
      refine Goes.pre (U' := T80.setTop (mkF m 322 #[.val (.int p1), .val (.int p2), .val (.int p3), .val (.int p4), .val (.int p5), .val (.int (3 : Int32)), .val (.int v0), .val (.int v1), .val (.int v2), .val (.ref la), .val (.ref a), .val (.ref r), .val (.int (1 : Int32)), .val (.int (3 : Int32)), .val (.int v0), .val (.int v1), .val (.int ((v2 + (1 : Int32)).toInt8.toInt32))] [(.ref r)])) (fun t k => XS.aload X80.here hx rfl (hb hby at_320) rfl rfl k) ?_
      refine Goes.pre (U' := T80.setTop (mkF m 323 #[.val (.int p1), .val (.int p2), .val (.int p3), .val (.int p4), .val (.int p5), .val (.int (3 : Int32)), .val (.int v0), .val (.int v1), .val (.int v2), .val (.ref la), .val (.ref a), .val (.ref r), .val (.int (1 : Int32)), .val (.int (3 : Int32)), .val (.int v0), .val (.int v1), .val (.int ((v2 + (1 : Int32)).toInt8.toInt32))] [(.int (1 : Int32)), (.ref r)])) (fun t k => XS.iconst X80.here hx rfl (hb hby at_322) k) ?_
      obtain ⟨cl87, Ar87, q87, Sz87, Ng87, Hs87, Ft87⟩ := id V_r
      have hin87 := inb_of (j := (1 : Int32)) Sz87 ⟨by decide, by decide⟩
      refine Goes.pre (U' := T80.setTop (mkF m 324 #[.val (.int p1), .val (.int p2), .val (.int p3), .val (.int p4), .val (.int p5), .val (.int (3 : Int32)), .val (.int v0), .val (.int v1), .val (.int v2), .val (.ref la), .val (.ref a), .val (.ref r), .val (.int (1 : Int32)), .val (.int (3 : Int32)), .val (.int v0), .val (.int v1), .val (.int ((v2 + (1 : Int32)).toInt8.toInt32))] [(.int v1)])) (fun t k => X80.baloadBytes hx (j := (1 : Int32)) (v := (.int v1)) Ar87.1 (State.isArrayOf_alike hZ.alike Ar87.2.1) Ar87.2.2 hin87 (Has.at Hs87 hin87 rfl) (g := (mkF m 323 #[.val (.int p1), .val (.int p2), .val (.int p3), .val (.int p4), .val (.int p5), .val (.int (3 : Int32)), .val (.int v0), .val (.int v1), .val (.int v2), .val (.ref la), .val (.ref a), .val (.ref r), .val (.int (1 : Int32)), .val (.int (3 : Int32)), .val (.int v0), .val (.int v1), .val (.int ((v2 + (1 : Int32)).toInt8.toInt32))] [(.int (1 : Int32)), (.ref r)])) rfl rfl (hb hby at_323) _ k) ?_
      refine Goes.pre (U' := T80.setTop (mkF m 326 #[.val (.int p1), .val (.int p2), .val (.int p3), .val (.int p4), .val (.int p5), .val (.int (3 : Int32)), .val (.int v0), .val (.int v1), .val (.int v2), .val (.ref la), .val (.ref a), .val (.ref r), .val (.int (1 : Int32)), .val (.int (3 : Int32)), .val (.int v0), .val (.int v1), .val (.int ((v2 + (1 : Int32)).toInt8.toInt32))] [(.int v1), (.int v1)])) (fun t k => XS.iload X80.here hx rfl (hb hby at_324) rfl k) ?_
      have hc326 : v1 = v1 := rfl
      refine Goes.pre (U' := T80.setTop (mkF m 329 #[.val (.int p1), .val (.int p2), .val (.int p3), .val (.int p4), .val (.int p5), .val (.int (3 : Int32)), .val (.int v0), .val (.int v1), .val (.int v2), .val (.ref la), .val (.ref a), .val (.ref r), .val (.int (1 : Int32)), .val (.int (3 : Int32)), .val (.int v0), .val (.int v1), .val (.int ((v2 + (1 : Int32)).toInt8.toInt32))] [])) (fun t k => XS.icmpNo X80.here hx rfl (hb hby at_326) rfl (teq hc326).2 k) ?_
      refine Goes.pre (U' := T80.setTop (mkF m 331 #[.val (.int p1), .val (.int p2), .val (.int p3), .val (.int p4), .val (.int p5), .val (.int (3 : Int32)), .val (.int v0), .val (.int v1), .val (.int v2), .val (.ref la), .val (.ref a), .val (.ref r), .val (.int (1 : Int32)), .val (.int (3 : Int32)), .val (.int v0), .val (.int v1), .val (.int ((v2 + (1 : Int32)).toInt8.toInt32))] [(.int (3 : Int32))])) (fun t k => XS.iload X80.here hx rfl (hb hby at_329) rfl k) ?_
      refine Goes.pre (U' := T80.setTop (mkF m 332 #[.val (.int p1), .val (.int p2), .val (.int p3), .val (.int p4), .val (.int p5), .val (.int (3 : Int32)), .val (.int v0), .val (.int v1), .val (.int v2), .val (.ref la), .val (.ref a), .val (.ref r), .val (.int (1 : Int32)), .val (.int (3 : Int32)), .val (.int v0), .val (.int v1), .val (.int ((v2 + (1 : Int32)).toInt8.toInt32))] [(.int (3 : Int32)), (.int (3 : Int32))])) (fun t k => XS.iconst X80.here hx rfl (hb hby at_331) k) ?_
      have hc332 : ¬ ((3 : Int32) < (3 : Int32)) := by decide
      refine Goes.pre (U' := T80.setTop (mkF m 335 #[.val (.int p1), .val (.int p2), .val (.int p3), .val (.int p4), .val (.int p5), .val (.int (3 : Int32)), .val (.int v0), .val (.int v1), .val (.int v2), .val (.ref la), .val (.ref a), .val (.ref r), .val (.int (1 : Int32)), .val (.int (3 : Int32)), .val (.int v0), .val (.int v1), .val (.int ((v2 + (1 : Int32)).toInt8.toInt32))] [])) (fun t k => XS.icmpNo X80.here hx rfl (hb hby at_332) rfl (flt hc332).1 k) ?_
      refine Goes.pre (U' := T80.setTop (mkF m 337 #[.val (.int p1), .val (.int p2), .val (.int p3), .val (.int p4), .val (.int p5), .val (.int (3 : Int32)), .val (.int v0), .val (.int v1), .val (.int v2), .val (.ref la), .val (.ref a), .val (.ref r), .val (.int (1 : Int32)), .val (.int (3 : Int32)), .val (.int v0), .val (.int v1), .val (.int ((v2 + (1 : Int32)).toInt8.toInt32))] [(.ref r)])) (fun t k => XS.aload X80.here hx rfl (hb hby at_335) rfl rfl k) ?_
      refine Goes.pre (U' := T80.setTop (mkF m 338 #[.val (.int p1), .val (.int p2), .val (.int p3), .val (.int p4), .val (.int p5), .val (.int (3 : Int32)), .val (.int v0), .val (.int v1), .val (.int v2), .val (.ref la), .val (.ref a), .val (.ref r), .val (.int (1 : Int32)), .val (.int (3 : Int32)), .val (.int v0), .val (.int v1), .val (.int ((v2 + (1 : Int32)).toInt8.toInt32))] [(.int (2 : Int32)), (.ref r)])) (fun t k => XS.iconst X80.here hx rfl (hb hby at_337) k) ?_
      obtain ⟨cl88, Ar88, q88, Sz88, Ng88, Hs88, Ft88⟩ := id V_r
      have hin88 := inb_of (j := (2 : Int32)) Sz88 ⟨by decide, by decide⟩
      refine Goes.pre (U' := T80.setTop (mkF m 339 #[.val (.int p1), .val (.int p2), .val (.int p3), .val (.int p4), .val (.int p5), .val (.int (3 : Int32)), .val (.int v0), .val (.int v1), .val (.int v2), .val (.ref la), .val (.ref a), .val (.ref r), .val (.int (1 : Int32)), .val (.int (3 : Int32)), .val (.int v0), .val (.int v1), .val (.int ((v2 + (1 : Int32)).toInt8.toInt32))] [(.int ((v2 + (1 : Int32)).toInt8.toInt32))])) (fun t k => X80.baloadBytes hx (j := (2 : Int32)) (v := (.int ((v2 + (1 : Int32)).toInt8.toInt32))) Ar88.1 (State.isArrayOf_alike hZ.alike Ar88.2.1) Ar88.2.2 hin88 (Has.at Hs88 hin88 rfl) (g := (mkF m 338 #[.val (.int p1), .val (.int p2), .val (.int p3), .val (.int p4), .val (.int p5), .val (.int (3 : Int32)), .val (.int v0), .val (.int v1), .val (.int v2), .val (.ref la), .val (.ref a), .val (.ref r), .val (.int (1 : Int32)), .val (.int (3 : Int32)), .val (.int v0), .val (.int v1), .val (.int ((v2 + (1 : Int32)).toInt8.toInt32))] [(.int (2 : Int32)), (.ref r)])) rfl rfl (hb hby at_338) _ k) ?_
      refine Goes.pre (U' := T80.setTop (mkF m 341 #[.val (.int p1), .val (.int p2), .val (.int p3), .val (.int p4), .val (.int p5), .val (.int (3 : Int32)), .val (.int v0), .val (.int v1), .val (.int v2), .val (.ref la), .val (.ref a), .val (.ref r), .val (.int (1 : Int32)), .val (.int (3 : Int32)), .val (.int v0), .val (.int v1), .val (.int ((v2 + (1 : Int32)).toInt8.toInt32))] [(.int ((v2 + (1 : Int32)).toInt8.toInt32)), (.int ((v2 + (1 : Int32)).toInt8.toInt32))])) (fun t k => XS.iload X80.here hx rfl (hb hby at_339) rfl k) ?_
      have hc341 : ((v2 + (1 : Int32)).toInt8.toInt32) = ((v2 + (1 : Int32)).toInt8.toInt32) := rfl
      refine Goes.pre (U' := T80.setTop (mkF m 344 #[.val (.int p1), .val (.int p2), .val (.int p3), .val (.int p4), .val (.int p5), .val (.int (3 : Int32)), .val (.int v0), .val (.int v1), .val (.int v2), .val (.ref la), .val (.ref a), .val (.ref r), .val (.int (1 : Int32)), .val (.int (3 : Int32)), .val (.int v0), .val (.int v1), .val (.int ((v2 + (1 : Int32)).toInt8.toInt32))] [])) (fun t k => XS.icmpNo X80.here hx rfl (hb hby at_341) rfl (teq hc341).2 k) ?_
      refine Goes.pre (U' := T80.setTop (mkF m 345 #[.val (.int p1), .val (.int p2), .val (.int p3), .val (.int p4), .val (.int p5), .val (.int (3 : Int32)), .val (.int v0), .val (.int v1), .val (.int v2), .val (.ref la), .val (.ref a), .val (.ref r), .val (.int (1 : Int32)), .val (.int (3 : Int32)), .val (.int v0), .val (.int v1), .val (.int ((v2 + (1 : Int32)).toInt8.toInt32))] [(.int (1 : Int32))])) (fun t k => XS.iconst X80.here hx rfl (hb hby at_344) k) ?_
      refine Goes.pre (U' := T80.setTop (mkF m 349 #[.val (.int p1), .val (.int p2), .val (.int p3), .val (.int p4), .val (.int p5), .val (.int (3 : Int32)), .val (.int v0), .val (.int v1), .val (.int v2), .val (.ref la), .val (.ref a), .val (.ref r), .val (.int (1 : Int32)), .val (.int (3 : Int32)), .val (.int v0), .val (.int v1), .val (.int ((v2 + (1 : Int32)).toInt8.toInt32))] [(.int (1 : Int32))])) (fun t k => XS.goto X80.here hx rfl (pc0 := 345) (pc' := 349) rfl (hb hby at_345) (by decide) (by decide) k) ?_
      refine Goes.ret X80 (v := (some (.int (1 : Int32)))) (fun h => by rw [Bd.returns] at h; cases h) Bd.notSynchronized (by decide) (by decide) rfl (fun fs hr => retN X80 hx (t := .boolean) Bd.returns (by simp) (hb hby at_349) hr) ?_
      exact ⟨rfl, N80⟩
set_option maxRecDepth 65536 in
set_option maxHeartbeats 40000000 in
theorem comes_1 {Post : Tables → Env → Array Value → State → Outcome → State → Prop} (hpost : ∀ tb e args s v u, (limb_1_1.after args s (.returned v) u = true ∧ limb_1_2.after args s (.returned v) u = true ∧ True) → FrameEnd s (.returned v) u (Jvm.fieldLocs frame_1_writes args s ++ Jvm.arrayLocs frame_1_arrays args s ++ Jvm.staticLocs frame_1_statics s) 16 128 → Post tb e args s (.returned v) u) :
    ArmFor flags0 classFile x code maxLocals ret World_1 tables_1 room_1 Calls_1 rest_1 Pre_1 Post := by
  intro l hfl _ _ p e ha hc hk s m args below hf hA hF happ hP
  obtain ⟨hcalls, hrest, hpre⟩ := hP
  obtain ⟨-, -, -, hnamed, -, -, -, hat⟩ := (Spec.applies_iff hf).mp happ
  obtain ⟨hg, hn⟩ := and_e (Cond.before_iff.mp (show (Jvm.Cond.and given_1 narrow_1).before args s = true from hpre))
  obtain ⟨g1, g2⟩ := and_e hg
  obtain ⟨g3, g4⟩ := and_e g2
  obtain ⟨g5, g6⟩ := and_e g4
  obtain ⟨g7, g8⟩ := and_e g6
  obtain ⟨g9, g10⟩ := and_e g8
  obtain ⟨w0, w1, w2, w3, w4, rfl⟩ : ∃ w0 w1 w2 w3 w4 : Value, args = #[w0, w1, w2, w3, w4] := by
    have hs : args.size = 5 := by simpa [Cond.value, given_1] using g1
    obtain ⟨L⟩ := args
    match L, hs with
    | [w0, w1, w2, w3, w4], _ => exact ⟨w0, w1, w2, w3, w4, rfl⟩
  have hw := fun d (hd : d ∈ tables_1) => atoms_spec (ws := Jvm.Cond.code x code maxLocals ret :: tables_1) hat d (List.mem_cons_of_mem _ hd)
  have hfit : Fit s := fun {y c} hc i hi => by
    obtain ⟨ha, rfl⟩ := Array.getElem?_eq_some_iff.mp hc
    have q := List.all_eq_true.mp ((Array.all_eq_true_iff_forall_mem.mp hF) _ (Array.getElem_mem ha)) i (List.mem_range.mpr hi)
    simpa [Array.getElem?_eq_getElem hi] using q
  obtain ⟨i0, ei0⟩ := is_v g3
  obtain rfl : w0 = (.int i0) := Option.some.inj ei0
  obtain ⟨i1, ei1⟩ := is_v g5
  obtain rfl : w1 = (.int i1) := Option.some.inj ei1
  obtain ⟨i2, ei2⟩ := is_v g7
  obtain rfl : w2 = (.int i2) := Option.some.inj ei2
  obtain ⟨i3, ei3⟩ := is_v g9
  obtain rfl : w3 = (.int i3) := Option.some.inj ei3
  obtain ⟨i4, ei4⟩ := is_v g10
  obtain rfl : w4 = (.int i4) := Option.some.inj ei4
  obtain ⟨n, o, h1, h2, h3, _, L, rfl, ⟨rfl, N⟩, hq⟩ := rm0 l s _ hw tables_1 i0 i1 i2 i3 i4 s.heap s.heap.size (Nat.le_refl _) p e ha hc hk s m _ below hf ((Spec.applies_iff_loose hf).mp happ).1 ⟨rfl, State.Warmed39.refl s, rfl⟩ trivial
  refine ⟨n, _, h1, h2, h3, hpost _ _ _ _ _ _ ⟨Cond.after_iff.mpr rfl, Cond.after_iff.mpr (eq_i res_at (Term.int_eval (1)) rfl), trivial⟩ ⟨hq.1, hq.2.1, (hq.2.2.sift fun y hy => Or.inr (N y hy)).mono (by decide) (by decide)⟩⟩
theorem main_1_1 : Claimed_1_1 := comes_1 fun _ _ _ _ _ _ h hF => ⟨h.1, hF⟩
theorem main_1_2 : Claimed_1_2 := comes_1 fun _ _ _ _ _ _ h hF => ⟨h.2.1, hF⟩
end Jvm.Pilot.@@N@@
namespace Jvm.Pilot.@@N@@
open Jvm Jvm.ClassFile Sem Op Lib Jvm.Free Jvm.Stand Jvm.Pilot.@@N@@.Jvm.D
/-! MADE BY PROGRAM (witnessworld.py) out of the Statement's table words and the real class files: 13 classes; the members and pool entries that the words name. The judged class is class 1, her method 1. -/
namespace start1
open Jvm.ClassFile
def u (s : String) : CpInfo := .utf8 (stringToUtf16 s)
/-- a pool by its gaps: so many unusable entries, then the entry; so many at the end -/
def gap : Nat → List CpInfo → List CpInfo
  | 0, r => r
  | n + 1, r => .unusable :: gap n r
def poolList (es : List (Nat × CpInfo)) (last : Nat) : List CpInfo := es.foldr (fun e r => gap e.1 (e.2 :: r)) (gap last [])
def pool (es : List (Nat × CpInfo)) (last : Nat) : Array CpInfo := ⟨poolList es last⟩
def fileOf (pool : Array CpInfo) (this : Nat) (attrs : Array Attribute := #[]) (ms : Array MethodInfo := #[]) (fl : Nat := 33) (sup : Nat := 0) (ifs : Array Nat := #[]) (fds : Array FieldInfo := #[]) : ClassFile where
  minorVersion := 0
  majorVersion := 65
  constantPool := pool
  accessFlags := fl
  thisClass := this
  superClass := sup
  interfaces := ifs
  fields := fds
  methods := ms
  attributes := attrs
def plain (name : String) (sup : Option ClassId) : Class where
  name := name
  kind := .ordinary
  loader := none
  accessFlags := 33
  super := sup
  interfaces := #[]
  cf := none
  fields := #[]
  methods := #[]
  instanceTypes := #[]
  staticTypes := #[]
  resolved := #[]
  callSites := []
  init := .initialized
  statics := none
  mirror := none

def pool0 : Array CpInfo := pool [(5, u "<init>"), (0, u "()V"), (1, .class_ 10), (1, u "java/lang/Object"), (85, u "clone"), (0, u "()Ljava/lang/Object;")] 26

def k0c0 : Code := { maxStack := 0, maxLocals := 1, code := object_method_1_code, exceptionTable := #[], attributes := #[] }
def k0m0 : Method := { name := "<init>", desc := "()V", sig := { parameters := [], returnType := none }, accessFlags := 1, code := some k0c0 }
def k0m1 : Method := { name := "clone", desc := "()Ljava/lang/Object;", sig := { parameters := [], returnType := some (.object "java/lang/Object") }, accessFlags := 260, code := none }
/-- java/lang/Object -/
def k0 : Class := { plain "java/lang/Object" none with
  accessFlags := 33
  interfaces := #[]
  cf := some (fileOf pool0 8 #[] #[{ accessFlags := 1, nameIndex := 5, descriptorIndex := 6, attributes := #[] }, { accessFlags := 260, nameIndex := 96, descriptorIndex := 97, attributes := #[] }] 33 0 #[] #[])
  fields := #[]
  methods := #[k0m0, k0m1]
  instanceTypes := #[]
  staticTypes := #[]
  resolved := Array.replicate 124 none
  statics := none }

def pool1 : Array CpInfo := pool [(2, .class_ 4), (1, u "java/lang/Object"), (0, u "<init>"), (0, u "()V"), (0, .class_ 8), (0, u "com/example/known_paths/knownpaths/key/KeyRange"), (0, .methodref 7 10), (0, .nameAndType 5 11), (0, u "([B[B)V"), (0, .methodref 7 13), (0, .nameAndType 14 15), (0, u "end"), (0, u "()[B"), (0, .class_ 17), (0, u "com/example/known_paths/knownpaths/key/KeyRangeEndPinLaw"), (2, u "law"), (0, u "(IIIII)Z")] 5

def k1m0 : Method := { name := "<init>", desc := "()V", sig := { parameters := [], returnType := none }, accessFlags := 1, code := none }
def k1c1 : Code := { maxStack := 4, maxLocals := 17, code := code, exceptionTable := #[], attributes := #[] }
def k1m1 : Method := { name := "law", desc := "(IIIII)Z", sig := { parameters := [.int, .int, .int, .int, .int], returnType := some .boolean }, accessFlags := 9, code := some k1c1 }
/-- com/example/known_paths/knownpaths/key/KeyRangeEndPinLaw -/
def k1 : Class := { plain "com/example/known_paths/knownpaths/key/KeyRangeEndPinLaw" (some 0) with
  accessFlags := 49
  interfaces := #[]
  cf := some (fileOf pool1 16 #[] #[{ accessFlags := 1, nameIndex := 5, descriptorIndex := 6, attributes := #[] }, { accessFlags := 9, nameIndex := 20, descriptorIndex := 21, attributes := #[] }] 49 2 #[] #[])
  fields := #[]
  methods := #[k1m0, k1m1]
  instanceTypes := #[]
  staticTypes := #[]
  resolved := Array.replicate 27 none
  statics := none }

def pool2 : Array CpInfo := pool [(1, .methodref 2 3), (0, .class_ 4), (0, .nameAndType 5 6), (0, u "java/lang/Object"), (0, u "<init>"), (0, u "()V"), (0, .class_ 8), (0, u "java/lang/Record")] 13

def k2c0 : Code := { maxStack := 1, maxLocals := 1, code := jdk_30_method_1_code, exceptionTable := #[], attributes := #[] }
def k2m0 : Method := { name := "<init>", desc := "()V", sig := { parameters := [], returnType := none }, accessFlags := 4, code := some k2c0 }
/-- java/lang/Record -/
def k2 : Class := { plain "java/lang/Record" (some 0) with
  accessFlags := 1057
  interfaces := #[]
  cf := some (fileOf pool2 7 #[] #[{ accessFlags := 4, nameIndex := 5, descriptorIndex := 6, attributes := #[] }] 1057 2 #[] #[])
  fields := #[]
  methods := #[k2m0]
  instanceTypes := #[]
  staticTypes := #[]
  resolved := Array.replicate 22 none
  statics := none }

def pool3 : Array CpInfo := pool [(1, .methodref 2 3), (0, .class_ 4), (0, .nameAndType 5 6), (0, u "java/lang/Record"), (0, u "<init>"), (0, u "()V"), (0, .fieldref 8 9), (0, .class_ 10), (0, .nameAndType 11 12), (0, u "com/example/known_paths/knownpaths/key/KeyRange"), (0, u "first"), (0, u "[B"), (0, .fieldref 8 14), (0, .nameAndType 15 12), (0, u "last"), (2, u "([B[B)V"), (4, .methodref 24 25), (0, .class_ 26), (0, .nameAndType 27 28), (0, u "java/util/Arrays"), (0, u "copyOf"), (0, u "([BI)[B"), (30, u "end"), (0, u "()[B")] 24

def k3c0 : Code := { maxStack := 2, maxLocals := 3, code := prog_10_method_1_code, exceptionTable := #[], attributes := #[] }
def k3m0 : Method := { name := "<init>", desc := "([B[B)V", sig := { parameters := [(.array .byte), (.array .byte)], returnType := none }, accessFlags := 1, code := some k3c0 }
def k3c1 : Code := { maxStack := 4, maxLocals := 3, code := prog_10_method_4_code, exceptionTable := #[], attributes := #[] }
def k3m1 : Method := { name := "end", desc := "()[B", sig := { parameters := [], returnType := some (.array .byte) }, accessFlags := 1, code := some k3c1 }
/-- com/example/known_paths/knownpaths/key/KeyRange -/
def k3 : Class := { plain "com/example/known_paths/knownpaths/key/KeyRange" (some 2) with
  accessFlags := 49
  interfaces := #[]
  cf := some (fileOf pool3 8 #[] #[{ accessFlags := 1, nameIndex := 5, descriptorIndex := 18, attributes := #[] }, { accessFlags := 1, nameIndex := 59, descriptorIndex := 60, attributes := #[] }] 49 2 #[] #[{ accessFlags := 18, nameIndex := 11, descriptorIndex := 12, attributes := #[] }, { accessFlags := 18, nameIndex := 15, descriptorIndex := 12, attributes := #[] }])
  fields := #[{ name := "first", type := (.array .byte), accessFlags := 18, slot := 0, constantValue := 0 }, { name := "last", type := (.array .byte), accessFlags := 18, slot := 1, constantValue := 0 }]
  methods := #[k3m0, k3m1]
  instanceTypes := #[(.array .byte), (.array .byte)]
  staticTypes := #[]
  resolved := Array.replicate 85 none
  statics := none }

def pool4 : Array CpInfo := pool [(2, .class_ 4), (1, u "java/lang/Object"), (0, u "<init>"), (0, u "()V"), (7, .class_ 16), (1, u "java/util/Arrays"), (57, .class_ 76), (1, u "java/util/Arrays$NaturalOrder"), (32, u "()Ljava/lang/Object;"), (3, .class_ 115), (1, u "java/util/Arrays$LegacyMergeSort"), (1, u "Z"), (10, .nameAndType 129 109), (0, u "clone"), (20, .methodref 151 152), (0, .class_ 153), (0, .nameAndType 154 155), (0, u "java/lang/System"), (0, u "arraycopy"), (0, u "(Ljava/lang/Object;ILjava/lang/Object;II)V"), (146, u "copyOf"), (1, .methodref 305 306), (0, .class_ 307), (0, .nameAndType 308 309), (0, u "java/lang/Math"), (0, u "min"), (0, u "(II)I"), (0, .methodref 311 128), (0, .class_ 312), (0, u "[B"), (62, .class_ 376), (0, u "java/util/Arrays$ArrayList"), (68, u "$assertionsDisabled"), (269, u "MIN_ARRAY_SORT_GRAN"), (0, u "I"), (2, u "INSERTIONSORT_THRESHOLD"), (149, u "([BI)[B"), (105, .class_ 976), (0, u "java/util/Arrays$ArrayItr")] 52

def k4m0 : Method := { name := "<init>", desc := "()V", sig := { parameters := [], returnType := none }, accessFlags := 2, code := none }
def k4c1 : Code := { maxStack := 6, maxLocals := 3, code := jdk_65_method_121_code, exceptionTable := #[], attributes := #[] }
def k4m1 : Method := { name := "copyOf", desc := "([BI)[B", sig := { parameters := [(.array .byte), .int], returnType := some (.array .byte) }, accessFlags := 9, code := some k4c1 }
/-- java/util/Arrays -/
def k4 : Class := { plain "java/util/Arrays" (some 0) with
  accessFlags := 49
  interfaces := #[]
  cf := some (fileOf pool4 14 #[.nestMembers #[975, 375, 113, 74]] #[{ accessFlags := 2, nameIndex := 5, descriptorIndex := 6, attributes := #[] }, { accessFlags := 9, nameIndex := 302, descriptorIndex := 869, attributes := #[] }] 49 2 #[] #[{ accessFlags := 26, nameIndex := 715, descriptorIndex := 716, attributes := #[] }, { accessFlags := 26, nameIndex := 719, descriptorIndex := 716, attributes := #[] }, { accessFlags := 4120, nameIndex := 445, descriptorIndex := 117, attributes := #[] }])
  fields := #[{ name := "MIN_ARRAY_SORT_GRAN", type := .int, accessFlags := 26, slot := 0, constantValue := 0 }, { name := "INSERTIONSORT_THRESHOLD", type := .int, accessFlags := 26, slot := 1, constantValue := 0 }, { name := "$assertionsDisabled", type := .boolean, accessFlags := 4120, slot := 2, constantValue := 0 }]
  methods := #[k4m0, k4m1]
  instanceTypes := #[]
  staticTypes := #[.int, .int, .boolean]
  resolved := Array.replicate 1029 none
  statics := none }

def pool5 : Array CpInfo := pool [(1, .class_ 2), (0, u "java/lang/Math"), (1, .class_ 6), (1, u "java/lang/Object"), (0, u "<init>"), (0, u "()V"), (89, .class_ 100), (1, u "java/lang/Math$RandomNumberGeneratorHolder"), (71, u "negativeZeroFloatBits"), (0, u "J"), (2, u "negativeZeroDoubleBits"), (24, u "min"), (43, u "$assertionsDisabled"), (0, u "Z"), (88, u "(II)I"), (2, u "twoToTheDoubleScaleDown"), (0, u "D"), (4, u "twoToTheDoubleScaleUp"), (9, u "E"), (3, u "PI"), (2, u "TAU"), (2, u "DEGREES_TO_RADIANS"), (0, u "RADIANS_TO_DEGREES")] 94

def k5m0 : Method := { name := "<init>", desc := "()V", sig := { parameters := [], returnType := none }, accessFlags := 2, code := none }
def k5c1 : Code := { maxStack := 2, maxLocals := 2, code := jdk_29_method_69_code, exceptionTable := #[], attributes := #[] }
def k5m1 : Method := { name := "min", desc := "(II)I", sig := { parameters := [.int, .int], returnType := some .int }, accessFlags := 9, code := some k5c1 }
/-- java/lang/Math -/
def k5 : Class := { plain "java/lang/Math" (some 0) with
  accessFlags := 49
  interfaces := #[]
  cf := some (fileOf pool5 1 #[.nestMembers #[98]] #[{ accessFlags := 2, nameIndex := 7, descriptorIndex := 8, attributes := #[] }, { accessFlags := 9, nameIndex := 201, descriptorIndex := 335, attributes := #[] }] 49 4 #[] #[{ accessFlags := 25, nameIndex := 354, descriptorIndex := 339, attributes := #[] }, { accessFlags := 25, nameIndex := 358, descriptorIndex := 339, attributes := #[] }, { accessFlags := 25, nameIndex := 361, descriptorIndex := 339, attributes := #[] }, { accessFlags := 26, nameIndex := 364, descriptorIndex := 339, attributes := #[] }, { accessFlags := 26, nameIndex := 365, descriptorIndex := 339, attributes := #[] }, { accessFlags := 26, nameIndex := 172, descriptorIndex := 173, attributes := #[] }, { accessFlags := 26, nameIndex := 176, descriptorIndex := 173, attributes := #[] }, { accessFlags := 8, nameIndex := 344, descriptorIndex := 339, attributes := #[] }, { accessFlags := 8, nameIndex := 338, descriptorIndex := 339, attributes := #[] }, { accessFlags := 4120, nameIndex := 245, descriptorIndex := 246, attributes := #[] }])
  fields := #[{ name := "E", type := .double, accessFlags := 25, slot := 0, constantValue := 0 }, { name := "PI", type := .double, accessFlags := 25, slot := 1, constantValue := 0 }, { name := "TAU", type := .double, accessFlags := 25, slot := 2, constantValue := 0 }, { name := "DEGREES_TO_RADIANS", type := .double, accessFlags := 26, slot := 3, constantValue := 0 }, { name := "RADIANS_TO_DEGREES", type := .double, accessFlags := 26, slot := 4, constantValue := 0 }, { name := "negativeZeroFloatBits", type := .long, accessFlags := 26, slot := 5, constantValue := 0 }, { name := "negativeZeroDoubleBits", type := .long, accessFlags := 26, slot := 6, constantValue := 0 }, { name := "twoToTheDoubleScaleUp", type := .double, accessFlags := 8, slot := 7, constantValue := 0 }, { name := "twoToTheDoubleScaleDown", type := .double, accessFlags := 8, slot := 8, constantValue := 0 }, { name := "$assertionsDisabled", type := .boolean, accessFlags := 4120, slot := 9, constantValue := 0 }]
  methods := #[k5m0, k5m1]
  instanceTypes := #[]
  staticTypes := #[.double, .double, .double, .double, .double, .long, .long, .double, .double, .boolean]
  resolved := Array.replicate 460 none
  statics := none }

def pool6 : Array CpInfo := pool [(2, .class_ 4), (1, u "java/lang/Object"), (0, u "<init>"), (0, u "()V"), (1, .class_ 10), (1, u "java/lang/System"), (0, u "allowSecurityManager"), (0, u "I"), (16, u "cons"), (0, u "Ljava/io/Console;"), (77, .class_ 110), (1, u "java/lang/System$CallersHolder"), (43, u "initialErrStream"), (0, u "Ljava/io/PrintStream;"), (19, u "security"), (0, u "Ljava/lang/SecurityManager;"), (31, .class_ 209), (0, u "java/lang/System$1"), (7, u "props"), (0, u "Ljava/util/Properties;"), (2, u "lineSeparator"), (0, u "Ljava/lang/String;"), (96, .class_ 321), (1, u "java/lang/System$LoggerFinder"), (5, .class_ 328), (0, u "java/lang/System$Logger"), (67, u "err"), (2, u "out"), (91, u "notSupportedJnuEncoding"), (15, u "in"), (17, u "initialIn"), (0, u "Ljava/io/InputStream;"), (35, u "bootLayer"), (0, u "Ljava/lang/ModuleLayer;"), (99, .class_ 664), (0, u "java/lang/System$2"), (9, u "NEVER"), (2, u "MAYBE"), (49, u "arraycopy"), (0, u "(Ljava/lang/Object;ILjava/lang/Object;II)V"), (72, .class_ 802), (0, u "java/lang/System$Logger$Level")] 31

def k6m0 : Method := { name := "<init>", desc := "()V", sig := { parameters := [], returnType := none }, accessFlags := 2, code := none }
def k6m1 : Method := { name := "arraycopy", desc := "(Ljava/lang/Object;ILjava/lang/Object;II)V", sig := { parameters := [(.object "java/lang/Object"), .int, (.object "java/lang/Object"), .int, .int], returnType := none }, accessFlags := 265, code := none }
/-- java/lang/System -/
def k6 : Class := { plain "java/lang/System" (some 0) with
  accessFlags := 49
  interfaces := #[]
  cf := some (fileOf pool6 8 #[.nestMembers #[319, 327, 801, 108, 663, 208]] #[{ accessFlags := 2, nameIndex := 5, descriptorIndex := 6, attributes := #[] }, { accessFlags := 265, nameIndex := 727, descriptorIndex := 728, attributes := #[] }] 49 2 #[] #[{ accessFlags := 25, nameIndex := 507, descriptorIndex := 526, attributes := #[] }, { accessFlags := 25, nameIndex := 399, descriptorIndex := 155, attributes := #[] }, { accessFlags := 25, nameIndex := 396, descriptorIndex := 155, attributes := #[] }, { accessFlags := 10, nameIndex := 525, descriptorIndex := 526, attributes := #[] }, { accessFlags := 26, nameIndex := 674, descriptorIndex := 12, attributes := #[] }, { accessFlags := 26, nameIndex := 677, descriptorIndex := 12, attributes := #[] }, { accessFlags := 10, nameIndex := 11, descriptorIndex := 12, attributes := #[] }, { accessFlags := 74, nameIndex := 175, descriptorIndex := 176, attributes := #[] }, { accessFlags := 10, nameIndex := 491, descriptorIndex := 222, attributes := #[] }, { accessFlags := 74, nameIndex := 29, descriptorIndex := 30, attributes := #[] }, { accessFlags := 74, nameIndex := 154, descriptorIndex := 155, attributes := #[] }, { accessFlags := 10, nameIndex := 217, descriptorIndex := 218, attributes := #[] }, { accessFlags := 10, nameIndex := 221, descriptorIndex := 222, attributes := #[] }, { accessFlags := 8, nameIndex := 562, descriptorIndex := 563, attributes := #[] }])
  fields := #[{ name := "in", type := (.object "java/io/InputStream"), accessFlags := 25, slot := 0, constantValue := 0 }, { name := "out", type := (.object "java/io/PrintStream"), accessFlags := 25, slot := 1, constantValue := 0 }, { name := "err", type := (.object "java/io/PrintStream"), accessFlags := 25, slot := 2, constantValue := 0 }, { name := "initialIn", type := (.object "java/io/InputStream"), accessFlags := 10, slot := 3, constantValue := 0 }, { name := "NEVER", type := .int, accessFlags := 26, slot := 4, constantValue := 0 }, { name := "MAYBE", type := .int, accessFlags := 26, slot := 5, constantValue := 0 }, { name := "allowSecurityManager", type := .int, accessFlags := 10, slot := 6, constantValue := 0 }, { name := "security", type := (.object "java/lang/SecurityManager"), accessFlags := 74, slot := 7, constantValue := 0 }, { name := "notSupportedJnuEncoding", type := (.object "java/lang/String"), accessFlags := 10, slot := 8, constantValue := 0 }, { name := "cons", type := (.object "java/io/Console"), accessFlags := 74, slot := 9, constantValue := 0 }, { name := "initialErrStream", type := (.object "java/io/PrintStream"), accessFlags := 74, slot := 10, constantValue := 0 }, { name := "props", type := (.object "java/util/Properties"), accessFlags := 10, slot := 11, constantValue := 0 }, { name := "lineSeparator", type := (.object "java/lang/String"), accessFlags := 10, slot := 12, constantValue := 0 }, { name := "bootLayer", type := (.object "java/lang/ModuleLayer"), accessFlags := 8, slot := 13, constantValue := 0 }]
  methods := #[k6m0, k6m1]
  instanceTypes := #[]
  staticTypes := #[(.object "java/io/InputStream"), (.object "java/io/PrintStream"), (.object "java/io/PrintStream"), (.object "java/io/InputStream"), .int, .int, .int, (.object "java/lang/SecurityManager"), (.object "java/lang/String"), (.object "java/io/Console"), (.object "java/io/PrintStream"), (.object "java/util/Properties"), (.object "java/lang/String"), (.object "java/lang/ModuleLayer")]
  resolved := Array.replicate 834 none
  statics := none }

def pool7 : Array CpInfo := pool [(1, .class_ 2), (0, u "java/lang/Cloneable"), (0, .class_ 4), (0, u "java/lang/Object")] 2

/-- java/lang/Cloneable -/
def k7 : Class := { plain "java/lang/Cloneable" (some 0) with
  accessFlags := 1537
  interfaces := #[]
  cf := some (fileOf pool7 1 #[] #[] 1537 3 #[] #[])
  fields := #[]
  methods := #[]
  instanceTypes := #[]
  staticTypes := #[]
  resolved := Array.replicate 7 none
  statics := none }

def pool8 : Array CpInfo := pool [(1, u "java/io/Serializable"), (0, .class_ 1), (0, u "java/lang/Object"), (0, .class_ 3)] 3

/-- java/io/Serializable -/
def k8 : Class := { plain "java/io/Serializable" (some 0) with
  accessFlags := 1537
  interfaces := #[]
  cf := some (fileOf pool8 2 #[] #[] 1537 4 #[] #[])
  fields := #[]
  methods := #[]
  instanceTypes := #[]
  staticTypes := #[]
  resolved := Array.replicate 8 none
  statics := none }

/-- the primitive byte -/
def k9 : Class := { plain "byte" none with kind := .primitive 'B', accessFlags := 0x411 }
/-- [B -/
def k10 : Class := { plain "[B" (some 0) with kind := .array 9 .byte, interfaces := #[7, 8], accessFlags := 1041 }

/-- the primitive int -/
def k11 : Class := { plain "int" none with kind := .primitive 'I', accessFlags := 0x411 }
/-- [I -/
def k12 : Class := { plain "[I" (some 0) with kind := .array 11 .int, interfaces := #[7, 8], accessFlags := 1041 }

def heap : Heap := #[]
def classes : Array Class := #[k0, k1, k2, k3, k4, k5, k6, k7, k8, k9, k10, k11, k12]
def interned : List (Array UInt16 × Addr) := []
def slotsUsed : Nat := 0
def theMethod : MethodId := ⟨1, 1⟩
def args0 : Array Value := #[.int 2, .int 9, .int 7, .int 1, .int 0]
def aboutOver (below : List Frame) : State where
  vm := { classes := classes, interned := interned.toArray }
  heap := heap
  slotsUsed := slotsUsed
  threads := #[{ frames := .invoking theMethod args0 :: below }]
def below0 : List Frame := [.native { method := ⟨0, 0⟩, args := #[] }]
def about1 : State := aboutOver below0
def p0 : Program := .bare "" "" ""
def e0 : Env := launch0.env 0 0 0
theorem w_frames : about1.frames = Frame.invoking theMethod args0 :: below0 := rfl
set_option maxRecDepth 65536 in
theorem w_args : argsFit about1.vm theMethod args0 = true := by decide +kernel
set_option maxRecDepth 65536 in
theorem w_heap : heapFits about1 = true := by decide +kernel
set_option maxRecDepth 65536 in
theorem w_runnable : about1.curStatus? = some .runnable := by decide +kernel
set_option maxRecDepth 65536 in
theorem w_alone : about1.alone = true := by decide +kernel
set_option maxRecDepth 65536 in
theorem w_named : about1.methodNamed? x = some theMethod := by decide +kernel
set_option maxRecDepth 65536 in
theorem w_hears : about1.hears theMethod below0 = true := by decide +kernel
set_option maxRecDepth 65536 in
theorem w_ripe : about1.ripe theMethod args0 below0 = true := by decide +kernel
theorem w_running : about1.status = .running := rfl
set_option maxRecDepth 65536 in
theorem w_room : about1.hasRoom e0.platform room_1 = true :=
  launch0.hasRoom_least _ room_1 (by decide +kernel) (by decide +kernel) (by decide +kernel) (by decide +kernel) (by decide +kernel) (by decide +kernel)
theorem allAtoms_all (ts : List Jvm.Cond) (a : Array Jvm.Value) (st : Jvm.State) : (allAtoms ts).before a st = ts.all (fun c => c.before a st) := by
  induction ts with
  | nil => rfl
  | cons c t ih =>
    show (Jvm.Cond.and c (allAtoms t)).before a st = _
    rw [Jvm.Cond.before_and, ih, List.all_cons]
def words1 : List Jvm.Cond := Jvm.Cond.code x code maxLocals ret :: tables_1
/-- a 'code' word, met by the world's own term for the bytes: nothing is compared byte by byte -/
theorem code_word {y : MethodName} {bytes : ByteArray} {mx : Nat} {rt : Option FieldType} {a : Array Value} {s : State} {m : MethodId} {meth : Method} {c : Code} (h1 : s.methodNamed? y = some m) (h2 : s.vm.method? m = some meth) (h3 : meth.code = some c) (h4 : c.code = bytes)
    (h5 : (c.maxLocals == mx && c.exceptionTable.isEmpty && decide (c.maxStack ≤ mostOperands) && decide (meth.sig.returnType = rt) && !meth.locks && decide (parseMethodDescriptor y.desc = some meth.sig)) = true) : (Jvm.Cond.code y bytes mx rt).before a s = true := by
  simp only [Bool.and_eq_true, beq_iff_eq, Bool.not_eq_true', decide_eq_true_eq] at h5
  obtain ⟨⟨⟨⟨⟨g1, g2⟩, g3⟩, g4⟩, g5⟩, g6⟩ := h5
  simp [Cond.before, Cond.holds, Cond.value, h1, h2, h3, h4, g1, g2, g3, g4, g5, g6]
def isCode : Jvm.Cond → Bool
  | .code _ _ _ _ => true
  | _ => false
theorem all_split {L : List Jvm.Cond} {P : Jvm.Cond → Bool} (h1 : L.all (fun c => isCode c || P c) = true) (h2 : ∀ c ∈ L.filter isCode, P c = true) : L.all P = true := by
  refine List.all_eq_true.mpr fun c hc => ?_
  have h := List.all_eq_true.mp h1 c hc
  rcases Bool.eq_false_or_eq_true (isCode c) with hi | hi
  · exact h2 c (List.mem_filter.mpr ⟨hc, hi⟩)
  · simpa [hi] using h
set_option maxRecDepth 65536 in
theorem w_c0 : (Jvm.Cond.code x code maxLocals ret).before args0 about1 = true := code_word (m := ⟨1, 1⟩) (meth := k1m1) (c := k1c1) (by decide +kernel) rfl rfl rfl (by decide +kernel)
set_option maxRecDepth 65536 in
theorem w_c1 : (Jvm.Cond.code ({ cls := "com/example/known_paths/knownpaths/key/KeyRange", name := "<init>", desc := "([B[B)V" } : Jvm.MethodName) prog_10_method_1_code (3 : Nat) (Option.none : Option Jvm.ClassFile.FieldType)).before args0 about1 = true := code_word (m := ⟨3, 0⟩) (meth := k3m0) (c := k3c0) (by decide +kernel) rfl rfl rfl (by decide +kernel)
set_option maxRecDepth 65536 in
theorem w_c2 : (Jvm.Cond.code ({ cls := "java/lang/Record", name := "<init>", desc := "()V" } : Jvm.MethodName) jdk_30_method_1_code (1 : Nat) (Option.none : Option Jvm.ClassFile.FieldType)).before args0 about1 = true := code_word (m := ⟨2, 0⟩) (meth := k2m0) (c := k2c0) (by decide +kernel) rfl rfl rfl (by decide +kernel)
set_option maxRecDepth 65536 in
theorem w_c3 : (Jvm.Cond.code ({ cls := "java/lang/Object", name := "<init>", desc := "()V" } : Jvm.MethodName) object_method_1_code (1 : Nat) (Option.none : Option Jvm.ClassFile.FieldType)).before args0 about1 = true := code_word (m := ⟨0, 0⟩) (meth := k0m0) (c := k0c0) (by decide +kernel) rfl rfl rfl (by decide +kernel)
set_option maxRecDepth 65536 in
theorem w_c4 : (Jvm.Cond.code ({ cls := "com/example/known_paths/knownpaths/key/KeyRange", name := "end", desc := "()[B" } : Jvm.MethodName) prog_10_method_4_code (3 : Nat) (Option.some (Jvm.ClassFile.FieldType.array Jvm.ClassFile.FieldType.byte))).before args0 about1 = true := code_word (m := ⟨3, 1⟩) (meth := k3m1) (c := k3c1) (by decide +kernel) rfl rfl rfl (by decide +kernel)
set_option maxRecDepth 65536 in
theorem w_c5 : (Jvm.Cond.code ({ cls := "java/util/Arrays", name := "copyOf", desc := "([BI)[B" } : Jvm.MethodName) jdk_65_method_121_code (3 : Nat) (Option.some (Jvm.ClassFile.FieldType.array Jvm.ClassFile.FieldType.byte))).before args0 about1 = true := code_word (m := ⟨4, 1⟩) (meth := k4m1) (c := k4c1) (by decide +kernel) rfl rfl rfl (by decide +kernel)
set_option maxRecDepth 65536 in
theorem w_c6 : (Jvm.Cond.code ({ cls := "java/lang/Math", name := "min", desc := "(II)I" } : Jvm.MethodName) jdk_29_method_69_code (2 : Nat) (Option.some Jvm.ClassFile.FieldType.int)).before args0 about1 = true := code_word (m := ⟨5, 1⟩) (meth := k5m1) (c := k5c1) (by decide +kernel) rfl rfl rfl (by decide +kernel)
def codes1 : List Jvm.Cond := [Jvm.Cond.code x code maxLocals ret, Jvm.Cond.code ({ cls := "com/example/known_paths/knownpaths/key/KeyRange", name := "<init>", desc := "([B[B)V" } : Jvm.MethodName) prog_10_method_1_code (3 : Nat) (Option.none : Option Jvm.ClassFile.FieldType), Jvm.Cond.code ({ cls := "java/lang/Record", name := "<init>", desc := "()V" } : Jvm.MethodName) jdk_30_method_1_code (1 : Nat) (Option.none : Option Jvm.ClassFile.FieldType), Jvm.Cond.code ({ cls := "java/lang/Object", name := "<init>", desc := "()V" } : Jvm.MethodName) object_method_1_code (1 : Nat) (Option.none : Option Jvm.ClassFile.FieldType), Jvm.Cond.code ({ cls := "com/example/known_paths/knownpaths/key/KeyRange", name := "end", desc := "()[B" } : Jvm.MethodName) prog_10_method_4_code (3 : Nat) (Option.some (Jvm.ClassFile.FieldType.array Jvm.ClassFile.FieldType.byte)), Jvm.Cond.code ({ cls := "java/util/Arrays", name := "copyOf", desc := "([BI)[B" } : Jvm.MethodName) jdk_65_method_121_code (3 : Nat) (Option.some (Jvm.ClassFile.FieldType.array Jvm.ClassFile.FieldType.byte)), Jvm.Cond.code ({ cls := "java/lang/Math", name := "min", desc := "(II)I" } : Jvm.MethodName) jdk_29_method_69_code (2 : Nat) (Option.some Jvm.ClassFile.FieldType.int)]
set_option maxRecDepth 65536 in
theorem codes_eq : words1.filter isCode = codes1 := rfl
theorem w_codes : ∀ c ∈ words1.filter isCode, c.before args0 about1 = true := by
  rw [codes_eq]
  intro c hc
  simp only [codes1, List.mem_cons, List.not_mem_nil, or_false] at hc
  rcases hc with rfl | rfl | rfl | rfl | rfl | rfl | rfl
  · exact w_c0
  · exact w_c1
  · exact w_c2
  · exact w_c3
  · exact w_c4
  · exact w_c5
  · exact w_c6
set_option maxRecDepth 65536 in
theorem w_t1 : (words1.take 24).all (fun c => isCode c || c.before args0 about1) = true := by decide +kernel
set_option maxRecDepth 65536 in
theorem w_t2 : (words1.drop 24).all (fun c => isCode c || c.before args0 about1) = true := by decide +kernel
theorem w_tables : (allAtoms (Jvm.Cond.code x code maxLocals ret :: tables_1)).before args0 about1 = true := by
  rw [allAtoms_all]
  show words1.all (fun c => c.before args0 about1) = true
  refine all_split ?_ w_codes
  rw [← List.take_append_drop 24 words1, List.all_append, w_t1, w_t2]
  rfl
set_option maxRecDepth 65536 in
theorem w_case : (Jvm.Cond.and given_1 narrow_1).before args0 about1 = true := by decide +kernel
theorem w_applies : (headSpec (Jvm.Cond.code x code maxLocals ret :: tables_1) room_1).applies x e0.platform about1 = true :=
  (Spec.applies_iff w_frames).mpr ⟨w_running, w_runnable, w_alone, w_named, w_hears, w_ripe, w_room, w_tables⟩
theorem atStart : AtStart classFile x code maxLocals ret World_1 tables_1 room_1 Calls_1 rest_1 Pre_1 launch0 p0 e0 about1 theMethod args0 below0 :=
  ⟨lists_1, trivial, launch0.admits_env _ _ _, launch0.least_env, fairChoices_fair.cas, fairChoices_fair.clock, w_frames, w_args, w_heap, w_applies, trivial, trivial, w_case⟩
end start1
theorem witness_1 : WitnessClaimed_1 := ⟨start1.p0, start1.e0, start1.about1, start1.theMethod, start1.args0, start1.below0, start1.atStart⟩
end Jvm.Pilot.@@N@@
