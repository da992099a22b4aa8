import JvmDerived
import JvmDerived.Pilot.@@N@@Statement
import JvmDerived.Pilot.@@N@@Code
set_option linter.unusedVariables false
set_option linter.unusedSimpArgs false
namespace Jvm.RoadKit
open Sem ClassFile Op Lib Jvm.Stand Jvm.Free Jvm.LawKit
section New
variable {p : Program} {l : Launch} {e : Env} {R : Room} {s : State} {m : MethodId} {args : Array Value} {below : List Frame} {meth : Method} {c : Code} {T : State} {locs : List Loc} {cells slots : Nat}
theorem retI (X : Stand p l e R s m args below meth c T locs cells slots) (hx : p.tables.exec = Jvm.exec) {pc : Nat} {Ls : Array Slot} {z : Int32} {rest : List Value} (hret : meth.sig.returnType = some .int) (hd : decode c.code pc = .ok (.ireturn, 1)) {fs : List Frame}
    (hl : ∀ (f : JFrame) (acts : List Action), f.method = m → f.locked = none → f.entered = [] → (doReturn e (T.setTop f) acts (some (.int z))).1 = T.setFrames fs) : Steps p.tables e below (T.setTop (mkF m pc Ls (.int z :: rest))) (T.setFrames fs) := by
  have hm' : T.vm.method? m = some meth := X.method'
  have hn : narrow .int (.int z) = .int z := rfl
  show Steps p.tables e below (T.setTop { method := m, pc := pc, locals := Ls, stack := _ :: rest, locked := none }) _
  jvm_step X.here [X.here.top, hx, hd, hm', hret, hn]
  first | (intro acts; rw [hl _ acts rfl rfl rfl]) | rw [hl _ _ rfl rfl rfl]
  exact Steps.refl _
end New
end Jvm.RoadKit
namespace Jvm.Pilot.@@N@@
open Jvm Jvm.ClassFile Sem Op Lib Jvm.Free Jvm.Stand Jvm.LawKit Jvm.RoadKit Bundle Jvm.Pilot.@@N@@.Jvm.D
/-- from U the run comes back to its caller; what it returns, the heap and the places written meet Q -/
def Goes (p : Program) (e : Env) (below : List Frame) (s : State) (Q : Option Value → Heap → List Loc → Prop) (C S : Nat) (U : State) : Prop :=
  ∃ s₂ o, Steps p.tables e below U s₂ ∧ s₂.status = .running ∧ Ended s₂ below o ∧ ∃ v L, o = .returned v ∧ Q v s₂.heap L ∧ FrameEnd s o s₂ L C S
section Own
variable {p : Program} {l : Launch} {e : Env} {R : Room} {s : State} {m : MethodId} {args : Array Value} {below : List Frame} {meth : Method} {c : Code} {T : State} {locs : List Loc} {cells slots : Nat} {Q : Option Value → Heap → List Loc → Prop} {C S : Nat} {U U' : State}
theorem Goes.pre (f : ∀ t, Steps p.tables e below U' t → Steps p.tables e below U t) (g : Goes p e below s Q C S U') : Goes p e below s Q C S U := by
  obtain ⟨s₂, o, h1, r⟩ := g
  exact ⟨s₂, o, f _ h1, r⟩
theorem Goes.enter {g g' : JFrame} (q : g = g') (h : Goes p e below s Q C S (U.setTop g')) : Goes p e below s Q C S (U.setTop g) := q ▸ h
theorem Goes.ret (X : Stand p l e R s m args below meth c T locs cells slots) {v : Option Value} (hv : meth.sig.returnType = none → v = none) (hlocks : meth.locks = false) (hc : cells ≤ C) (hs : slots ≤ S) {h : Heap} (eT : T.heap = h)
    (step : ∀ fs, (∀ (f : JFrame) (acts : List Action), f.method = m → f.locked = none → f.entered = [] → (doReturn e (T.setTop f) acts v).1 = T.setFrames fs) → Steps p.tables e below U (T.setFrames fs)) (q : Q v h locs) : Goes p e below s Q C S U := by
  obtain ⟨fs, hr, hrun, hended, hW, hsame⟩ := X.leave hv hlocks
  refine ⟨_, _, step fs hr, hrun, hended, _, _, rfl, ?_, ⟨_, rfl⟩, hW, hsame.mono hc hs⟩
  show Q v T.heap locs
  rw [eT]
  exact q
end Own
theorem own_lsw {tb : Tables} [Ours tb] {e : Env} {below : List Frame} {T target : State} {m : MethodId} {c : Code} {g : JFrame} (h : At T m c below) (hx : tb.exec = Jvm.exec) (hg : g.method = m) {dflt : Int} {prs : Array (Int × Int)} {len : Nat} {o : Int} {pc0 pc' : Nat} (hpc : g.pc = pc0) (hd : decode c.code g.pc = .ok (.lookupswitch dflt prs, len)) {i : Int32} {rest : List Value} (hs : g.stack = .int i :: rest)
    (hso : ∀ (a b a_1 b_1 : Int), ((a, b), a_1, b_1) ∈ prs.toList.zip prs.toList.tail → a < a_1) (hoff : lookupswitch.offset prs.toList dflt i.toInt = o) (ho : 0 ≤ (pc0 : Int) + o) (hp : ((pc0 : Int) + o).toNat = pc')
    (hr : Steps tb e below (T.setTop { g with pc := pc', stack := rest }) target) : Steps tb e below (T.setTop g) target := by
  subst hg hpc hp
  jvm_step h [h.top, hx, hd, hs, lookupswitch.wp_chain, hoff, ho]
  exact ⟨hso, hr⟩
theorem ef_rm_min (m : MethodId) (x0 : Int32) (x1 : Int32) : entryFrame m #[(.int x0), (.int x1)] 2 = mkF m 0 #[.val (.int x0), .val (.int x1)] [] := by first | (simp [entryFrame, mkF, argsToLocals, Value.category]; done) | rfl
theorem d1_0 : decode jdk_29_method_69_code 0 = .ok (.iload_n 0, 1) := by decide +kernel
theorem d1_1 : decode jdk_29_method_69_code 1 = .ok (.iload_n 1, 1) := by decide +kernel
theorem d1_2 : decode jdk_29_method_69_code 2 = .ok (.if_icmp .gt 7, 3) := by decide +kernel
theorem d1_9 : decode jdk_29_method_69_code 9 = .ok (.iload_n 1, 1) := by decide +kernel
theorem d1_10 : decode jdk_29_method_69_code 10 = .ok (.ireturn, 1) := by decide +kernel
theorem d1_5 : decode jdk_29_method_69_code 5 = .ok (.iload_n 0, 1) := by decide +kernel
theorem d1_6 : decode jdk_29_method_69_code 6 = .ok (.goto 4, 3) := by decide +kernel
def own_min (qa qb : Int32) : Int32 := (if qb < qa then qb else qa)
def Q_rm_min (Z : State) (qa qb : Int32) (h0 : Heap) (n0 : Nat) (v : Option Value) (h : Heap) (L : List Loc) : Prop := v = some (.int (own_min qa qb)) ∧ Fr n0 L ∧ h = h0
set_option maxRecDepth 65536 in
set_option maxHeartbeats 40000000 in
theorem rm_min (l : Launch) (Z : State) (a0 : Array Value) (hw : ∀ d ∈ tables_1, d.before a0 Z = true) (ws : List Jvm.Cond) (qa qb : Int32) (h0 : Heap) (n0 : Nat) (Z0 : n0 ≤ h0.size)  :
    MetFree l (⟨"java/lang/Math", "min", "(II)I"⟩ : MethodName) (head1 (Jvm.Cond.code (⟨"java/lang/Math", "min", "(II)I"⟩ : MethodName) jdk_29_method_69_code 2 (some .int) :: ws) ({ frames := 0, cells := 0, slots := 0, locals := 0 } : Room)) (fun argv U => argv = #[(.int qa), (.int qb)] ∧ Z.Warmed39 U.vm ∧ U.heap = h0) (fun _ _ _ _ _ => True) (fun _ U o U' => ∃ v L, o = .returned v ∧ Q_rm_min Z qa qb h0 n0 v U'.heap L ∧ FrameEnd U o U' L ({ frames := 0, cells := 0, slots := 0, locals := 0 } : Room).cells ({ frames := 0, cells := 0, slots := 0, locals := 0 } : Room).slots) := by
  refine MetFree.of_bodySF (Jvm.Free.JP.mathPlain rfl (by decide +kernel)) hisR ?_
  intro p e s m args below meth c s₁ Bd hml0 hP hK
  obtain ⟨rfl, hZ, hh⟩ := hP
  have hx := Bd.exec
  have hby := Bd.bytes
  have hml : c.maxLocals = 2 := hml0
  have hown : s.vm.findClass "java/lang/Math" = some m.cls := findClass_of_methodNamed Bd.named
  have hnm := (name_of_methodNamed Bd.named Bd.method).1
  have X0 : Stand p l e ({ frames := 0, cells := 0, slots := 0, locals := 0 } : Room) s m #[(.int qa), (.int qb)] below meth c s₁ [] 0 0 := Stand.of_body Bd
  have e0 : s₁.heap = h0 := by rw [← hh, Bd.state]; rfl
  have N0 := Fr.nil n0
  refine Goes.enter (Q := fun v h L => Q_rm_min Z qa qb h0 n0 v h L) (C := ({ frames := 0, cells := 0, slots := 0, locals := 0 } : Room).cells) (S := ({ frames := 0, cells := 0, slots := 0, locals := 0 } : Room).slots) (ef_rm_min m qa qb) ?_
  show Goes p e below s _ _ _ (s₁.setTop (mkF m 0 #[.val (.int qa), .val (.int qb)] []))
  refine Goes.pre (U' := s₁.setTop (mkF m 1 #[.val (.int qa), .val (.int qb)] [(.int qa)])) (fun t k => XS.iloadN X0.here hx rfl (hb hby d1_0) rfl k) ?_
  refine Goes.pre (U' := s₁.setTop (mkF m 2 #[.val (.int qa), .val (.int qb)] [(.int qb), (.int qa)])) (fun t k => XS.iloadN X0.here hx rfl (hb hby d1_1) rfl k) ?_
  by_cases hc2 : qb < qa
  ·
    refine Goes.pre (U' := s₁.setTop (mkF m 9 #[.val (.int qa), .val (.int qb)] [])) (fun t k => XS.icmpYes X0.here hx rfl (pc0 := 2) (pc' := 9) rfl (hb hby d1_2) rfl (tlt hc2).2.2.1 (by decide) (by decide) k) ?_
    refine Goes.pre (U' := s₁.setTop (mkF m 10 #[.val (.int qa), .val (.int qb)] [(.int qb)])) (fun t k => XS.iloadN X0.here hx rfl (hb hby d1_9) rfl k) ?_
    refine Goes.ret X0 (v := (some (.int qb))) (fun h => by rw [Bd.returns] at h; cases h) Bd.notSynchronized (by decide) (by decide) e0 (fun fs hr => retI X0 hx Bd.returns (hb hby d1_10) hr) ?_
    exact ⟨congrArg (fun z => some (Value.int z)) (show qb = own_min qa qb from (show own_min qa qb = qb from by unfold own_min; rw [if_pos hc2]).symm), N0, rfl⟩
  ·
    refine Goes.pre (U' := s₁.setTop (mkF m 5 #[.val (.int qa), .val (.int qb)] [])) (fun t k => XS.icmpNo X0.here hx rfl (hb hby d1_2) rfl (flt hc2).2.2.1 k) ?_
    refine Goes.pre (U' := s₁.setTop (mkF m 6 #[.val (.int qa), .val (.int qb)] [(.int qa)])) (fun t k => XS.iloadN X0.here hx rfl (hb hby d1_5) rfl k) ?_
    refine Goes.pre (U' := s₁.setTop (mkF m 10 #[.val (.int qa), .val (.int qb)] [(.int qa)])) (fun t k => XS.goto X0.here hx rfl (pc0 := 6) (pc' := 10) rfl (hb hby d1_6) (by decide) (by decide) k) ?_
    refine Goes.ret X0 (v := (some (.int qa))) (fun h => by rw [Bd.returns] at h; cases h) Bd.notSynchronized (by decide) (by decide) e0 (fun fs hr => retI X0 hx Bd.returns (hb hby d1_10) hr) ?_
    exact ⟨congrArg (fun z => some (Value.int z)) (show qa = own_min qa qb from (show own_min qa qb = qa from by unfold own_min; rw [if_neg hc2]).symm), N0, rfl⟩
theorem ef_rm_max (m : MethodId) (x0 : Int32) (x1 : Int32) : entryFrame m #[(.int x0), (.int x1)] 2 = mkF m 0 #[.val (.int x0), .val (.int x1)] [] := by first | (simp [entryFrame, mkF, argsToLocals, Value.category]; done) | rfl
theorem d2_0 : decode jdk_29_method_65_code 0 = .ok (.iload_n 0, 1) := by decide +kernel
theorem d2_1 : decode jdk_29_method_65_code 1 = .ok (.iload_n 1, 1) := by decide +kernel
theorem d2_2 : decode jdk_29_method_65_code 2 = .ok (.if_icmp .lt 7, 3) := by decide +kernel
theorem d2_9 : decode jdk_29_method_65_code 9 = .ok (.iload_n 1, 1) := by decide +kernel
theorem d2_10 : decode jdk_29_method_65_code 10 = .ok (.ireturn, 1) := by decide +kernel
theorem d2_5 : decode jdk_29_method_65_code 5 = .ok (.iload_n 0, 1) := by decide +kernel
theorem d2_6 : decode jdk_29_method_65_code 6 = .ok (.goto 4, 3) := by decide +kernel
def own_max (qa qb : Int32) : Int32 := (if qa < qb then qb else qa)
def Q_rm_max (Z : State) (qa qb : Int32) (h0 : Heap) (n0 : Nat) (v : Option Value) (h : Heap) (L : List Loc) : Prop := v = some (.int (own_max qa qb)) ∧ Fr n0 L ∧ h = h0
set_option maxRecDepth 65536 in
set_option maxHeartbeats 40000000 in
theorem rm_max (l : Launch) (Z : State) (a0 : Array Value) (hw : ∀ d ∈ tables_1, d.before a0 Z = true) (ws : List Jvm.Cond) (qa qb : Int32) (h0 : Heap) (n0 : Nat) (Z0 : n0 ≤ h0.size)  :
    MetFree l (⟨"java/lang/Math", "max", "(II)I"⟩ : MethodName) (head1 (Jvm.Cond.code (⟨"java/lang/Math", "max", "(II)I"⟩ : MethodName) jdk_29_method_65_code 2 (some .int) :: ws) ({ frames := 0, cells := 0, slots := 0, locals := 0 } : Room)) (fun argv U => argv = #[(.int qa), (.int qb)] ∧ Z.Warmed39 U.vm ∧ U.heap = h0) (fun _ _ _ _ _ => True) (fun _ U o U' => ∃ v L, o = .returned v ∧ Q_rm_max Z qa qb h0 n0 v U'.heap L ∧ FrameEnd U o U' L ({ frames := 0, cells := 0, slots := 0, locals := 0 } : Room).cells ({ frames := 0, cells := 0, slots := 0, locals := 0 } : Room).slots) := by
  refine MetFree.of_bodySF (Jvm.Free.JP.mathPlain rfl (by decide +kernel)) hisR ?_
  intro p e s m args below meth c s₁ Bd hml0 hP hK
  obtain ⟨rfl, hZ, hh⟩ := hP
  have hx := Bd.exec
  have hby := Bd.bytes
  have hml : c.maxLocals = 2 := hml0
  have hown : s.vm.findClass "java/lang/Math" = some m.cls := findClass_of_methodNamed Bd.named
  have hnm := (name_of_methodNamed Bd.named Bd.method).1
  have X0 : Stand p l e ({ frames := 0, cells := 0, slots := 0, locals := 0 } : Room) s m #[(.int qa), (.int qb)] below meth c s₁ [] 0 0 := Stand.of_body Bd
  have e0 : s₁.heap = h0 := by rw [← hh, Bd.state]; rfl
  have N0 := Fr.nil n0
  refine Goes.enter (Q := fun v h L => Q_rm_max Z qa qb h0 n0 v h L) (C := ({ frames := 0, cells := 0, slots := 0, locals := 0 } : Room).cells) (S := ({ frames := 0, cells := 0, slots := 0, locals := 0 } : Room).slots) (ef_rm_max m qa qb) ?_
  show Goes p e below s _ _ _ (s₁.setTop (mkF m 0 #[.val (.int qa), .val (.int qb)] []))
  refine Goes.pre (U' := s₁.setTop (mkF m 1 #[.val (.int qa), .val (.int qb)] [(.int qa)])) (fun t k => XS.iloadN X0.here hx rfl (hb hby d2_0) rfl k) ?_
  refine Goes.pre (U' := s₁.setTop (mkF m 2 #[.val (.int qa), .val (.int qb)] [(.int qb), (.int qa)])) (fun t k => XS.iloadN X0.here hx rfl (hb hby d2_1) rfl k) ?_
  by_cases hc2 : qa < qb
  ·
    refine Goes.pre (U' := s₁.setTop (mkF m 9 #[.val (.int qa), .val (.int qb)] [])) (fun t k => XS.icmpYes X0.here hx rfl (pc0 := 2) (pc' := 9) rfl (hb hby d2_2) rfl (tlt hc2).1 (by decide) (by decide) k) ?_
    refine Goes.pre (U' := s₁.setTop (mkF m 10 #[.val (.int qa), .val (.int qb)] [(.int qb)])) (fun t k => XS.iloadN X0.here hx rfl (hb hby d2_9) rfl k) ?_
    refine Goes.ret X0 (v := (some (.int qb))) (fun h => by rw [Bd.returns] at h; cases h) Bd.notSynchronized (by decide) (by decide) e0 (fun fs hr => retI X0 hx Bd.returns (hb hby d2_10) hr) ?_
    exact ⟨congrArg (fun z => some (Value.int z)) (show qb = own_max qa qb from (show own_max qa qb = qb from by unfold own_max; rw [if_pos hc2]).symm), N0, rfl⟩
  ·
    refine Goes.pre (U' := s₁.setTop (mkF m 5 #[.val (.int qa), .val (.int qb)] [])) (fun t k => XS.icmpNo X0.here hx rfl (hb hby d2_2) rfl (flt hc2).1 k) ?_
    refine Goes.pre (U' := s₁.setTop (mkF m 6 #[.val (.int qa), .val (.int qb)] [(.int qa)])) (fun t k => XS.iloadN X0.here hx rfl (hb hby d2_5) rfl k) ?_
    refine Goes.pre (U' := s₁.setTop (mkF m 10 #[.val (.int qa), .val (.int qb)] [(.int qa)])) (fun t k => XS.goto X0.here hx rfl (pc0 := 6) (pc' := 10) rfl (hb hby d2_6) (by decide) (by decide) k) ?_
    refine Goes.ret X0 (v := (some (.int qa))) (fun h => by rw [Bd.returns] at h; cases h) Bd.notSynchronized (by decide) (by decide) e0 (fun fs hr => retI X0 hx Bd.returns (hb hby d2_10) hr) ?_
    exact ⟨congrArg (fun z => some (Value.int z)) (show qa = own_max qa qb from (show own_max qa qb = qa from by unfold own_max; rw [if_neg hc2]).symm), N0, rfl⟩
theorem ef_rm_record (m : MethodId) (x0 : Addr) : entryFrame m #[(.ref x0)] 1 = mkF m 0 #[.val (.ref x0)] [] := by first | (simp [entryFrame, mkF, argsToLocals, Value.category]; done) | rfl
theorem pn_java_lang_Record : plainName "java/lang/Record" = true := by first | (simp [plainName, overriddenIn]; done) | decide +kernel
theorem d4_0 : decode jdk_30_method_1_code 0 = .ok (.aload_n 0, 1) := by decide +kernel
theorem d4_1 : decode jdk_30_method_1_code 1 = .ok (.invokespecial 1, 3) := by decide +kernel
theorem d4_4 : decode jdk_30_method_1_code 4 = .ok (.return_, 1) := by decide +kernel
def Q_rm_record (Z : State) (a : Addr) (h0 : Heap) (n0 : Nat) (v : Option Value) (h : Heap) (L : List Loc) : Prop := v = none ∧ Fr n0 L ∧ h = h0
set_option maxRecDepth 65536 in
set_option maxHeartbeats 40000000 in
theorem rm_record (l : Launch) (Z : State) (a0 : Array Value) (hw : ∀ d ∈ tables_1, d.before a0 Z = true) (ws : List Jvm.Cond) (a : Addr) (h0 : Heap) (n0 : Nat) (Z0 : n0 ≤ h0.size)  :
    MetFree l (⟨"java/lang/Record", "<init>", "()V"⟩ : MethodName) (head1 (Jvm.Cond.code (⟨"java/lang/Record", "<init>", "()V"⟩ : MethodName) jdk_30_method_1_code 1 none :: ws) ({ frames := 1, cells := 0, slots := 0, locals := 12 } : Room)) (fun argv U => argv = #[(.ref a)] ∧ Z.Warmed39 U.vm ∧ U.heap = h0) (fun _ _ _ _ _ => True) (fun _ U o U' => ∃ v L, o = .returned v ∧ Q_rm_record Z a h0 n0 v U'.heap L ∧ FrameEnd U o U' L ({ frames := 1, cells := 0, slots := 0, locals := 12 } : Room).cells ({ frames := 1, cells := 0, slots := 0, locals := 12 } : Room).slots) := by
  refine MetFree.of_bodySF (plainFor_of_name pn_java_lang_Record) hisR ?_
  intro p e s m args below meth c s₁ Bd hml0 hP hK
  obtain ⟨rfl, hZ, hh⟩ := hP
  have hx := Bd.exec
  have hby := Bd.bytes
  have hml : c.maxLocals = 1 := hml0
  have hown : s.vm.findClass "java/lang/Record" = some m.cls := findClass_of_methodNamed Bd.named
  have hnm := (name_of_methodNamed Bd.named Bd.method).1
  have X0 : Stand p l e ({ frames := 1, cells := 0, slots := 0, locals := 12 } : Room) s m #[(.ref a)] below meth c s₁ [] 0 0 := Stand.of_body Bd
  have e0 : s₁.heap = h0 := by rw [← hh, Bd.state]; rfl
  have N0 := Fr.nil n0
  refine Goes.enter (Q := fun v h L => Q_rm_record Z a h0 n0 v h L) (C := ({ frames := 1, cells := 0, slots := 0, locals := 12 } : Room).cells) (S := ({ frames := 1, cells := 0, slots := 0, locals := 12 } : Room).slots) (ef_rm_record m a) ?_
  show Goes p e below s _ _ _ (s₁.setTop (mkF m 0 #[.val (.ref a)] []))
  refine Goes.pre (U' := s₁.setTop (mkF m 1 #[.val (.ref a)] [(.ref a)])) (fun t k => XS.aloadN X0.here hx rfl (hb hby d4_0) rfl rfl k) ?_
  obtain ⟨T1, X1, e1, st1⟩ := initO X0 hx hZ hown (hw _ (List.mem_of_getElem? (i := 18) rfl)) (hw _ (List.mem_of_getElem? (i := 19) rfl)) (hw _ (List.mem_of_getElem? (i := 20) rfl)) e0 (g := (mkF m 1 #[.val (.ref a)] [(.ref a)])) rfl (by rw [hml]; rfl) rfl (hb hby d4_1) (by decide) (W := 0) (by show 2 * 0 + _ ≤ _; exact Nat.le_of_eq rfl) (by decide)
  refine Goes.pre (U' := T1.setTop (mkF m 4 #[.val (.ref a)] [])) (fun t k => st1 t k) ?_
  refine Goes.ret X1 (v := none) (fun _ => rfl) Bd.notSynchronized (by decide) (by decide) e1 (fun fs hr => X1.returnOut hx Bd.returns (hb hby d4_4) hr) ?_
  exact ⟨rfl, N0, rfl⟩
theorem ef_rm_init (m : MethodId) (x0 : Addr) (x1 : Int32) (x2 : Int32) : entryFrame m #[(.ref x0), (.int x1), (.int x2)] 3 = mkF m 0 #[.val (.ref x0), .val (.int x1), .val (.int x2)] [] := by first | (simp [entryFrame, mkF, argsToLocals, Value.category]; done) | rfl
theorem pn_com_example_midstroke_midstroke_engine_LooseRewrite_Made : plainName "com/example/midstroke/midstroke/engine/LooseRewrite$Made" = true := by first | (simp [plainName, overriddenIn]; done) | decide +kernel
theorem d3_0 : decode prog_8_method_1_code 0 = .ok (.aload_n 0, 1) := by decide +kernel
theorem d3_1 : decode prog_8_method_1_code 1 = .ok (.invokespecial 1, 3) := by decide +kernel
theorem pd__28_29V : parseMethodDescriptor "()V" = some ⟨[], none⟩ := by decide +kernel
theorem d3_4 : decode prog_8_method_1_code 4 = .ok (.aload_n 0, 1) := by decide +kernel
theorem d3_5 : decode prog_8_method_1_code 5 = .ok (.iload_n 1, 1) := by decide +kernel
theorem d3_6 : decode prog_8_method_1_code 6 = .ok (.putfield 7, 3) := by decide +kernel
theorem d3_9 : decode prog_8_method_1_code 9 = .ok (.aload_n 0, 1) := by decide +kernel
theorem d3_10 : decode prog_8_method_1_code 10 = .ok (.iload_n 2, 1) := by decide +kernel
theorem d3_11 : decode prog_8_method_1_code 11 = .ok (.putfield 13, 3) := by decide +kernel
theorem d3_14 : decode prog_8_method_1_code 14 = .ok (.return_, 1) := by decide +kernel
def Q_rm_init (Z : State) (a : Addr) (qs : Int32) (qe : Int32) (h0 : Heap) (n0 : Nat) (v : Option Value) (h : Heap) (L : List Loc) : Prop := v = none ∧ Fr n0 L ∧ Keep h0 h [a] ∧ Fld Z h a "com/example/midstroke/midstroke/engine/LooseRewrite$Made" "start" "I" (.int qs) ∧ Fld Z h a "com/example/midstroke/midstroke/engine/LooseRewrite$Made" "end" "I" (.int qe)
set_option maxRecDepth 65536 in
set_option maxHeartbeats 40000000 in
theorem rm_init (l : Launch) (Z : State) (a0 : Array Value) (hw : ∀ d ∈ tables_1, d.before a0 Z = true) (ws : List Jvm.Cond) (a : Addr) (qs : Int32) (qe : Int32) (h0 : Heap) (n0 : Nat) (Z0 : n0 ≤ h0.size) (E_a : Exa Z h0 a "com/example/midstroke/midstroke/engine/LooseRewrite$Made") (F_start_a : Fld Z h0 a "com/example/midstroke/midstroke/engine/LooseRewrite$Made" "start" "I" (.int (0 : Int32))) (F_end_a : Fld Z h0 a "com/example/midstroke/midstroke/engine/LooseRewrite$Made" "end" "I" (.int (0 : Int32))) (g_a : n0 ≤ a) :
    MetFree l (⟨"com/example/midstroke/midstroke/engine/LooseRewrite$Made", "<init>", "(II)V"⟩ : MethodName) (head1 (Jvm.Cond.code (⟨"com/example/midstroke/midstroke/engine/LooseRewrite$Made", "<init>", "(II)V"⟩ : MethodName) prog_8_method_1_code 3 none :: ws) ({ frames := 2, cells := 0, slots := 0, locals := 24 } : Room)) (fun argv U => argv = #[(.ref a), (.int qs), (.int qe)] ∧ Z.Warmed39 U.vm ∧ U.heap = h0) (fun _ _ _ _ _ => True) (fun _ U o U' => ∃ v L, o = .returned v ∧ Q_rm_init Z a qs qe h0 n0 v U'.heap L ∧ FrameEnd U o U' L ({ frames := 2, cells := 0, slots := 0, locals := 24 } : Room).cells ({ frames := 2, cells := 0, slots := 0, locals := 24 } : Room).slots) := by
  refine MetFree.of_bodySF (plainFor_of_name pn_com_example_midstroke_midstroke_engine_LooseRewrite_Made) hisR ?_
  intro p e s m args below meth c s₁ Bd hml0 hP hK
  obtain ⟨rfl, hZ, hh⟩ := hP
  have hx := Bd.exec
  have hby := Bd.bytes
  have hml : c.maxLocals = 3 := hml0
  have hown : s.vm.findClass "com/example/midstroke/midstroke/engine/LooseRewrite$Made" = some m.cls := findClass_of_methodNamed Bd.named
  have hnm := (name_of_methodNamed Bd.named Bd.method).1
  have X0 : Stand p l e ({ frames := 2, cells := 0, slots := 0, locals := 24 } : Room) s m #[(.ref a), (.int qs), (.int qe)] below meth c s₁ [] 0 0 := Stand.of_body Bd
  have e0 : s₁.heap = h0 := by rw [← hh, Bd.state]; rfl
  have N0 := Fr.nil n0
  have K0 := Keep.refl h0 [a]
  refine Goes.enter (Q := fun v h L => Q_rm_init Z a qs qe h0 n0 v h L) (C := ({ frames := 2, cells := 0, slots := 0, locals := 24 } : Room).cells) (S := ({ frames := 2, cells := 0, slots := 0, locals := 24 } : Room).slots) (ef_rm_init m a qs qe) ?_
  show Goes p e below s _ _ _ (s₁.setTop (mkF m 0 #[.val (.ref a), .val (.int qs), .val (.int qe)] []))
  refine Goes.pre (U' := s₁.setTop (mkF m 1 #[.val (.ref a), .val (.int qs), .val (.int qe)] [(.ref a)])) (fun t k => XS.aloadN X0.here hx rfl (hb hby d3_0) rfl rfl k) ?_
  obtain ⟨_, _, ⟨T1, L1, k1, n1⟩, -, X1, ⟨Lc1, hQ1, l1, y1, z1⟩, st1⟩ := X0.specialBack hx (y := (⟨"java/lang/Record", "<init>", "()V"⟩ : MethodName)) rfl hown (mvT hZ (hw _ (List.mem_of_getElem? (i := 13) rfl))) (mvT hZ (hw _ (List.mem_of_getElem? (i := 14) rfl))) (mvT hZ (hw _ (List.mem_of_getElem? (i := 17) rfl))) (by decide) (backOf (W := 0) (rm_record l Z a0 hw [] a h0 n0 Z0) hZ (hw _ (List.mem_of_getElem? (i := 17) rfl)) (hw _ (List.mem_of_getElem? (i := 16) rfl)) (by decide) (by decide)) (g := (mkF m 1 #[.val (.ref a), .val (.int qs), .val (.int qe)] [(.ref a)])) rfl (by rw [hml]; rfl) (Steps.refl _) (a := a) (argsL := []) (rest := []) (lenOf pd__28_29V rfl) rfl (by show 2 * 0 + _ ≤ _; exact Nat.le_of_eq rfl) (hb hby d3_1) (fun _ _ => ⟨rfl, e0, (by decide : 0 + 0 ≤ _), (by decide : 0 + 0 ≤ _)⟩)
  dsimp only [Pt.U, Pt.locs, Pt.cells, Pt.slots] at X1 l1 y1 z1 st1 hQ1
  subst l1 y1 z1
  obtain ⟨rfl, N1q, HQ1⟩ := hQ1
  have N1 := Fr.app N0 N1q
  refine Goes.pre (U' := T1.setTop (mkF m 4 #[.val (.ref a), .val (.int qs), .val (.int qe)] [])) (fun t k => st1.trans k) ?_
  refine Goes.pre (U' := T1.setTop (mkF m 5 #[.val (.ref a), .val (.int qs), .val (.int qe)] [(.ref a)])) (fun t k => XS.aloadN X1.here hx rfl (hb hby d3_4) rfl rfl k) ?_
  refine Goes.pre (U' := T1.setTop (mkF m 6 #[.val (.ref a), .val (.int qs), .val (.int qe)] [(.int qs), (.ref a)])) (fun t k => XS.iloadN X1.here hx rfl (hb hby d3_5) rfl k) ?_
  obtain ⟨T2, h2, X2, e2, W2, st2⟩ := putF X1 hx hZ hown (host := "") (Or.inl (hw _ (List.mem_of_getElem? (i := 21) rfl))) Via.refl HQ1 F_start_a E_a (Or.inr ⟨(hw _ (List.mem_of_getElem? (i := 22) rfl)), rfl, hnm⟩) (hw _ (List.mem_of_getElem? (i := 8) rfl)) (ty := .int) (by decide) rfl rfl (g := (mkF m 6 #[.val (.ref a), .val (.int qs), .val (.int qe)] [(.int qs), (.ref a)])) rfl rfl (hb hby d3_6)
  have E_a := E_a.wr W2
  have F_end_a := F_end_a.other W2 (Or.inr (slot_ne (Or.inr (hw _ (List.mem_of_getElem? (i := 24) rfl))) (Or.inr (hw _ (List.mem_of_getElem? (i := 22) rfl))) (by decide) (t := .int) (t' := .int) (by decide) (by decide)))
  have Z2 : n0 ≤ h2.size := Nat.le_trans Z0 (Keep.of_wr W2).1
  have F_start_a := F_start_a.same W2
  have K2 := K0.wr W2 (Or.inl (List.mem_of_getElem? (i := 0) rfl))
  have N2 := Fr.snoc X2 N1 g_a
  refine Goes.pre (U' := T2.setTop (mkF m 9 #[.val (.ref a), .val (.int qs), .val (.int qe)] [])) (fun t k => st2 t k) ?_
  refine Goes.pre (U' := T2.setTop (mkF m 10 #[.val (.ref a), .val (.int qs), .val (.int qe)] [(.ref a)])) (fun t k => XS.aloadN X2.here hx rfl (hb hby d3_9) rfl rfl k) ?_
  refine Goes.pre (U' := T2.setTop (mkF m 11 #[.val (.ref a), .val (.int qs), .val (.int qe)] [(.int qe), (.ref a)])) (fun t k => XS.iloadN X2.here hx rfl (hb hby d3_10) rfl k) ?_
  obtain ⟨T3, h3, X3, e3, W3, st3⟩ := putF X2 hx hZ hown (host := "") (Or.inl (hw _ (List.mem_of_getElem? (i := 23) rfl))) Via.refl e2 F_end_a E_a (Or.inr ⟨(hw _ (List.mem_of_getElem? (i := 24) rfl)), rfl, hnm⟩) (hw _ (List.mem_of_getElem? (i := 8) rfl)) (ty := .int) (by decide) rfl rfl (g := (mkF m 11 #[.val (.ref a), .val (.int qs), .val (.int qe)] [(.int qe), (.ref a)])) rfl rfl (hb hby d3_11)
  have E_a := E_a.wr W3
  have F_start_a := F_start_a.other W3 (Or.inr (slot_ne (Or.inr (hw _ (List.mem_of_getElem? (i := 22) rfl))) (Or.inr (hw _ (List.mem_of_getElem? (i := 24) rfl))) (by decide) (t := .int) (t' := .int) (by decide) (by decide)))
  have Z3 : n0 ≤ h3.size := Nat.le_trans Z2 (Keep.of_wr W3).1
  have F_end_a := F_end_a.same W3
  have K3 := K2.wr W3 (Or.inl (List.mem_of_getElem? (i := 0) rfl))
  have N3 := Fr.snoc X3 N2 g_a
  refine Goes.pre (U' := T3.setTop (mkF m 14 #[.val (.ref a), .val (.int qs), .val (.int qe)] [])) (fun t k => st3 t k) ?_
  refine Goes.ret X3 (v := none) (fun _ => rfl) Bd.notSynchronized (by decide) (by decide) e3 (fun fs hr => X3.returnOut hx Bd.returns (hb hby d3_14) hr) ?_
  exact ⟨rfl, N3, K3, F_start_a, F_end_a⟩
theorem ef_rm_meets (m : MethodId) (x0 : Addr) (x1 : Int32) (x2 : Int32) : entryFrame m #[(.ref x0), (.int x1), (.int x2)] 3 = mkF m 0 #[.val (.ref x0), .val (.int x1), .val (.int x2)] [] := by first | (simp [entryFrame, mkF, argsToLocals, Value.category]; done) | rfl
theorem d6_0 : decode prog_8_method_2_code 0 = .ok (.iload_n 1, 1) := by decide +kernel
theorem d6_1 : decode prog_8_method_2_code 1 = .ok (.aload_n 0, 1) := by decide +kernel
theorem d6_2 : decode prog_8_method_2_code 2 = .ok (.getfield 13, 3) := by decide +kernel
theorem d6_5 : decode prog_8_method_2_code 5 = .ok (.if_icmp .ge 15, 3) := by decide +kernel
theorem d6_8 : decode prog_8_method_2_code 8 = .ok (.iload_n 2, 1) := by decide +kernel
theorem d6_9 : decode prog_8_method_2_code 9 = .ok (.aload_n 0, 1) := by decide +kernel
theorem d6_10 : decode prog_8_method_2_code 10 = .ok (.getfield 7, 3) := by decide +kernel
theorem d6_13 : decode prog_8_method_2_code 13 = .ok (.if_icmp .le 7, 3) := by decide +kernel
theorem d6_16 : decode prog_8_method_2_code 16 = .ok (.iconst 1, 1) := by decide +kernel
theorem d6_17 : decode prog_8_method_2_code 17 = .ok (.goto 4, 3) := by decide +kernel
theorem d6_21 : decode prog_8_method_2_code 21 = .ok (.ireturn, 1) := by decide +kernel
theorem d6_20 : decode prog_8_method_2_code 20 = .ok (.iconst 0, 1) := by decide +kernel
def own_meets (qf qt qs qe : Int32) : Int32 := (if qf < qe then (if qs < qt then (1 : Int32) else (0 : Int32)) else (0 : Int32))
def Q_rm_meets (Z : State) (a : Addr) (qf qt qs qe : Int32) (h0 : Heap) (n0 : Nat) (v : Option Value) (h : Heap) (L : List Loc) : Prop := v = some (.int (own_meets qf qt qs qe)) ∧ Fr n0 L ∧ h = h0
set_option maxRecDepth 65536 in
set_option maxHeartbeats 40000000 in
theorem rm_meets (l : Launch) (Z : State) (a0 : Array Value) (hw : ∀ d ∈ tables_1, d.before a0 Z = true) (ws : List Jvm.Cond) (a : Addr) (qf qt qs qe : Int32) (h0 : Heap) (n0 : Nat) (Z0 : n0 ≤ h0.size) (F_start_a : Fld Z h0 a "com/example/midstroke/midstroke/engine/LooseRewrite$Made" "start" "I" (.int qs)) (F_end_a : Fld Z h0 a "com/example/midstroke/midstroke/engine/LooseRewrite$Made" "end" "I" (.int qe)) :
    MetFree l (⟨"com/example/midstroke/midstroke/engine/LooseRewrite$Made", "meets", "(II)Z"⟩ : MethodName) (head1 (Jvm.Cond.code (⟨"com/example/midstroke/midstroke/engine/LooseRewrite$Made", "meets", "(II)Z"⟩ : MethodName) prog_8_method_2_code 3 (some .boolean) :: ws) ({ frames := 0, cells := 0, slots := 0, locals := 0 } : Room)) (fun argv U => argv = #[(.ref a), (.int qf), (.int qt)] ∧ Z.Warmed39 U.vm ∧ U.heap = h0) (fun _ _ _ _ _ => True) (fun _ U o U' => ∃ v L, o = .returned v ∧ Q_rm_meets Z a qf qt qs qe h0 n0 v U'.heap L ∧ FrameEnd U o U' L ({ frames := 0, cells := 0, slots := 0, locals := 0 } : Room).cells ({ frames := 0, cells := 0, slots := 0, locals := 0 } : Room).slots) := by
  refine MetFree.of_bodySF (plainFor_of_name pn_com_example_midstroke_midstroke_engine_LooseRewrite_Made) hisR ?_
  intro p e s m args below meth c s₁ Bd hml0 hP hK
  obtain ⟨rfl, hZ, hh⟩ := hP
  have hx := Bd.exec
  have hby := Bd.bytes
  have hml : c.maxLocals = 3 := hml0
  have hown : s.vm.findClass "com/example/midstroke/midstroke/engine/LooseRewrite$Made" = some m.cls := findClass_of_methodNamed Bd.named
  have hnm := (name_of_methodNamed Bd.named Bd.method).1
  have X0 : Stand p l e ({ frames := 0, cells := 0, slots := 0, locals := 0 } : Room) s m #[(.ref a), (.int qf), (.int qt)] below meth c s₁ [] 0 0 := Stand.of_body Bd
  have e0 : s₁.heap = h0 := by rw [← hh, Bd.state]; rfl
  have N0 := Fr.nil n0
  refine Goes.enter (Q := fun v h L => Q_rm_meets Z a qf qt qs qe h0 n0 v h L) (C := ({ frames := 0, cells := 0, slots := 0, locals := 0 } : Room).cells) (S := ({ frames := 0, cells := 0, slots := 0, locals := 0 } : Room).slots) (ef_rm_meets m a qf qt) ?_
  show Goes p e below s _ _ _ (s₁.setTop (mkF m 0 #[.val (.ref a), .val (.int qf), .val (.int qt)] []))
  refine Goes.pre (U' := s₁.setTop (mkF m 1 #[.val (.ref a), .val (.int qf), .val (.int qt)] [(.int qf)])) (fun t k => XS.iloadN X0.here hx rfl (hb hby d6_0) rfl k) ?_
  refine Goes.pre (U' := s₁.setTop (mkF m 2 #[.val (.ref a), .val (.int qf), .val (.int qt)] [(.ref a), (.int qf)])) (fun t k => XS.aloadN X0.here hx rfl (hb hby d6_1) rfl rfl k) ?_
  obtain ⟨T1, X1, e1, st1⟩ := getF X0 hx hZ hown (host := "") (Or.inl (hw _ (List.mem_of_getElem? (i := 23) rfl))) Via.refl e0 F_end_a (g := (mkF m 2 #[.val (.ref a), .val (.int qf), .val (.int qt)] [(.ref a), (.int qf)])) rfl rfl (hb hby d6_2)
  refine Goes.pre (U' := T1.setTop (mkF m 5 #[.val (.ref a), .val (.int qf), .val (.int qt)] [(.int qe), (.int qf)])) (fun t k => st1 t k) ?_
  by_cases hc5 : qf < qe
  ·
    refine Goes.pre (U' := T1.setTop (mkF m 8 #[.val (.ref a), .val (.int qf), .val (.int qt)] [])) (fun t k => XS.icmpNo X1.here hx rfl (hb hby d6_5) rfl (tlt hc5).2.1 k) ?_
    refine Goes.pre (U' := T1.setTop (mkF m 9 #[.val (.ref a), .val (.int qf), .val (.int qt)] [(.int qt)])) (fun t k => XS.iloadN X1.here hx rfl (hb hby d6_8) rfl k) ?_
    refine Goes.pre (U' := T1.setTop (mkF m 10 #[.val (.ref a), .val (.int qf), .val (.int qt)] [(.ref a), (.int qt)])) (fun t k => XS.aloadN X1.here hx rfl (hb hby d6_9) rfl rfl k) ?_
    obtain ⟨T2, X2, e2, st2⟩ := getF X1 hx hZ hown (host := "") (Or.inl (hw _ (List.mem_of_getElem? (i := 21) rfl))) Via.refl e1 F_start_a (g := (mkF m 10 #[.val (.ref a), .val (.int qf), .val (.int qt)] [(.ref a), (.int qt)])) rfl rfl (hb hby d6_10)
    refine Goes.pre (U' := T2.setTop (mkF m 13 #[.val (.ref a), .val (.int qf), .val (.int qt)] [(.int qs), (.int qt)])) (fun t k => st2 t k) ?_
    by_cases hc13 : qs < qt
    ·
      refine Goes.pre (U' := T2.setTop (mkF m 16 #[.val (.ref a), .val (.int qf), .val (.int qt)] [])) (fun t k => XS.icmpNo X2.here hx rfl (hb hby d6_13) rfl (tlt hc13).2.2.2 k) ?_
      refine Goes.pre (U' := T2.setTop (mkF m 17 #[.val (.ref a), .val (.int qf), .val (.int qt)] [(.int (1 : Int32))])) (fun t k => XS.iconst X2.here hx rfl (hb hby d6_16) k) ?_
      refine Goes.pre (U' := T2.setTop (mkF m 21 #[.val (.ref a), .val (.int qf), .val (.int qt)] [(.int (1 : Int32))])) (fun t k => XS.goto X2.here hx rfl (pc0 := 17) (pc' := 21) rfl (hb hby d6_17) (by decide) (by decide) k) ?_
      refine Goes.ret X2 (v := (some (.int (1 : Int32)))) (fun h => by rw [Bd.returns] at h; cases h) Bd.notSynchronized (by decide) (by decide) e2 (fun fs hr => retN X2 hx (t := .boolean) Bd.returns (by simp) (hb hby d6_21) hr) ?_
      exact ⟨congrArg (fun z => some (Value.int z)) (show (1 : Int32) = own_meets qf qt qs qe from (show own_meets qf qt qs qe = (1 : Int32) from by unfold own_meets; rw [if_pos hc5, if_pos hc13]).symm), N0, rfl⟩
    ·
      refine Goes.pre (U' := T2.setTop (mkF m 20 #[.val (.ref a), .val (.int qf), .val (.int qt)] [])) (fun t k => XS.icmpYes X2.here hx rfl (pc0 := 13) (pc' := 20) rfl (hb hby d6_13) rfl (flt hc13).2.2.2 (by decide) (by decide) k) ?_
      refine Goes.pre (U' := T2.setTop (mkF m 21 #[.val (.ref a), .val (.int qf), .val (.int qt)] [(.int (0 : Int32))])) (fun t k => XS.iconst X2.here hx rfl (hb hby d6_20) k) ?_
      refine Goes.ret X2 (v := (some (.int (0 : Int32)))) (fun h => by rw [Bd.returns] at h; cases h) Bd.notSynchronized (by decide) (by decide) e2 (fun fs hr => retN X2 hx (t := .boolean) Bd.returns (by simp) (hb hby d6_21) hr) ?_
      exact ⟨congrArg (fun z => some (Value.int z)) (show (0 : Int32) = own_meets qf qt qs qe from (show own_meets qf qt qs qe = (0 : Int32) from by unfold own_meets; rw [if_pos hc5, if_neg hc13]).symm), N0, rfl⟩
  ·
    refine Goes.pre (U' := T1.setTop (mkF m 20 #[.val (.ref a), .val (.int qf), .val (.int qt)] [])) (fun t k => XS.icmpYes X1.here hx rfl (pc0 := 5) (pc' := 20) rfl (hb hby d6_5) rfl (flt hc5).2.1 (by decide) (by decide) k) ?_
    refine Goes.pre (U' := T1.setTop (mkF m 21 #[.val (.ref a), .val (.int qf), .val (.int qt)] [(.int (0 : Int32))])) (fun t k => XS.iconst X1.here hx rfl (hb hby d6_20) k) ?_
    refine Goes.ret X1 (v := (some (.int (0 : Int32)))) (fun h => by rw [Bd.returns] at h; cases h) Bd.notSynchronized (by decide) (by decide) e1 (fun fs hr => retN X1 hx (t := .boolean) Bd.returns (by simp) (hb hby d6_21) hr) ?_
    exact ⟨congrArg (fun z => some (Value.int z)) (show (0 : Int32) = own_meets qf qt qs qe from (show own_meets qf qt qs qe = (0 : Int32) from by unfold own_meets; rw [if_neg hc5]).symm), N0, rfl⟩
theorem own_law (a b c d : Int32) (h1 : ¬ a = b) (h2 : ¬ c = d) (t : Int32) (ht : (own_max (own_min a b) (own_min c d) < own_min (own_max a b) (own_max c d) ∧ t = 1) ∨ (¬ own_max (own_min a b) (own_min c d) < own_min (own_max a b) (own_max c d) ∧ t = 0)) :
    own_meets (own_min c d) (own_max c d) (own_min a b) (own_max a b) = t ∧ own_meets (own_min a b) (own_max a b) (own_min c d) (own_max c d) = t := by
  unfold own_meets
  have hmin : ∀ x y : Int32, (own_min x y).toInt = min x.toInt y.toInt := by
    intro x y; unfold own_min; split <;> rename_i h <;> rw [Int32.lt_iff_toInt_lt] at h <;> omega
  have hmax : ∀ x y : Int32, (own_max x y).toInt = max x.toInt y.toInt := by
    intro x y; unfold own_max; split <;> rename_i h <;> rw [Int32.lt_iff_toInt_lt] at h <;> omega
  rw [← Int32.toInt_inj] at h1 h2
  simp only [Int32.lt_iff_toInt_lt, hmin, hmax] at ht ⊢
  rcases ht with ⟨ht, rfl⟩ | ⟨ht, rfl⟩ <;> constructor <;> (repeat' split) <;> first | rfl | (exfalso; omega)
theorem ef_rm0 (m : MethodId) (x0 : Int32) (x1 : Int32) (x2 : Int32) (x3 : Int32) : entryFrame m #[(.int x0), (.int x1), (.int x2), (.int x3)] maxLocals = mkF m 0 #[.val (.int x0), .val (.int x1), .val (.int x2), .val (.int x3), .unset, .unset, .unset, .unset, .unset, .unset, .unset, .unset, .unset] [] := by first | (simp [entryFrame, mkF, argsToLocals, Value.category, maxLocals]; done) | rfl
theorem pn_com_example_midstroke_midstroke_engine_MadeMeetsPinLaw : plainName "com/example/midstroke/midstroke/engine/MadeMeetsPinLaw" = true := by first | (simp [plainName, overriddenIn]; done) | decide +kernel
theorem pd__28II_29I : parseMethodDescriptor "(II)I" = some ⟨[.int, .int], some .int⟩ := by decide +kernel
theorem pd__28II_29V : parseMethodDescriptor "(II)V" = some ⟨[.int, .int], none⟩ := by decide +kernel
theorem pd__28II_29Z : parseMethodDescriptor "(II)Z" = some ⟨[.int, .int], some .boolean⟩ := by decide +kernel
def Q_rm0 (Z : State) (p1 p2 p3 p4 : Int32) (h0 : Heap) (n0 : Nat) (v : Option Value) (h : Heap) (L : List Loc) : Prop := v = some (.int 1) ∧ Fr n0 L
set_option maxRecDepth 65536 in
set_option maxHeartbeats 40000000 in
theorem rm0 (l : Launch) (Z : State) (a0 : Array Value) (hw : ∀ d ∈ tables_1, d.before a0 Z = true) (ws : List Jvm.Cond) (p1 p2 p3 p4 : Int32) (h0 : Heap) (n0 : Nat) (Z0 : n0 ≤ h0.size)  :
    MetFree l x (head1 (Jvm.Cond.code x code maxLocals ret :: ws) room_1) (fun argv U => argv = #[(.int p1), (.int p2), (.int p3), (.int p4)] ∧ Z.Warmed39 U.vm ∧ U.heap = h0) (fun _ _ _ _ _ => True) (fun _ U o U' => ∃ v L, o = .returned v ∧ Q_rm0 Z p1 p2 p3 p4 h0 n0 v U'.heap L ∧ FrameEnd U o U' L room_1.cells room_1.slots) := by
  refine MetFree.of_bodySF (plainFor_of_name pn_com_example_midstroke_midstroke_engine_MadeMeetsPinLaw) hisR ?_
  intro p e s m args below meth c s₁ Bd hml0 hP hK
  obtain ⟨rfl, hZ, hh⟩ := hP
  have hx := Bd.exec
  have hby := Bd.bytes
  have hml : c.maxLocals = 13 := hml0
  have hown : s.vm.findClass "com/example/midstroke/midstroke/engine/MadeMeetsPinLaw" = some m.cls := findClass_of_methodNamed Bd.named
  have hnm := (name_of_methodNamed Bd.named Bd.method).1
  have X0 : Stand p l e room_1 s m #[(.int p1), (.int p2), (.int p3), (.int p4)] below meth c s₁ [] 0 0 := Stand.of_body Bd
  have e0 : s₁.heap = h0 := by rw [← hh, Bd.state]; rfl
  have N0 := Fr.nil n0
  refine Goes.enter (Q := fun v h L => Q_rm0 Z p1 p2 p3 p4 h0 n0 v h L) (C := room_1.cells) (S := room_1.slots) (ef_rm0 m p1 p2 p3 p4) ?_
  show Goes p e below s _ _ _ (s₁.setTop (mkF m 0 #[.val (.int p1), .val (.int p2), .val (.int p3), .val (.int p4), .unset, .unset, .unset, .unset, .unset, .unset, .unset, .unset, .unset] []))
  refine Goes.pre (U' := s₁.setTop (mkF m 1 #[.val (.int p1), .val (.int p2), .val (.int p3), .val (.int p4), .unset, .unset, .unset, .unset, .unset, .unset, .unset, .unset, .unset] [(.int p1)])) (fun t k => XS.iloadN X0.here hx rfl (hb hby at_0) rfl k) ?_
  refine Goes.pre (U' := s₁.setTop (mkF m 2 #[.val (.int p1), .val (.int p2), .val (.int p3), .val (.int p4), .unset, .unset, .unset, .unset, .unset, .unset, .unset, .unset, .unset] [(.int p2), (.int p1)])) (fun t k => XS.iloadN X0.here hx rfl (hb hby at_1) rfl k) ?_
  by_cases hc2 : p1 = p2
  ·
    refine Goes.pre (U' := s₁.setTop (mkF m 10 #[.val (.int p1), .val (.int p2), .val (.int p3), .val (.int p4), .unset, .unset, .unset, .unset, .unset, .unset, .unset, .unset, .unset] [])) (fun t k => XS.icmpYes X0.here hx rfl (pc0 := 2) (pc' := 10) rfl (hb hby at_2) rfl (teq hc2).1 (by decide) (by decide) k) ?_
    refine Goes.pre (U' := s₁.setTop (mkF m 11 #[.val (.int p1), .val (.int p2), .val (.int p3), .val (.int p4), .unset, .unset, .unset, .unset, .unset, .unset, .unset, .unset, .unset] [(.int (1 : Int32))])) (fun t k => XS.iconst X0.here hx rfl (hb hby at_10) k) ?_
    refine Goes.ret X0 (v := (some (.int (1 : Int32)))) (fun h => by rw [Bd.returns] at h; cases h) Bd.notSynchronized (by decide) (by decide) e0 (fun fs hr => retN X0 hx (t := .boolean) Bd.returns (by simp) (hb hby at_11) hr) ?_
    exact ⟨rfl, N0⟩
  ·
    refine Goes.pre (U' := s₁.setTop (mkF m 5 #[.val (.int p1), .val (.int p2), .val (.int p3), .val (.int p4), .unset, .unset, .unset, .unset, .unset, .unset, .unset, .unset, .unset] [])) (fun t k => XS.icmpNo X0.here hx rfl (hb hby at_2) rfl (feq hc2).1 k) ?_
    refine Goes.pre (U' := s₁.setTop (mkF m 6 #[.val (.int p1), .val (.int p2), .val (.int p3), .val (.int p4), .unset, .unset, .unset, .unset, .unset, .unset, .unset, .unset, .unset] [(.int p3)])) (fun t k => XS.iloadN X0.here hx rfl (hb hby at_5) rfl k) ?_
    refine Goes.pre (U' := s₁.setTop (mkF m 7 #[.val (.int p1), .val (.int p2), .val (.int p3), .val (.int p4), .unset, .unset, .unset, .unset, .unset, .unset, .unset, .unset, .unset] [(.int p4), (.int p3)])) (fun t k => XS.iloadN X0.here hx rfl (hb hby at_6) rfl k) ?_
    by_cases hc7 : p3 = p4
    ·
      refine Goes.pre (U' := s₁.setTop (mkF m 10 #[.val (.int p1), .val (.int p2), .val (.int p3), .val (.int p4), .unset, .unset, .unset, .unset, .unset, .unset, .unset, .unset, .unset] [])) (fun t k => XS.icmpNo X0.here hx rfl (hb hby at_7) rfl (teq hc7).2 k) ?_
      refine Goes.pre (U' := s₁.setTop (mkF m 11 #[.val (.int p1), .val (.int p2), .val (.int p3), .val (.int p4), .unset, .unset, .unset, .unset, .unset, .unset, .unset, .unset, .unset] [(.int (1 : Int32))])) (fun t k => XS.iconst X0.here hx rfl (hb hby at_10) k) ?_
      refine Goes.ret X0 (v := (some (.int (1 : Int32)))) (fun h => by rw [Bd.returns] at h; cases h) Bd.notSynchronized (by decide) (by decide) e0 (fun fs hr => retN X0 hx (t := .boolean) Bd.returns (by simp) (hb hby at_11) hr) ?_
      exact ⟨rfl, N0⟩
    ·
      refine Goes.pre (U' := s₁.setTop (mkF m 12 #[.val (.int p1), .val (.int p2), .val (.int p3), .val (.int p4), .unset, .unset, .unset, .unset, .unset, .unset, .unset, .unset, .unset] [])) (fun t k => XS.icmpYes X0.here hx rfl (pc0 := 7) (pc' := 12) rfl (hb hby at_7) rfl (feq hc7).2 (by decide) (by decide) k) ?_
      refine Goes.pre (U' := s₁.setTop (mkF m 13 #[.val (.int p1), .val (.int p2), .val (.int p3), .val (.int p4), .unset, .unset, .unset, .unset, .unset, .unset, .unset, .unset, .unset] [(.int p1)])) (fun t k => XS.iloadN X0.here hx rfl (hb hby at_12) rfl k) ?_
      refine Goes.pre (U' := s₁.setTop (mkF m 14 #[.val (.int p1), .val (.int p2), .val (.int p3), .val (.int p4), .unset, .unset, .unset, .unset, .unset, .unset, .unset, .unset, .unset] [(.int p2), (.int p1)])) (fun t k => XS.iloadN X0.here hx rfl (hb hby at_13) rfl k) ?_
      obtain ⟨_, _, ⟨T1, L1, k1, n1⟩, -, X1, ⟨Lc1, hQ1, l1, y1, z1⟩, st1⟩ := Jvm.LawKit.callS X0 hx (y := (⟨"java/lang/Math", "min", "(II)I"⟩ : MethodName)) hown (mvT hZ (hw _ (List.mem_of_getElem? (i := 0) rfl))) (mvT hZ (hw _ (List.mem_of_getElem? (i := 1) rfl))) (mvT hZ (hw _ (List.mem_of_getElem? (i := 2) rfl))) (mvT hZ (hw _ (List.mem_of_getElem? (i := 3) rfl))) (by decide) (backOf (W := 0) (rm_min l Z a0 hw [] p1 p2 h0 n0 Z0) hZ (hw _ (List.mem_of_getElem? (i := 3) rfl)) (hw _ (List.mem_of_getElem? (i := 2) rfl)) (by decide) (by decide)) (g := (mkF m 14 #[.val (.int p1), .val (.int p2), .val (.int p3), .val (.int p4), .unset, .unset, .unset, .unset, .unset, .unset, .unset, .unset, .unset] [(.int p2), (.int p1)])) rfl (by rw [hml]; rfl) (argsL := [(.int p1), (.int p2)]) (rest := []) (lenOf pd__28II_29I rfl) rfl (by show 2 * 0 + _ ≤ _; exact Nat.le_of_eq rfl) (hb hby at_14) (fun _ _ => ⟨rfl, e0, (by decide : 0 + 0 ≤ _), (by decide : 0 + 0 ≤ _)⟩)
      dsimp only [Pt.U, Pt.locs, Pt.cells, Pt.slots] at X1 l1 y1 z1 st1 hQ1
      subst l1 y1 z1
      obtain ⟨rfl, N1q, HQ1⟩ := hQ1
      have N1 := Fr.app N0 N1q
      refine Goes.pre (U' := T1.setTop (mkF m 17 #[.val (.int p1), .val (.int p2), .val (.int p3), .val (.int p4), .unset, .unset, .unset, .unset, .unset, .unset, .unset, .unset, .unset] [(.int (own_min p1 p2))])) (fun t k => st1 t k) ?_
      refine Goes.pre (U' := T1.setTop (mkF m 19 #[.val (.int p1), .val (.int p2), .val (.int p3), .val (.int p4), .val (.int (own_min p1 p2)), .unset, .unset, .unset, .unset, .unset, .unset, .unset, .unset] [])) (fun t k => XS.istore X1.here hx rfl (hb hby at_17) rfl (l' := #[.val (.int p1), .val (.int p2), .val (.int p3), .val (.int p4), .val (.int (own_min p1 p2)), .unset, .unset, .unset, .unset, .unset, .unset, .unset, .unset]) rfl k) ?_
      refine Goes.pre (U' := T1.setTop (mkF m 20 #[.val (.int p1), .val (.int p2), .val (.int p3), .val (.int p4), .val (.int (own_min p1 p2)), .unset, .unset, .unset, .unset, .unset, .unset, .unset, .unset] [(.int p1)])) (fun t k => XS.iloadN X1.here hx rfl (hb hby at_19) rfl k) ?_
      refine Goes.pre (U' := T1.setTop (mkF m 21 #[.val (.int p1), .val (.int p2), .val (.int p3), .val (.int p4), .val (.int (own_min p1 p2)), .unset, .unset, .unset, .unset, .unset, .unset, .unset, .unset] [(.int p2), (.int p1)])) (fun t k => XS.iloadN X1.here hx rfl (hb hby at_20) rfl k) ?_
      obtain ⟨_, _, ⟨T2, L2, k2, n2⟩, -, X2, ⟨Lc2, hQ2, l2, y2, z2⟩, st2⟩ := Jvm.LawKit.callS X1 hx (y := (⟨"java/lang/Math", "max", "(II)I"⟩ : MethodName)) hown (mvT hZ (hw _ (List.mem_of_getElem? (i := 4) rfl))) (mvT hZ (hw _ (List.mem_of_getElem? (i := 5) rfl))) (mvT hZ (hw _ (List.mem_of_getElem? (i := 2) rfl))) (mvT hZ (hw _ (List.mem_of_getElem? (i := 6) rfl))) (by decide) (backOf (W := 0) (rm_max l Z a0 hw [] p1 p2 h0 n0 Z0) hZ (hw _ (List.mem_of_getElem? (i := 6) rfl)) (hw _ (List.mem_of_getElem? (i := 2) rfl)) (by decide) (by decide)) (g := (mkF m 21 #[.val (.int p1), .val (.int p2), .val (.int p3), .val (.int p4), .val (.int (own_min p1 p2)), .unset, .unset, .unset, .unset, .unset, .unset, .unset, .unset] [(.int p2), (.int p1)])) rfl (by rw [hml]; rfl) (argsL := [(.int p1), (.int p2)]) (rest := []) (lenOf pd__28II_29I rfl) rfl (by show 2 * 0 + _ ≤ _; exact Nat.le_of_eq rfl) (hb hby at_21) (fun _ _ => ⟨rfl, HQ1, (by decide : 0 + 0 ≤ _), (by decide : 0 + 0 ≤ _)⟩)
      dsimp only [Pt.U, Pt.locs, Pt.cells, Pt.slots] at X2 l2 y2 z2 st2 hQ2
      subst l2 y2 z2
      obtain ⟨rfl, N2q, HQ2⟩ := hQ2
      have N2 := Fr.app N1 N2q
      refine Goes.pre (U' := T2.setTop (mkF m 24 #[.val (.int p1), .val (.int p2), .val (.int p3), .val (.int p4), .val (.int (own_min p1 p2)), .unset, .unset, .unset, .unset, .unset, .unset, .unset, .unset] [(.int (own_max p1 p2))])) (fun t k => st2 t k) ?_
      refine Goes.pre (U' := T2.setTop (mkF m 26 #[.val (.int p1), .val (.int p2), .val (.int p3), .val (.int p4), .val (.int (own_min p1 p2)), .val (.int (own_max p1 p2)), .unset, .unset, .unset, .unset, .unset, .unset, .unset] [])) (fun t k => XS.istore X2.here hx rfl (hb hby at_24) rfl (l' := #[.val (.int p1), .val (.int p2), .val (.int p3), .val (.int p4), .val (.int (own_min p1 p2)), .val (.int (own_max p1 p2)), .unset, .unset, .unset, .unset, .unset, .unset, .unset]) rfl k) ?_
      refine Goes.pre (U' := T2.setTop (mkF m 27 #[.val (.int p1), .val (.int p2), .val (.int p3), .val (.int p4), .val (.int (own_min p1 p2)), .val (.int (own_max p1 p2)), .unset, .unset, .unset, .unset, .unset, .unset, .unset] [(.int p3)])) (fun t k => XS.iloadN X2.here hx rfl (hb hby at_26) rfl k) ?_
      refine Goes.pre (U' := T2.setTop (mkF m 28 #[.val (.int p1), .val (.int p2), .val (.int p3), .val (.int p4), .val (.int (own_min p1 p2)), .val (.int (own_max p1 p2)), .unset, .unset, .unset, .unset, .unset, .unset, .unset] [(.int p4), (.int p3)])) (fun t k => XS.iloadN X2.here hx rfl (hb hby at_27) rfl k) ?_
      obtain ⟨_, _, ⟨T3, L3, k3, n3⟩, -, X3, ⟨Lc3, hQ3, l3, y3, z3⟩, st3⟩ := Jvm.LawKit.callS X2 hx (y := (⟨"java/lang/Math", "min", "(II)I"⟩ : MethodName)) hown (mvT hZ (hw _ (List.mem_of_getElem? (i := 0) rfl))) (mvT hZ (hw _ (List.mem_of_getElem? (i := 1) rfl))) (mvT hZ (hw _ (List.mem_of_getElem? (i := 2) rfl))) (mvT hZ (hw _ (List.mem_of_getElem? (i := 3) rfl))) (by decide) (backOf (W := 0) (rm_min l Z a0 hw [] p3 p4 h0 n0 Z0) hZ (hw _ (List.mem_of_getElem? (i := 3) rfl)) (hw _ (List.mem_of_getElem? (i := 2) rfl)) (by decide) (by decide)) (g := (mkF m 28 #[.val (.int p1), .val (.int p2), .val (.int p3), .val (.int p4), .val (.int (own_min p1 p2)), .val (.int (own_max p1 p2)), .unset, .unset, .unset, .unset, .unset, .unset, .unset] [(.int p4), (.int p3)])) rfl (by rw [hml]; rfl) (argsL := [(.int p3), (.int p4)]) (rest := []) (lenOf pd__28II_29I rfl) rfl (by show 2 * 0 + _ ≤ _; exact Nat.le_of_eq rfl) (hb hby at_28) (fun _ _ => ⟨rfl, HQ2, (by decide : 0 + 0 ≤ _), (by decide : 0 + 0 ≤ _)⟩)
      dsimp only [Pt.U, Pt.locs, Pt.cells, Pt.slots] at X3 l3 y3 z3 st3 hQ3
      subst l3 y3 z3
      obtain ⟨rfl, N3q, HQ3⟩ := hQ3
      have N3 := Fr.app N2 N3q
      refine Goes.pre (U' := T3.setTop (mkF m 31 #[.val (.int p1), .val (.int p2), .val (.int p3), .val (.int p4), .val (.int (own_min p1 p2)), .val (.int (own_max p1 p2)), .unset, .unset, .unset, .unset, .unset, .unset, .unset] [(.int (own_min p3 p4))])) (fun t k => st3 t k) ?_
      refine Goes.pre (U' := T3.setTop (mkF m 33 #[.val (.int p1), .val (.int p2), .val (.int p3), .val (.int p4), .val (.int (own_min p1 p2)), .val (.int (own_max p1 p2)), .val (.int (own_min p3 p4)), .unset, .unset, .unset, .unset, .unset, .unset] [])) (fun t k => XS.istore X3.here hx rfl (hb hby at_31) rfl (l' := #[.val (.int p1), .val (.int p2), .val (.int p3), .val (.int p4), .val (.int (own_min p1 p2)), .val (.int (own_max p1 p2)), .val (.int (own_min p3 p4)), .unset, .unset, .unset, .unset, .unset, .unset]) rfl k) ?_
      refine Goes.pre (U' := T3.setTop (mkF m 34 #[.val (.int p1), .val (.int p2), .val (.int p3), .val (.int p4), .val (.int (own_min p1 p2)), .val (.int (own_max p1 p2)), .val (.int (own_min p3 p4)), .unset, .unset, .unset, .unset, .unset, .unset] [(.int p3)])) (fun t k => XS.iloadN X3.here hx rfl (hb hby at_33) rfl k) ?_
      refine Goes.pre (U' := T3.setTop (mkF m 35 #[.val (.int p1), .val (.int p2), .val (.int p3), .val (.int p4), .val (.int (own_min p1 p2)), .val (.int (own_max p1 p2)), .val (.int (own_min p3 p4)), .unset, .unset, .unset, .unset, .unset, .unset] [(.int p4), (.int p3)])) (fun t k => XS.iloadN X3.here hx rfl (hb hby at_34) rfl k) ?_
      obtain ⟨_, _, ⟨T4, L4, k4, n4⟩, -, X4, ⟨Lc4, hQ4, l4, y4, z4⟩, st4⟩ := Jvm.LawKit.callS X3 hx (y := (⟨"java/lang/Math", "max", "(II)I"⟩ : MethodName)) hown (mvT hZ (hw _ (List.mem_of_getElem? (i := 4) rfl))) (mvT hZ (hw _ (List.mem_of_getElem? (i := 5) rfl))) (mvT hZ (hw _ (List.mem_of_getElem? (i := 2) rfl))) (mvT hZ (hw _ (List.mem_of_getElem? (i := 6) rfl))) (by decide) (backOf (W := 0) (rm_max l Z a0 hw [] p3 p4 h0 n0 Z0) hZ (hw _ (List.mem_of_getElem? (i := 6) rfl)) (hw _ (List.mem_of_getElem? (i := 2) rfl)) (by decide) (by decide)) (g := (mkF m 35 #[.val (.int p1), .val (.int p2), .val (.int p3), .val (.int p4), .val (.int (own_min p1 p2)), .val (.int (own_max p1 p2)), .val (.int (own_min p3 p4)), .unset, .unset, .unset, .unset, .unset, .unset] [(.int p4), (.int p3)])) rfl (by rw [hml]; rfl) (argsL := [(.int p3), (.int p4)]) (rest := []) (lenOf pd__28II_29I rfl) rfl (by show 2 * 0 + _ ≤ _; exact Nat.le_of_eq rfl) (hb hby at_35) (fun _ _ => ⟨rfl, HQ3, (by decide : 0 + 0 ≤ _), (by decide : 0 + 0 ≤ _)⟩)
      dsimp only [Pt.U, Pt.locs, Pt.cells, Pt.slots] at X4 l4 y4 z4 st4 hQ4
      subst l4 y4 z4
      obtain ⟨rfl, N4q, HQ4⟩ := hQ4
      have N4 := Fr.app N3 N4q
      refine Goes.pre (U' := T4.setTop (mkF m 38 #[.val (.int p1), .val (.int p2), .val (.int p3), .val (.int p4), .val (.int (own_min p1 p2)), .val (.int (own_max p1 p2)), .val (.int (own_min p3 p4)), .unset, .unset, .unset, .unset, .unset, .unset] [(.int (own_max p3 p4))])) (fun t k => st4 t k) ?_
      refine Goes.pre (U' := T4.setTop (mkF m 40 #[.val (.int p1), .val (.int p2), .val (.int p3), .val (.int p4), .val (.int (own_min p1 p2)), .val (.int (own_max p1 p2)), .val (.int (own_min p3 p4)), .val (.int (own_max p3 p4)), .unset, .unset, .unset, .unset, .unset] [])) (fun t k => XS.istore X4.here hx rfl (hb hby at_38) rfl (l' := #[.val (.int p1), .val (.int p2), .val (.int p3), .val (.int p4), .val (.int (own_min p1 p2)), .val (.int (own_max p1 p2)), .val (.int (own_min p3 p4)), .val (.int (own_max p3 p4)), .unset, .unset, .unset, .unset, .unset]) rfl k) ?_
      refine Goes.pre (U' := T4.setTop (mkF m 42 #[.val (.int p1), .val (.int p2), .val (.int p3), .val (.int p4), .val (.int (own_min p1 p2)), .val (.int (own_max p1 p2)), .val (.int (own_min p3 p4)), .val (.int (own_max p3 p4)), .unset, .unset, .unset, .unset, .unset] [(.int (own_min p1 p2))])) (fun t k => XS.iload X4.here hx rfl (hb hby at_40) rfl k) ?_
      refine Goes.pre (U' := T4.setTop (mkF m 44 #[.val (.int p1), .val (.int p2), .val (.int p3), .val (.int p4), .val (.int (own_min p1 p2)), .val (.int (own_max p1 p2)), .val (.int (own_min p3 p4)), .val (.int (own_max p3 p4)), .unset, .unset, .unset, .unset, .unset] [(.int (own_min p3 p4)), (.int (own_min p1 p2))])) (fun t k => XS.iload X4.here hx rfl (hb hby at_42) rfl k) ?_
      obtain ⟨_, _, ⟨T5, L5, k5, n5⟩, -, X5, ⟨Lc5, hQ5, l5, y5, z5⟩, st5⟩ := Jvm.LawKit.callS X4 hx (y := (⟨"java/lang/Math", "max", "(II)I"⟩ : MethodName)) hown (mvT hZ (hw _ (List.mem_of_getElem? (i := 4) rfl))) (mvT hZ (hw _ (List.mem_of_getElem? (i := 5) rfl))) (mvT hZ (hw _ (List.mem_of_getElem? (i := 2) rfl))) (mvT hZ (hw _ (List.mem_of_getElem? (i := 6) rfl))) (by decide) (backOf (W := 0) (rm_max l Z a0 hw [] (own_min p1 p2) (own_min p3 p4) h0 n0 Z0) hZ (hw _ (List.mem_of_getElem? (i := 6) rfl)) (hw _ (List.mem_of_getElem? (i := 2) rfl)) (by decide) (by decide)) (g := (mkF m 44 #[.val (.int p1), .val (.int p2), .val (.int p3), .val (.int p4), .val (.int (own_min p1 p2)), .val (.int (own_max p1 p2)), .val (.int (own_min p3 p4)), .val (.int (own_max p3 p4)), .unset, .unset, .unset, .unset, .unset] [(.int (own_min p3 p4)), (.int (own_min p1 p2))])) rfl (by rw [hml]; rfl) (argsL := [(.int (own_min p1 p2)), (.int (own_min p3 p4))]) (rest := []) (lenOf pd__28II_29I rfl) rfl (by show 2 * 0 + _ ≤ _; exact Nat.le_of_eq rfl) (hb hby at_44) (fun _ _ => ⟨rfl, HQ4, (by decide : 0 + 0 ≤ _), (by decide : 0 + 0 ≤ _)⟩)
      dsimp only [Pt.U, Pt.locs, Pt.cells, Pt.slots] at X5 l5 y5 z5 st5 hQ5
      subst l5 y5 z5
      obtain ⟨rfl, N5q, HQ5⟩ := hQ5
      have N5 := Fr.app N4 N5q
      refine Goes.pre (U' := T5.setTop (mkF m 47 #[.val (.int p1), .val (.int p2), .val (.int p3), .val (.int p4), .val (.int (own_min p1 p2)), .val (.int (own_max p1 p2)), .val (.int (own_min p3 p4)), .val (.int (own_max p3 p4)), .unset, .unset, .unset, .unset, .unset] [(.int (own_max (own_min p1 p2) (own_min p3 p4)))])) (fun t k => st5 t k) ?_
      refine Goes.pre (U' := T5.setTop (mkF m 49 #[.val (.int p1), .val (.int p2), .val (.int p3), .val (.int p4), .val (.int (own_min p1 p2)), .val (.int (own_max p1 p2)), .val (.int (own_min p3 p4)), .val (.int (own_max p3 p4)), .unset, .unset, .unset, .unset, .unset] [(.int (own_max p1 p2)), (.int (own_max (own_min p1 p2) (own_min p3 p4)))])) (fun t k => XS.iload X5.here hx rfl (hb hby at_47) rfl k) ?_
      refine Goes.pre (U' := T5.setTop (mkF m 51 #[.val (.int p1), .val (.int p2), .val (.int p3), .val (.int p4), .val (.int (own_min p1 p2)), .val (.int (own_max p1 p2)), .val (.int (own_min p3 p4)), .val (.int (own_max p3 p4)), .unset, .unset, .unset, .unset, .unset] [(.int (own_max p3 p4)), (.int (own_max p1 p2)), (.int (own_max (own_min p1 p2) (own_min p3 p4)))])) (fun t k => XS.iload X5.here hx rfl (hb hby at_49) rfl k) ?_
      obtain ⟨_, _, ⟨T6, L6, k6, n6⟩, -, X6, ⟨Lc6, hQ6, l6, y6, z6⟩, st6⟩ := Jvm.LawKit.callS X5 hx (y := (⟨"java/lang/Math", "min", "(II)I"⟩ : MethodName)) hown (mvT hZ (hw _ (List.mem_of_getElem? (i := 0) rfl))) (mvT hZ (hw _ (List.mem_of_getElem? (i := 1) rfl))) (mvT hZ (hw _ (List.mem_of_getElem? (i := 2) rfl))) (mvT hZ (hw _ (List.mem_of_getElem? (i := 3) rfl))) (by decide) (backOf (W := 1) (rm_min l Z a0 hw [] (own_max p1 p2) (own_max p3 p4) h0 n0 Z0) hZ (hw _ (List.mem_of_getElem? (i := 3) rfl)) (hw _ (List.mem_of_getElem? (i := 2) rfl)) (by decide) (by decide)) (g := (mkF m 51 #[.val (.int p1), .val (.int p2), .val (.int p3), .val (.int p4), .val (.int (own_min p1 p2)), .val (.int (own_max p1 p2)), .val (.int (own_min p3 p4)), .val (.int (own_max p3 p4)), .unset, .unset, .unset, .unset, .unset] [(.int (own_max p3 p4)), (.int (own_max p1 p2)), (.int (own_max (own_min p1 p2) (own_min p3 p4)))])) rfl (by rw [hml]; rfl) (argsL := [(.int (own_max p1 p2)), (.int (own_max p3 p4))]) (rest := [(.int (own_max (own_min p1 p2) (own_min p3 p4)))]) (lenOf pd__28II_29I rfl) rfl (by show 2 * 0 + _ ≤ _; exact Nat.le_of_eq rfl) (hb hby at_51) (fun _ _ => ⟨rfl, HQ5, (by decide : 0 + 0 ≤ _), (by decide : 0 + 0 ≤ _)⟩)
      dsimp only [Pt.U, Pt.locs, Pt.cells, Pt.slots] at X6 l6 y6 z6 st6 hQ6
      subst l6 y6 z6
      obtain ⟨rfl, N6q, HQ6⟩ := hQ6
      have N6 := Fr.app N5 N6q
      refine Goes.pre (U' := T6.setTop (mkF m 54 #[.val (.int p1), .val (.int p2), .val (.int p3), .val (.int p4), .val (.int (own_min p1 p2)), .val (.int (own_max p1 p2)), .val (.int (own_min p3 p4)), .val (.int (own_max p3 p4)), .unset, .unset, .unset, .unset, .unset] [(.int (own_min (own_max p1 p2) (own_max p3 p4))), (.int (own_max (own_min p1 p2) (own_min p3 p4)))])) (fun t k => st6 t k) ?_
      by_cases hc54 : (own_max (own_min p1 p2) (own_min p3 p4)) < (own_min (own_max p1 p2) (own_max p3 p4))
      ·
        refine Goes.pre (U' := T6.setTop (mkF m 57 #[.val (.int p1), .val (.int p2), .val (.int p3), .val (.int p4), .val (.int (own_min p1 p2)), .val (.int (own_max p1 p2)), .val (.int (own_min p3 p4)), .val (.int (own_max p3 p4)), .unset, .unset, .unset, .unset, .unset] [])) (fun t k => XS.icmpNo X6.here hx rfl (hb hby at_54) rfl (tlt hc54).2.1 k) ?_
        refine Goes.pre (U' := T6.setTop (mkF m 58 #[.val (.int p1), .val (.int p2), .val (.int p3), .val (.int p4), .val (.int (own_min p1 p2)), .val (.int (own_max p1 p2)), .val (.int (own_min p3 p4)), .val (.int (own_max p3 p4)), .unset, .unset, .unset, .unset, .unset] [(.int (1 : Int32))])) (fun t k => XS.iconst X6.here hx rfl (hb hby at_57) k) ?_
        refine Goes.pre (U' := T6.setTop (mkF m 62 #[.val (.int p1), .val (.int p2), .val (.int p3), .val (.int p4), .val (.int (own_min p1 p2)), .val (.int (own_max p1 p2)), .val (.int (own_min p3 p4)), .val (.int (own_max p3 p4)), .unset, .unset, .unset, .unset, .unset] [(.int (1 : Int32))])) (fun t k => XS.goto X6.here hx rfl (pc0 := 58) (pc' := 62) rfl (hb hby at_58) (by decide) (by decide) k) ?_
        refine Goes.pre (U' := T6.setTop (mkF m 64 #[.val (.int p1), .val (.int p2), .val (.int p3), .val (.int p4), .val (.int (own_min p1 p2)), .val (.int (own_max p1 p2)), .val (.int (own_min p3 p4)), .val (.int (own_max p3 p4)), .val (.int (1 : Int32)), .unset, .unset, .unset, .unset] [])) (fun t k => XS.istore X6.here hx rfl (hb hby at_62) rfl (l' := #[.val (.int p1), .val (.int p2), .val (.int p3), .val (.int p4), .val (.int (own_min p1 p2)), .val (.int (own_max p1 p2)), .val (.int (own_min p3 p4)), .val (.int (own_max p3 p4)), .val (.int (1 : Int32)), .unset, .unset, .unset, .unset]) rfl k) ?_
        obtain ⟨T7, h7, X7, e7, E7, A7, D7, -, st7⟩ := newO X6 hx hZ hown (hw _ (List.mem_of_getElem? (i := 7) rfl)) (hw _ (List.mem_of_getElem? (i := 8) rfl)) (hw _ (List.mem_of_getElem? (i := 9) rfl)) HQ6 (g := (mkF m 64 #[.val (.int p1), .val (.int p2), .val (.int p3), .val (.int p4), .val (.int (own_min p1 p2)), .val (.int (own_max p1 p2)), .val (.int (own_min p3 p4)), .val (.int (own_max p3 p4)), .val (.int (1 : Int32)), .unset, .unset, .unset, .unset] [])) rfl (hb hby at_64) (by decide) (by decide)
        obtain ⟨a, g7⟩ : ∃ z, z = h0.size := ⟨_, rfl⟩
        rw [← g7] at A7 D7 st7
        have g_a : n0 ≤ a := Nat.le_trans Z0 (Nat.le_of_eq g7.symm)
        have Z7 : n0 ≤ h7.size := Nat.le_trans Z0 E7.1
        have E_a := A7
        have F_start_a : Fld Z h7 a "com/example/midstroke/midstroke/engine/LooseRewrite$Made" "start" "I" (.int (0 : Int32)) := D7 (Or.inr (hw _ (List.mem_of_getElem? (i := 22) rfl))) (ty := .int) (by decide)
        have F_end_a : Fld Z h7 a "com/example/midstroke/midstroke/engine/LooseRewrite$Made" "end" "I" (.int (0 : Int32)) := D7 (Or.inr (hw _ (List.mem_of_getElem? (i := 24) rfl))) (ty := .int) (by decide)
        refine Goes.pre (U' := T7.setTop (mkF m 67 #[.val (.int p1), .val (.int p2), .val (.int p3), .val (.int p4), .val (.int (own_min p1 p2)), .val (.int (own_max p1 p2)), .val (.int (own_min p3 p4)), .val (.int (own_max p3 p4)), .val (.int (1 : Int32)), .unset, .unset, .unset, .unset] [(.ref a)])) (fun t k => st7 t k) ?_
        refine Goes.pre (U' := T7.setTop (mkF m 68 #[.val (.int p1), .val (.int p2), .val (.int p3), .val (.int p4), .val (.int (own_min p1 p2)), .val (.int (own_max p1 p2)), .val (.int (own_min p3 p4)), .val (.int (own_max p3 p4)), .val (.int (1 : Int32)), .unset, .unset, .unset, .unset] [(.ref a), (.ref a)])) (fun t k => XS.dup X7.here hx rfl (hb hby at_67) rfl rfl k) ?_
        refine Goes.pre (U' := T7.setTop (mkF m 70 #[.val (.int p1), .val (.int p2), .val (.int p3), .val (.int p4), .val (.int (own_min p1 p2)), .val (.int (own_max p1 p2)), .val (.int (own_min p3 p4)), .val (.int (own_max p3 p4)), .val (.int (1 : Int32)), .unset, .unset, .unset, .unset] [(.int (own_min p1 p2)), (.ref a), (.ref a)])) (fun t k => XS.iload X7.here hx rfl (hb hby at_68) rfl k) ?_
        refine Goes.pre (U' := T7.setTop (mkF m 72 #[.val (.int p1), .val (.int p2), .val (.int p3), .val (.int p4), .val (.int (own_min p1 p2)), .val (.int (own_max p1 p2)), .val (.int (own_min p3 p4)), .val (.int (own_max p3 p4)), .val (.int (1 : Int32)), .unset, .unset, .unset, .unset] [(.int (own_max p1 p2)), (.int (own_min p1 p2)), (.ref a), (.ref a)])) (fun t k => XS.iload X7.here hx rfl (hb hby at_70) rfl k) ?_
        obtain ⟨_, _, ⟨T8, L8, k8, n8⟩, -, X8, ⟨Lc8, hQ8, l8, y8, z8⟩, st8⟩ := X7.specialBack hx (y := (⟨"com/example/midstroke/midstroke/engine/LooseRewrite$Made", "<init>", "(II)V"⟩ : MethodName)) rfl hown (mvT hZ (hw _ (List.mem_of_getElem? (i := 10) rfl))) (mvT hZ (hw _ (List.mem_of_getElem? (i := 11) rfl))) (mvT hZ (hw _ (List.mem_of_getElem? (i := 12) rfl))) (by decide) (backOf (W := 1) (rm_init l Z a0 hw [] a (own_min p1 p2) (own_max p1 p2) h7 n0 Z7 E_a F_start_a F_end_a g_a) hZ (hw _ (List.mem_of_getElem? (i := 12) rfl)) (hw _ (List.mem_of_getElem? (i := 9) rfl)) (by decide) (by decide)) (g := (mkF m 72 #[.val (.int p1), .val (.int p2), .val (.int p3), .val (.int p4), .val (.int (own_min p1 p2)), .val (.int (own_max p1 p2)), .val (.int (own_min p3 p4)), .val (.int (own_max p3 p4)), .val (.int (1 : Int32)), .unset, .unset, .unset, .unset] [(.int (own_max p1 p2)), (.int (own_min p1 p2)), (.ref a), (.ref a)])) rfl (by rw [hml]; rfl) (Steps.refl _) (a := a) (argsL := [(.int (own_min p1 p2)), (.int (own_max p1 p2))]) (rest := [(.ref a)]) (lenOf pd__28II_29V rfl) rfl (by show 2 * 0 + _ ≤ _; exact Nat.le_of_eq rfl) (hb hby at_72) (fun _ _ => ⟨rfl, e7, (by decide : 1 + 0 ≤ _), (by decide : 2 + 0 ≤ _)⟩)
        dsimp only [Pt.U, Pt.locs, Pt.cells, Pt.slots] at X8 l8 y8 z8 st8 hQ8
        subst l8 y8 z8
        obtain ⟨rfl, N8q, KQ8, fqstart_8, fqend_8⟩ := hQ8
        have N8 := Fr.app N6 N8q
        have E_a := E_a.keep KQ8
        have Z9 : n0 ≤ T8.heap.size := Nat.le_trans Z7 KQ8.1
        have F_start_a := fqstart_8
        have F_end_a := fqend_8
        refine Goes.pre (U' := T8.setTop (mkF m 75 #[.val (.int p1), .val (.int p2), .val (.int p3), .val (.int p4), .val (.int (own_min p1 p2)), .val (.int (own_max p1 p2)), .val (.int (own_min p3 p4)), .val (.int (own_max p3 p4)), .val (.int (1 : Int32)), .unset, .unset, .unset, .unset] [(.ref a)])) (fun t k => st8.trans k) ?_
        refine Goes.pre (U' := T8.setTop (mkF m 77 #[.val (.int p1), .val (.int p2), .val (.int p3), .val (.int p4), .val (.int (own_min p1 p2)), .val (.int (own_max p1 p2)), .val (.int (own_min p3 p4)), .val (.int (own_max p3 p4)), .val (.int (1 : Int32)), .val (.ref a), .unset, .unset, .unset] [])) (fun t k => XS.astore X8.here hx rfl (hb hby at_75) rfl rfl (l' := #[.val (.int p1), .val (.int p2), .val (.int p3), .val (.int p4), .val (.int (own_min p1 p2)), .val (.int (own_max p1 p2)), .val (.int (own_min p3 p4)), .val (.int (own_max p3 p4)), .val (.int (1 : Int32)), .val (.ref a), .unset, .unset, .unset]) rfl k) ?_
        obtain ⟨T10, h10, X10, e10, E10, A10, D10, -, st10⟩ := newO X8 hx hZ hown (hw _ (List.mem_of_getElem? (i := 7) rfl)) (hw _ (List.mem_of_getElem? (i := 8) rfl)) (hw _ (List.mem_of_getElem? (i := 9) rfl)) rfl (g := (mkF m 77 #[.val (.int p1), .val (.int p2), .val (.int p3), .val (.int p4), .val (.int (own_min p1 p2)), .val (.int (own_max p1 p2)), .val (.int (own_min p3 p4)), .val (.int (own_max p3 p4)), .val (.int (1 : Int32)), .val (.ref a), .unset, .unset, .unset] [])) rfl (hb hby at_77) (by decide) (by decide)
        obtain ⟨b, g10⟩ : ∃ z, z = T8.heap.size := ⟨_, rfl⟩
        rw [← g10] at A10 D10 st10
        have ne_a_b : a ≠ b := Nat.ne_of_lt (Nat.lt_of_lt_of_le E_a.lt (Nat.le_of_eq g10.symm))
        have ne_b_a := ne_a_b.symm
        have g_b : n0 ≤ b := Nat.le_trans Z9 (Nat.le_of_eq g10.symm)
        have E_a := E_a.ext E10
        have F_start_a := F_start_a.ext E10
        have F_end_a := F_end_a.ext E10
        have Z10 : n0 ≤ h10.size := Nat.le_trans Z9 E10.1
        have E_b := A10
        have F_start_b : Fld Z h10 b "com/example/midstroke/midstroke/engine/LooseRewrite$Made" "start" "I" (.int (0 : Int32)) := D10 (Or.inr (hw _ (List.mem_of_getElem? (i := 22) rfl))) (ty := .int) (by decide)
        have F_end_b : Fld Z h10 b "com/example/midstroke/midstroke/engine/LooseRewrite$Made" "end" "I" (.int (0 : Int32)) := D10 (Or.inr (hw _ (List.mem_of_getElem? (i := 24) rfl))) (ty := .int) (by decide)
        refine Goes.pre (U' := T10.setTop (mkF m 80 #[.val (.int p1), .val (.int p2), .val (.int p3), .val (.int p4), .val (.int (own_min p1 p2)), .val (.int (own_max p1 p2)), .val (.int (own_min p3 p4)), .val (.int (own_max p3 p4)), .val (.int (1 : Int32)), .val (.ref a), .unset, .unset, .unset] [(.ref b)])) (fun t k => st10 t k) ?_
        refine Goes.pre (U' := T10.setTop (mkF m 81 #[.val (.int p1), .val (.int p2), .val (.int p3), .val (.int p4), .val (.int (own_min p1 p2)), .val (.int (own_max p1 p2)), .val (.int (own_min p3 p4)), .val (.int (own_max p3 p4)), .val (.int (1 : Int32)), .val (.ref a), .unset, .unset, .unset] [(.ref b), (.ref b)])) (fun t k => XS.dup X10.here hx rfl (hb hby at_80) rfl rfl k) ?_
        refine Goes.pre (U' := T10.setTop (mkF m 83 #[.val (.int p1), .val (.int p2), .val (.int p3), .val (.int p4), .val (.int (own_min p1 p2)), .val (.int (own_max p1 p2)), .val (.int (own_min p3 p4)), .val (.int (own_max p3 p4)), .val (.int (1 : Int32)), .val (.ref a), .unset, .unset, .unset] [(.int (own_min p3 p4)), (.ref b), (.ref b)])) (fun t k => XS.iload X10.here hx rfl (hb hby at_81) rfl k) ?_
        refine Goes.pre (U' := T10.setTop (mkF m 85 #[.val (.int p1), .val (.int p2), .val (.int p3), .val (.int p4), .val (.int (own_min p1 p2)), .val (.int (own_max p1 p2)), .val (.int (own_min p3 p4)), .val (.int (own_max p3 p4)), .val (.int (1 : Int32)), .val (.ref a), .unset, .unset, .unset] [(.int (own_max p3 p4)), (.int (own_min p3 p4)), (.ref b), (.ref b)])) (fun t k => XS.iload X10.here hx rfl (hb hby at_83) rfl k) ?_
        obtain ⟨_, _, ⟨T11, L11, k11, n11⟩, -, X11, ⟨Lc11, hQ11, l11, y11, z11⟩, st11⟩ := X10.specialBack hx (y := (⟨"com/example/midstroke/midstroke/engine/LooseRewrite$Made", "<init>", "(II)V"⟩ : MethodName)) rfl hown (mvT hZ (hw _ (List.mem_of_getElem? (i := 10) rfl))) (mvT hZ (hw _ (List.mem_of_getElem? (i := 11) rfl))) (mvT hZ (hw _ (List.mem_of_getElem? (i := 12) rfl))) (by decide) (backOf (W := 1) (rm_init l Z a0 hw [] b (own_min p3 p4) (own_max p3 p4) h10 n0 Z10 E_b F_start_b F_end_b g_b) hZ (hw _ (List.mem_of_getElem? (i := 12) rfl)) (hw _ (List.mem_of_getElem? (i := 9) rfl)) (by decide) (by decide)) (g := (mkF m 85 #[.val (.int p1), .val (.int p2), .val (.int p3), .val (.int p4), .val (.int (own_min p1 p2)), .val (.int (own_max p1 p2)), .val (.int (own_min p3 p4)), .val (.int (own_max p3 p4)), .val (.int (1 : Int32)), .val (.ref a), .unset, .unset, .unset] [(.int (own_max p3 p4)), (.int (own_min p3 p4)), (.ref b), (.ref b)])) rfl (by rw [hml]; rfl) (Steps.refl _) (a := b) (argsL := [(.int (own_min p3 p4)), (.int (own_max p3 p4))]) (rest := [(.ref b)]) (lenOf pd__28II_29V rfl) rfl (by show 2 * 0 + _ ≤ _; exact Nat.le_of_eq rfl) (hb hby at_85) (fun _ _ => ⟨rfl, e10, (by decide : 2 + 0 ≤ _), (by decide : 4 + 0 ≤ _)⟩)
        dsimp only [Pt.U, Pt.locs, Pt.cells, Pt.slots] at X11 l11 y11 z11 st11 hQ11
        subst l11 y11 z11
        obtain ⟨rfl, N11q, KQ11, fqstart_11, fqend_11⟩ := hQ11
        have N11 := Fr.app N8 N11q
        have E_a := E_a.keep KQ11
        have F_start_a := F_start_a.keep KQ11 (ninS ne_a_b nin0)
        have F_end_a := F_end_a.keep KQ11 (ninS ne_a_b nin0)
        have E_b := E_b.keep KQ11
        have Z12 : n0 ≤ T11.heap.size := Nat.le_trans Z10 KQ11.1
        have F_start_b := fqstart_11
        have F_end_b := fqend_11
        refine Goes.pre (U' := T11.setTop (mkF m 88 #[.val (.int p1), .val (.int p2), .val (.int p3), .val (.int p4), .val (.int (own_min p1 p2)), .val (.int (own_max p1 p2)), .val (.int (own_min p3 p4)), .val (.int (own_max p3 p4)), .val (.int (1 : Int32)), .val (.ref a), .unset, .unset, .unset] [(.ref b)])) (fun t k => st11.trans k) ?_
        refine Goes.pre (U' := T11.setTop (mkF m 90 #[.val (.int p1), .val (.int p2), .val (.int p3), .val (.int p4), .val (.int (own_min p1 p2)), .val (.int (own_max p1 p2)), .val (.int (own_min p3 p4)), .val (.int (own_max p3 p4)), .val (.int (1 : Int32)), .val (.ref a), .val (.ref b), .unset, .unset] [])) (fun t k => XS.astore X11.here hx rfl (hb hby at_88) rfl rfl (l' := #[.val (.int p1), .val (.int p2), .val (.int p3), .val (.int p4), .val (.int (own_min p1 p2)), .val (.int (own_max p1 p2)), .val (.int (own_min p3 p4)), .val (.int (own_max p3 p4)), .val (.int (1 : Int32)), .val (.ref a), .val (.ref b), .unset, .unset]) rfl k) ?_
        refine Goes.pre (U' := T11.setTop (mkF m 92 #[.val (.int p1), .val (.int p2), .val (.int p3), .val (.int p4), .val (.int (own_min p1 p2)), .val (.int (own_max p1 p2)), .val (.int (own_min p3 p4)), .val (.int (own_max p3 p4)), .val (.int (1 : Int32)), .val (.ref a), .val (.ref b), .unset, .unset] [(.ref a)])) (fun t k => XS.aload X11.here hx rfl (hb hby at_90) rfl rfl k) ?_
        refine Goes.pre (U' := T11.setTop (mkF m 94 #[.val (.int p1), .val (.int p2), .val (.int p3), .val (.int p4), .val (.int (own_min p1 p2)), .val (.int (own_max p1 p2)), .val (.int (own_min p3 p4)), .val (.int (own_max p3 p4)), .val (.int (1 : Int32)), .val (.ref a), .val (.ref b), .unset, .unset] [(.int (own_min p3 p4)), (.ref a)])) (fun t k => XS.iload X11.here hx rfl (hb hby at_92) rfl k) ?_
        refine Goes.pre (U' := T11.setTop (mkF m 96 #[.val (.int p1), .val (.int p2), .val (.int p3), .val (.int p4), .val (.int (own_min p1 p2)), .val (.int (own_max p1 p2)), .val (.int (own_min p3 p4)), .val (.int (own_max p3 p4)), .val (.int (1 : Int32)), .val (.ref a), .val (.ref b), .unset, .unset] [(.int (own_max p3 p4)), (.int (own_min p3 p4)), (.ref a)])) (fun t k => XS.iload X11.here hx rfl (hb hby at_94) rfl k) ?_
        obtain ⟨cq13, kq13, q13a, q13b, q13c⟩ := isOf hZ rfl E_a
        obtain ⟨_, _, ⟨T13, L13, k13, n13⟩, -, X13, ⟨Lc13, hQ13, l13, y13, z13⟩, st13⟩ := X11.virtualBack hx (y := (⟨"com/example/midstroke/midstroke/engine/LooseRewrite$Made", "meets", "(II)Z"⟩ : MethodName)) (z := (⟨"com/example/midstroke/midstroke/engine/LooseRewrite$Made", "meets", "(II)Z"⟩ : MethodName)) hown (mvT hZ (hw _ (List.mem_of_getElem? (i := 25) rfl))) (mvT hZ (hw _ (List.mem_of_getElem? (i := 26) rfl))) (notFace_of_selects (args := #[]) (mvT hZ (hw _ (List.mem_of_getElem? (i := 28) rfl)))) (mvT hZ (hw _ (List.mem_of_getElem? (i := 28) rfl))) (mvT hZ (hw _ (List.mem_of_getElem? (i := 27) rfl))) (by decide) (backOf (W := 0) (rm_meets l Z a0 hw [] a (own_min p3 p4) (own_max p3 p4) (own_min p1 p2) (own_max p1 p2) T11.heap n0 Z12 F_start_a F_end_a) hZ (hw _ (List.mem_of_getElem? (i := 29) rfl)) (hw _ (List.mem_of_getElem? (i := 9) rfl)) (by decide) (by decide)) q13a q13c (g := (mkF m 96 #[.val (.int p1), .val (.int p2), .val (.int p3), .val (.int p4), .val (.int (own_min p1 p2)), .val (.int (own_max p1 p2)), .val (.int (own_min p3 p4)), .val (.int (own_max p3 p4)), .val (.int (1 : Int32)), .val (.ref a), .val (.ref b), .unset, .unset] [(.int (own_max p3 p4)), (.int (own_min p3 p4)), (.ref a)])) rfl (by rw [hml]; rfl) (Steps.refl _) (argsL := [(.int (own_min p3 p4)), (.int (own_max p3 p4))]) (rest := []) (lenOf pd__28II_29Z rfl) rfl (by show 2 * 0 + _ ≤ _; exact Nat.le_of_eq rfl) (hb hby at_96) (fun _ _ => ⟨rfl, rfl, (by decide : 2 + 0 ≤ _), (by decide : 4 + 0 ≤ _)⟩)
        dsimp only [Pt.U, Pt.locs, Pt.cells, Pt.slots] at X13 l13 y13 z13 st13 hQ13
        subst l13 y13 z13
        obtain ⟨rfl, N13q, HQ13⟩ := hQ13
        have N13 := Fr.app N11 N13q
        refine Goes.pre (U' := T13.setTop (mkF m 99 #[.val (.int p1), .val (.int p2), .val (.int p3), .val (.int p4), .val (.int (own_min p1 p2)), .val (.int (own_max p1 p2)), .val (.int (own_min p3 p4)), .val (.int (own_max p3 p4)), .val (.int (1 : Int32)), .val (.ref a), .val (.ref b), .unset, .unset] [(.int (own_meets (own_min p3 p4) (own_max p3 p4) (own_min p1 p2) (own_max p1 p2)))])) (fun t k => st13.trans k) ?_
        refine Goes.pre (U' := T13.setTop (mkF m 101 #[.val (.int p1), .val (.int p2), .val (.int p3), .val (.int p4), .val (.int (own_min p1 p2)), .val (.int (own_max p1 p2)), .val (.int (own_min p3 p4)), .val (.int (own_max p3 p4)), .val (.int (1 : Int32)), .val (.ref a), .val (.ref b), .val (.int (own_meets (own_min p3 p4) (own_max p3 p4) (own_min p1 p2) (own_max p1 p2))), .unset] [])) (fun t k => XS.istore X13.here hx rfl (hb hby at_99) rfl (l' := #[.val (.int p1), .val (.int p2), .val (.int p3), .val (.int p4), .val (.int (own_min p1 p2)), .val (.int (own_max p1 p2)), .val (.int (own_min p3 p4)), .val (.int (own_max p3 p4)), .val (.int (1 : Int32)), .val (.ref a), .val (.ref b), .val (.int (own_meets (own_min p3 p4) (own_max p3 p4) (own_min p1 p2) (own_max p1 p2))), .unset]) rfl k) ?_
        refine Goes.pre (U' := T13.setTop (mkF m 103 #[.val (.int p1), .val (.int p2), .val (.int p3), .val (.int p4), .val (.int (own_min p1 p2)), .val (.int (own_max p1 p2)), .val (.int (own_min p3 p4)), .val (.int (own_max p3 p4)), .val (.int (1 : Int32)), .val (.ref a), .val (.ref b), .val (.int (own_meets (own_min p3 p4) (own_max p3 p4) (own_min p1 p2) (own_max p1 p2))), .unset] [(.ref b)])) (fun t k => XS.aload X13.here hx rfl (hb hby at_101) rfl rfl k) ?_
        refine Goes.pre (U' := T13.setTop (mkF m 105 #[.val (.int p1), .val (.int p2), .val (.int p3), .val (.int p4), .val (.int (own_min p1 p2)), .val (.int (own_max p1 p2)), .val (.int (own_min p3 p4)), .val (.int (own_max p3 p4)), .val (.int (1 : Int32)), .val (.ref a), .val (.ref b), .val (.int (own_meets (own_min p3 p4) (own_max p3 p4) (own_min p1 p2) (own_max p1 p2))), .unset] [(.int (own_min p1 p2)), (.ref b)])) (fun t k => XS.iload X13.here hx rfl (hb hby at_103) rfl k) ?_
        refine Goes.pre (U' := T13.setTop (mkF m 107 #[.val (.int p1), .val (.int p2), .val (.int p3), .val (.int p4), .val (.int (own_min p1 p2)), .val (.int (own_max p1 p2)), .val (.int (own_min p3 p4)), .val (.int (own_max p3 p4)), .val (.int (1 : Int32)), .val (.ref a), .val (.ref b), .val (.int (own_meets (own_min p3 p4) (own_max p3 p4) (own_min p1 p2) (own_max p1 p2))), .unset] [(.int (own_max p1 p2)), (.int (own_min p1 p2)), (.ref b)])) (fun t k => XS.iload X13.here hx rfl (hb hby at_105) rfl k) ?_
        obtain ⟨cq14, kq14, q14a, q14b, q14c⟩ := isOf hZ HQ13 E_b
        obtain ⟨_, _, ⟨T14, L14, k14, n14⟩, -, X14, ⟨Lc14, hQ14, l14, y14, z14⟩, st14⟩ := X13.virtualBack hx (y := (⟨"com/example/midstroke/midstroke/engine/LooseRewrite$Made", "meets", "(II)Z"⟩ : MethodName)) (z := (⟨"com/example/midstroke/midstroke/engine/LooseRewrite$Made", "meets", "(II)Z"⟩ : MethodName)) hown (mvT hZ (hw _ (List.mem_of_getElem? (i := 25) rfl))) (mvT hZ (hw _ (List.mem_of_getElem? (i := 26) rfl))) (notFace_of_selects (args := #[]) (mvT hZ (hw _ (List.mem_of_getElem? (i := 28) rfl)))) (mvT hZ (hw _ (List.mem_of_getElem? (i := 28) rfl))) (mvT hZ (hw _ (List.mem_of_getElem? (i := 27) rfl))) (by decide) (backOf (W := 0) (rm_meets l Z a0 hw [] b (own_min p1 p2) (own_max p1 p2) (own_min p3 p4) (own_max p3 p4) T11.heap n0 Z12 F_start_b F_end_b) hZ (hw _ (List.mem_of_getElem? (i := 29) rfl)) (hw _ (List.mem_of_getElem? (i := 9) rfl)) (by decide) (by decide)) q14a q14c (g := (mkF m 107 #[.val (.int p1), .val (.int p2), .val (.int p3), .val (.int p4), .val (.int (own_min p1 p2)), .val (.int (own_max p1 p2)), .val (.int (own_min p3 p4)), .val (.int (own_max p3 p4)), .val (.int (1 : Int32)), .val (.ref a), .val (.ref b), .val (.int (own_meets (own_min p3 p4) (own_max p3 p4) (own_min p1 p2) (own_max p1 p2))), .unset] [(.int (own_max p1 p2)), (.int (own_min p1 p2)), (.ref b)])) rfl (by rw [hml]; rfl) (Steps.refl _) (argsL := [(.int (own_min p1 p2)), (.int (own_max p1 p2))]) (rest := []) (lenOf pd__28II_29Z rfl) rfl (by show 2 * 0 + _ ≤ _; exact Nat.le_of_eq rfl) (hb hby at_107) (fun _ _ => ⟨rfl, HQ13, (by decide : 2 + 0 ≤ _), (by decide : 4 + 0 ≤ _)⟩)
        dsimp only [Pt.U, Pt.locs, Pt.cells, Pt.slots] at X14 l14 y14 z14 st14 hQ14
        subst l14 y14 z14
        obtain ⟨rfl, N14q, HQ14⟩ := hQ14
        have N14 := Fr.app N13 N14q
        refine Goes.pre (U' := T14.setTop (mkF m 110 #[.val (.int p1), .val (.int p2), .val (.int p3), .val (.int p4), .val (.int (own_min p1 p2)), .val (.int (own_max p1 p2)), .val (.int (own_min p3 p4)), .val (.int (own_max p3 p4)), .val (.int (1 : Int32)), .val (.ref a), .val (.ref b), .val (.int (own_meets (own_min p3 p4) (own_max p3 p4) (own_min p1 p2) (own_max p1 p2))), .unset] [(.int (own_meets (own_min p1 p2) (own_max p1 p2) (own_min p3 p4) (own_max p3 p4)))])) (fun t k => st14.trans k) ?_
        refine Goes.pre (U' := T14.setTop (mkF m 112 #[.val (.int p1), .val (.int p2), .val (.int p3), .val (.int p4), .val (.int (own_min p1 p2)), .val (.int (own_max p1 p2)), .val (.int (own_min p3 p4)), .val (.int (own_max p3 p4)), .val (.int (1 : Int32)), .val (.ref a), .val (.ref b), .val (.int (own_meets (own_min p3 p4) (own_max p3 p4) (own_min p1 p2) (own_max p1 p2))), .val (.int (own_meets (own_min p1 p2) (own_max p1 p2) (own_min p3 p4) (own_max p3 p4)))] [])) (fun t k => XS.istore X14.here hx rfl (hb hby at_110) rfl (l' := #[.val (.int p1), .val (.int p2), .val (.int p3), .val (.int p4), .val (.int (own_min p1 p2)), .val (.int (own_max p1 p2)), .val (.int (own_min p3 p4)), .val (.int (own_max p3 p4)), .val (.int (1 : Int32)), .val (.ref a), .val (.ref b), .val (.int (own_meets (own_min p3 p4) (own_max p3 p4) (own_min p1 p2) (own_max p1 p2))), .val (.int (own_meets (own_min p1 p2) (own_max p1 p2) (own_min p3 p4) (own_max p3 p4)))]) rfl k) ?_
        refine Goes.pre (U' := T14.setTop (mkF m 114 #[.val (.int p1), .val (.int p2), .val (.int p3), .val (.int p4), .val (.int (own_min p1 p2)), .val (.int (own_max p1 p2)), .val (.int (own_min p3 p4)), .val (.int (own_max p3 p4)), .val (.int (1 : Int32)), .val (.ref a), .val (.ref b), .val (.int (own_meets (own_min p3 p4) (own_max p3 p4) (own_min p1 p2) (own_max p1 p2))), .val (.int (own_meets (own_min p1 p2) (own_max p1 p2) (own_min p3 p4) (own_max p3 p4)))] [(.int (own_meets (own_min p3 p4) (own_max p3 p4) (own_min p1 p2) (own_max p1 p2)))])) (fun t k => XS.iload X14.here hx rfl (hb hby at_112) rfl k) ?_
        refine Goes.pre (U' := T14.setTop (mkF m 116 #[.val (.int p1), .val (.int p2), .val (.int p3), .val (.int p4), .val (.int (own_min p1 p2)), .val (.int (own_max p1 p2)), .val (.int (own_min p3 p4)), .val (.int (own_max p3 p4)), .val (.int (1 : Int32)), .val (.ref a), .val (.ref b), .val (.int (own_meets (own_min p3 p4) (own_max p3 p4) (own_min p1 p2) (own_max p1 p2))), .val (.int (own_meets (own_min p1 p2) (own_max p1 p2) (own_min p3 p4) (own_max p3 p4)))] [(.int (1 : Int32)), (.int (own_meets (own_min p3 p4) (own_max p3 p4) (own_min p1 p2) (own_max p1 p2)))])) (fun t k => XS.iload X14.here hx rfl (hb hby at_114) rfl k) ?_
        have hc116 : (own_meets (own_min p3 p4) (own_max p3 p4) (own_min p1 p2) (own_max p1 p2)) = (1 : Int32) := (own_law _ _ _ _ hc2 hc7 _ (Or.inl ⟨hc54, rfl⟩)).1
        refine Goes.pre (U' := T14.setTop (mkF m 119 #[.val (.int p1), .val (.int p2), .val (.int p3), .val (.int p4), .val (.int (own_min p1 p2)), .val (.int (own_max p1 p2)), .val (.int (own_min p3 p4)), .val (.int (own_max p3 p4)), .val (.int (1 : Int32)), .val (.ref a), .val (.ref b), .val (.int (own_meets (own_min p3 p4) (own_max p3 p4) (own_min p1 p2) (own_max p1 p2))), .val (.int (own_meets (own_min p1 p2) (own_max p1 p2) (own_min p3 p4) (own_max p3 p4)))] [])) (fun t k => XS.icmpNo X14.here hx rfl (hb hby at_116) rfl (teq hc116).2 k) ?_
        refine Goes.pre (U' := T14.setTop (mkF m 121 #[.val (.int p1), .val (.int p2), .val (.int p3), .val (.int p4), .val (.int (own_min p1 p2)), .val (.int (own_max p1 p2)), .val (.int (own_min p3 p4)), .val (.int (own_max p3 p4)), .val (.int (1 : Int32)), .val (.ref a), .val (.ref b), .val (.int (own_meets (own_min p3 p4) (own_max p3 p4) (own_min p1 p2) (own_max p1 p2))), .val (.int (own_meets (own_min p1 p2) (own_max p1 p2) (own_min p3 p4) (own_max p3 p4)))] [(.int (own_meets (own_min p1 p2) (own_max p1 p2) (own_min p3 p4) (own_max p3 p4)))])) (fun t k => XS.iload X14.here hx rfl (hb hby at_119) rfl k) ?_
        refine Goes.pre (U' := T14.setTop (mkF m 123 #[.val (.int p1), .val (.int p2), .val (.int p3), .val (.int p4), .val (.int (own_min p1 p2)), .val (.int (own_max p1 p2)), .val (.int (own_min p3 p4)), .val (.int (own_max p3 p4)), .val (.int (1 : Int32)), .val (.ref a), .val (.ref b), .val (.int (own_meets (own_min p3 p4) (own_max p3 p4) (own_min p1 p2) (own_max p1 p2))), .val (.int (own_meets (own_min p1 p2) (own_max p1 p2) (own_min p3 p4) (own_max p3 p4)))] [(.int (1 : Int32)), (.int (own_meets (own_min p1 p2) (own_max p1 p2) (own_min p3 p4) (own_max p3 p4)))])) (fun t k => XS.iload X14.here hx rfl (hb hby at_121) rfl k) ?_
        have hc123 : (own_meets (own_min p1 p2) (own_max p1 p2) (own_min p3 p4) (own_max p3 p4)) = (1 : Int32) := (own_law _ _ _ _ hc2 hc7 _ (Or.inl ⟨hc54, rfl⟩)).2
        refine Goes.pre (U' := T14.setTop (mkF m 126 #[.val (.int p1), .val (.int p2), .val (.int p3), .val (.int p4), .val (.int (own_min p1 p2)), .val (.int (own_max p1 p2)), .val (.int (own_min p3 p4)), .val (.int (own_max p3 p4)), .val (.int (1 : Int32)), .val (.ref a), .val (.ref b), .val (.int (own_meets (own_min p3 p4) (own_max p3 p4) (own_min p1 p2) (own_max p1 p2))), .val (.int (own_meets (own_min p1 p2) (own_max p1 p2) (own_min p3 p4) (own_max p3 p4)))] [])) (fun t k => XS.icmpNo X14.here hx rfl (hb hby at_123) rfl (teq hc123).2 k) ?_
        refine Goes.pre (U' := T14.setTop (mkF m 127 #[.val (.int p1), .val (.int p2), .val (.int p3), .val (.int p4), .val (.int (own_min p1 p2)), .val (.int (own_max p1 p2)), .val (.int (own_min p3 p4)), .val (.int (own_max p3 p4)), .val (.int (1 : Int32)), .val (.ref a), .val (.ref b), .val (.int (own_meets (own_min p3 p4) (own_max p3 p4) (own_min p1 p2) (own_max p1 p2))), .val (.int (own_meets (own_min p1 p2) (own_max p1 p2) (own_min p3 p4) (own_max p3 p4)))] [(.int (1 : Int32))])) (fun t k => XS.iconst X14.here hx rfl (hb hby at_126) k) ?_
        refine Goes.pre (U' := T14.setTop (mkF m 131 #[.val (.int p1), .val (.int p2), .val (.int p3), .val (.int p4), .val (.int (own_min p1 p2)), .val (.int (own_max p1 p2)), .val (.int (own_min p3 p4)), .val (.int (own_max p3 p4)), .val (.int (1 : Int32)), .val (.ref a), .val (.ref b), .val (.int (own_meets (own_min p3 p4) (own_max p3 p4) (own_min p1 p2) (own_max p1 p2))), .val (.int (own_meets (own_min p1 p2) (own_max p1 p2) (own_min p3 p4) (own_max p3 p4)))] [(.int (1 : Int32))])) (fun t k => XS.goto X14.here hx rfl (pc0 := 127) (pc' := 131) rfl (hb hby at_127) (by decide) (by decide) k) ?_
        refine Goes.ret X14 (v := (some (.int (1 : Int32)))) (fun h => by rw [Bd.returns] at h; cases h) Bd.notSynchronized (by decide) (by decide) HQ14 (fun fs hr => retN X14 hx (t := .boolean) Bd.returns (by simp) (hb hby at_131) hr) ?_
        exact ⟨rfl, N14⟩
      ·
        refine Goes.pre (U' := T6.setTop (mkF m 61 #[.val (.int p1), .val (.int p2), .val (.int p3), .val (.int p4), .val (.int (own_min p1 p2)), .val (.int (own_max p1 p2)), .val (.int (own_min p3 p4)), .val (.int (own_max p3 p4)), .unset, .unset, .unset, .unset, .unset] [])) (fun t k => XS.icmpYes X6.here hx rfl (pc0 := 54) (pc' := 61) rfl (hb hby at_54) rfl (flt hc54).2.1 (by decide) (by decide) k) ?_
        refine Goes.pre (U' := T6.setTop (mkF m 62 #[.val (.int p1), .val (.int p2), .val (.int p3), .val (.int p4), .val (.int (own_min p1 p2)), .val (.int (own_max p1 p2)), .val (.int (own_min p3 p4)), .val (.int (own_max p3 p4)), .unset, .unset, .unset, .unset, .unset] [(.int (0 : Int32))])) (fun t k => XS.iconst X6.here hx rfl (hb hby at_61) k) ?_
        refine Goes.pre (U' := T6.setTop (mkF m 64 #[.val (.int p1), .val (.int p2), .val (.int p3), .val (.int p4), .val (.int (own_min p1 p2)), .val (.int (own_max p1 p2)), .val (.int (own_min p3 p4)), .val (.int (own_max p3 p4)), .val (.int (0 : Int32)), .unset, .unset, .unset, .unset] [])) (fun t k => XS.istore X6.here hx rfl (hb hby at_62) rfl (l' := #[.val (.int p1), .val (.int p2), .val (.int p3), .val (.int p4), .val (.int (own_min p1 p2)), .val (.int (own_max p1 p2)), .val (.int (own_min p3 p4)), .val (.int (own_max p3 p4)), .val (.int (0 : Int32)), .unset, .unset, .unset, .unset]) rfl k) ?_
        obtain ⟨T15, h15, X15, e15, E15, A15, D15, -, st15⟩ := newO X6 hx hZ hown (hw _ (List.mem_of_getElem? (i := 7) rfl)) (hw _ (List.mem_of_getElem? (i := 8) rfl)) (hw _ (List.mem_of_getElem? (i := 9) rfl)) HQ6 (g := (mkF m 64 #[.val (.int p1), .val (.int p2), .val (.int p3), .val (.int p4), .val (.int (own_min p1 p2)), .val (.int (own_max p1 p2)), .val (.int (own_min p3 p4)), .val (.int (own_max p3 p4)), .val (.int (0 : Int32)), .unset, .unset, .unset, .unset] [])) rfl (hb hby at_64) (by decide) (by decide)
        obtain ⟨a, g15⟩ : ∃ z, z = h0.size := ⟨_, rfl⟩
        rw [← g15] at A15 D15 st15
        have g_a : n0 ≤ a := Nat.le_trans Z0 (Nat.le_of_eq g15.symm)
        have Z15 : n0 ≤ h15.size := Nat.le_trans Z0 E15.1
        have E_a := A15
        have F_start_a : Fld Z h15 a "com/example/midstroke/midstroke/engine/LooseRewrite$Made" "start" "I" (.int (0 : Int32)) := D15 (Or.inr (hw _ (List.mem_of_getElem? (i := 22) rfl))) (ty := .int) (by decide)
        have F_end_a : Fld Z h15 a "com/example/midstroke/midstroke/engine/LooseRewrite$Made" "end" "I" (.int (0 : Int32)) := D15 (Or.inr (hw _ (List.mem_of_getElem? (i := 24) rfl))) (ty := .int) (by decide)
        refine Goes.pre (U' := T15.setTop (mkF m 67 #[.val (.int p1), .val (.int p2), .val (.int p3), .val (.int p4), .val (.int (own_min p1 p2)), .val (.int (own_max p1 p2)), .val (.int (own_min p3 p4)), .val (.int (own_max p3 p4)), .val (.int (0 : Int32)), .unset, .unset, .unset, .unset] [(.ref a)])) (fun t k => st15 t k) ?_
        refine Goes.pre (U' := T15.setTop (mkF m 68 #[.val (.int p1), .val (.int p2), .val (.int p3), .val (.int p4), .val (.int (own_min p1 p2)), .val (.int (own_max p1 p2)), .val (.int (own_min p3 p4)), .val (.int (own_max p3 p4)), .val (.int (0 : Int32)), .unset, .unset, .unset, .unset] [(.ref a), (.ref a)])) (fun t k => XS.dup X15.here hx rfl (hb hby at_67) rfl rfl k) ?_
        refine Goes.pre (U' := T15.setTop (mkF m 70 #[.val (.int p1), .val (.int p2), .val (.int p3), .val (.int p4), .val (.int (own_min p1 p2)), .val (.int (own_max p1 p2)), .val (.int (own_min p3 p4)), .val (.int (own_max p3 p4)), .val (.int (0 : Int32)), .unset, .unset, .unset, .unset] [(.int (own_min p1 p2)), (.ref a), (.ref a)])) (fun t k => XS.iload X15.here hx rfl (hb hby at_68) rfl k) ?_
        refine Goes.pre (U' := T15.setTop (mkF m 72 #[.val (.int p1), .val (.int p2), .val (.int p3), .val (.int p4), .val (.int (own_min p1 p2)), .val (.int (own_max p1 p2)), .val (.int (own_min p3 p4)), .val (.int (own_max p3 p4)), .val (.int (0 : Int32)), .unset, .unset, .unset, .unset] [(.int (own_max p1 p2)), (.int (own_min p1 p2)), (.ref a), (.ref a)])) (fun t k => XS.iload X15.here hx rfl (hb hby at_70) rfl k) ?_
        obtain ⟨_, _, ⟨T16, L16, k16, n16⟩, -, X16, ⟨Lc16, hQ16, l16, y16, z16⟩, st16⟩ := X15.specialBack hx (y := (⟨"com/example/midstroke/midstroke/engine/LooseRewrite$Made", "<init>", "(II)V"⟩ : MethodName)) rfl hown (mvT hZ (hw _ (List.mem_of_getElem? (i := 10) rfl))) (mvT hZ (hw _ (List.mem_of_getElem? (i := 11) rfl))) (mvT hZ (hw _ (List.mem_of_getElem? (i := 12) rfl))) (by decide) (backOf (W := 1) (rm_init l Z a0 hw [] a (own_min p1 p2) (own_max p1 p2) h15 n0 Z15 E_a F_start_a F_end_a g_a) hZ (hw _ (List.mem_of_getElem? (i := 12) rfl)) (hw _ (List.mem_of_getElem? (i := 9) rfl)) (by decide) (by decide)) (g := (mkF m 72 #[.val (.int p1), .val (.int p2), .val (.int p3), .val (.int p4), .val (.int (own_min p1 p2)), .val (.int (own_max p1 p2)), .val (.int (own_min p3 p4)), .val (.int (own_max p3 p4)), .val (.int (0 : Int32)), .unset, .unset, .unset, .unset] [(.int (own_max p1 p2)), (.int (own_min p1 p2)), (.ref a), (.ref a)])) rfl (by rw [hml]; rfl) (Steps.refl _) (a := a) (argsL := [(.int (own_min p1 p2)), (.int (own_max p1 p2))]) (rest := [(.ref a)]) (lenOf pd__28II_29V rfl) rfl (by show 2 * 0 + _ ≤ _; exact Nat.le_of_eq rfl) (hb hby at_72) (fun _ _ => ⟨rfl, e15, (by decide : 1 + 0 ≤ _), (by decide : 2 + 0 ≤ _)⟩)
        dsimp only [Pt.U, Pt.locs, Pt.cells, Pt.slots] at X16 l16 y16 z16 st16 hQ16
        subst l16 y16 z16
        obtain ⟨rfl, N16q, KQ16, fqstart_16, fqend_16⟩ := hQ16
        have N16 := Fr.app N6 N16q
        have E_a := E_a.keep KQ16
        have Z17 : n0 ≤ T16.heap.size := Nat.le_trans Z15 KQ16.1
        have F_start_a := fqstart_16
        have F_end_a := fqend_16
        refine Goes.pre (U' := T16.setTop (mkF m 75 #[.val (.int p1), .val (.int p2), .val (.int p3), .val (.int p4), .val (.int (own_min p1 p2)), .val (.int (own_max p1 p2)), .val (.int (own_min p3 p4)), .val (.int (own_max p3 p4)), .val (.int (0 : Int32)), .unset, .unset, .unset, .unset] [(.ref a)])) (fun t k => st16.trans k) ?_
        refine Goes.pre (U' := T16.setTop (mkF m 77 #[.val (.int p1), .val (.int p2), .val (.int p3), .val (.int p4), .val (.int (own_min p1 p2)), .val (.int (own_max p1 p2)), .val (.int (own_min p3 p4)), .val (.int (own_max p3 p4)), .val (.int (0 : Int32)), .val (.ref a), .unset, .unset, .unset] [])) (fun t k => XS.astore X16.here hx rfl (hb hby at_75) rfl rfl (l' := #[.val (.int p1), .val (.int p2), .val (.int p3), .val (.int p4), .val (.int (own_min p1 p2)), .val (.int (own_max p1 p2)), .val (.int (own_min p3 p4)), .val (.int (own_max p3 p4)), .val (.int (0 : Int32)), .val (.ref a), .unset, .unset, .unset]) rfl k) ?_
        obtain ⟨T18, h18, X18, e18, E18, A18, D18, -, st18⟩ := newO X16 hx hZ hown (hw _ (List.mem_of_getElem? (i := 7) rfl)) (hw _ (List.mem_of_getElem? (i := 8) rfl)) (hw _ (List.mem_of_getElem? (i := 9) rfl)) rfl (g := (mkF m 77 #[.val (.int p1), .val (.int p2), .val (.int p3), .val (.int p4), .val (.int (own_min p1 p2)), .val (.int (own_max p1 p2)), .val (.int (own_min p3 p4)), .val (.int (own_max p3 p4)), .val (.int (0 : Int32)), .val (.ref a), .unset, .unset, .unset] [])) rfl (hb hby at_77) (by decide) (by decide)
        obtain ⟨b, g18⟩ : ∃ z, z = T16.heap.size := ⟨_, rfl⟩
        rw [← g18] at A18 D18 st18
        have ne_a_b : a ≠ b := Nat.ne_of_lt (Nat.lt_of_lt_of_le E_a.lt (Nat.le_of_eq g18.symm))
        have ne_b_a := ne_a_b.symm
        have g_b : n0 ≤ b := Nat.le_trans Z17 (Nat.le_of_eq g18.symm)
        have E_a := E_a.ext E18
        have F_start_a := F_start_a.ext E18
        have F_end_a := F_end_a.ext E18
        have Z18 : n0 ≤ h18.size := Nat.le_trans Z17 E18.1
        have E_b := A18
        have F_start_b : Fld Z h18 b "com/example/midstroke/midstroke/engine/LooseRewrite$Made" "start" "I" (.int (0 : Int32)) := D18 (Or.inr (hw _ (List.mem_of_getElem? (i := 22) rfl))) (ty := .int) (by decide)
        have F_end_b : Fld Z h18 b "com/example/midstroke/midstroke/engine/LooseRewrite$Made" "end" "I" (.int (0 : Int32)) := D18 (Or.inr (hw _ (List.mem_of_getElem? (i := 24) rfl))) (ty := .int) (by decide)
        refine Goes.pre (U' := T18.setTop (mkF m 80 #[.val (.int p1), .val (.int p2), .val (.int p3), .val (.int p4), .val (.int (own_min p1 p2)), .val (.int (own_max p1 p2)), .val (.int (own_min p3 p4)), .val (.int (own_max p3 p4)), .val (.int (0 : Int32)), .val (.ref a), .unset, .unset, .unset] [(.ref b)])) (fun t k => st18 t k) ?_
        refine Goes.pre (U' := T18.setTop (mkF m 81 #[.val (.int p1), .val (.int p2), .val (.int p3), .val (.int p4), .val (.int (own_min p1 p2)), .val (.int (own_max p1 p2)), .val (.int (own_min p3 p4)), .val (.int (own_max p3 p4)), .val (.int (0 : Int32)), .val (.ref a), .unset, .unset, .unset] [(.ref b), (.ref b)])) (fun t k => XS.dup X18.here hx rfl (hb hby at_80) rfl rfl k) ?_
        refine Goes.pre (U' := T18.setTop (mkF m 83 #[.val (.int p1), .val (.int p2), .val (.int p3), .val (.int p4), .val (.int (own_min p1 p2)), .val (.int (own_max p1 p2)), .val (.int (own_min p3 p4)), .val (.int (own_max p3 p4)), .val (.int (0 : Int32)), .val (.ref a), .unset, .unset, .unset] [(.int (own_min p3 p4)), (.ref b), (.ref b)])) (fun t k => XS.iload X18.here hx rfl (hb hby at_81) rfl k) ?_
        refine Goes.pre (U' := T18.setTop (mkF m 85 #[.val (.int p1), .val (.int p2), .val (.int p3), .val (.int p4), .val (.int (own_min p1 p2)), .val (.int (own_max p1 p2)), .val (.int (own_min p3 p4)), .val (.int (own_max p3 p4)), .val (.int (0 : Int32)), .val (.ref a), .unset, .unset, .unset] [(.int (own_max p3 p4)), (.int (own_min p3 p4)), (.ref b), (.ref b)])) (fun t k => XS.iload X18.here hx rfl (hb hby at_83) rfl k) ?_
        obtain ⟨_, _, ⟨T19, L19, k19, n19⟩, -, X19, ⟨Lc19, hQ19, l19, y19, z19⟩, st19⟩ := X18.specialBack hx (y := (⟨"com/example/midstroke/midstroke/engine/LooseRewrite$Made", "<init>", "(II)V"⟩ : MethodName)) rfl hown (mvT hZ (hw _ (List.mem_of_getElem? (i := 10) rfl))) (mvT hZ (hw _ (List.mem_of_getElem? (i := 11) rfl))) (mvT hZ (hw _ (List.mem_of_getElem? (i := 12) rfl))) (by decide) (backOf (W := 1) (rm_init l Z a0 hw [] b (own_min p3 p4) (own_max p3 p4) h18 n0 Z18 E_b F_start_b F_end_b g_b) hZ (hw _ (List.mem_of_getElem? (i := 12) rfl)) (hw _ (List.mem_of_getElem? (i := 9) rfl)) (by decide) (by decide)) (g := (mkF m 85 #[.val (.int p1), .val (.int p2), .val (.int p3), .val (.int p4), .val (.int (own_min p1 p2)), .val (.int (own_max p1 p2)), .val (.int (own_min p3 p4)), .val (.int (own_max p3 p4)), .val (.int (0 : Int32)), .val (.ref a), .unset, .unset, .unset] [(.int (own_max p3 p4)), (.int (own_min p3 p4)), (.ref b), (.ref b)])) rfl (by rw [hml]; rfl) (Steps.refl _) (a := b) (argsL := [(.int (own_min p3 p4)), (.int (own_max p3 p4))]) (rest := [(.ref b)]) (lenOf pd__28II_29V rfl) rfl (by show 2 * 0 + _ ≤ _; exact Nat.le_of_eq rfl) (hb hby at_85) (fun _ _ => ⟨rfl, e18, (by decide : 2 + 0 ≤ _), (by decide : 4 + 0 ≤ _)⟩)
        dsimp only [Pt.U, Pt.locs, Pt.cells, Pt.slots] at X19 l19 y19 z19 st19 hQ19
        subst l19 y19 z19
        obtain ⟨rfl, N19q, KQ19, fqstart_19, fqend_19⟩ := hQ19
        have N19 := Fr.app N16 N19q
        have E_a := E_a.keep KQ19
        have F_start_a := F_start_a.keep KQ19 (ninS ne_a_b nin0)
        have F_end_a := F_end_a.keep KQ19 (ninS ne_a_b nin0)
        have E_b := E_b.keep KQ19
        have Z20 : n0 ≤ T19.heap.size := Nat.le_trans Z18 KQ19.1
        have F_start_b := fqstart_19
        have F_end_b := fqend_19
        refine Goes.pre (U' := T19.setTop (mkF m 88 #[.val (.int p1), .val (.int p2), .val (.int p3), .val (.int p4), .val (.int (own_min p1 p2)), .val (.int (own_max p1 p2)), .val (.int (own_min p3 p4)), .val (.int (own_max p3 p4)), .val (.int (0 : Int32)), .val (.ref a), .unset, .unset, .unset] [(.ref b)])) (fun t k => st19.trans k) ?_
        refine Goes.pre (U' := T19.setTop (mkF m 90 #[.val (.int p1), .val (.int p2), .val (.int p3), .val (.int p4), .val (.int (own_min p1 p2)), .val (.int (own_max p1 p2)), .val (.int (own_min p3 p4)), .val (.int (own_max p3 p4)), .val (.int (0 : Int32)), .val (.ref a), .val (.ref b), .unset, .unset] [])) (fun t k => XS.astore X19.here hx rfl (hb hby at_88) rfl rfl (l' := #[.val (.int p1), .val (.int p2), .val (.int p3), .val (.int p4), .val (.int (own_min p1 p2)), .val (.int (own_max p1 p2)), .val (.int (own_min p3 p4)), .val (.int (own_max p3 p4)), .val (.int (0 : Int32)), .val (.ref a), .val (.ref b), .unset, .unset]) rfl k) ?_
        refine Goes.pre (U' := T19.setTop (mkF m 92 #[.val (.int p1), .val (.int p2), .val (.int p3), .val (.int p4), .val (.int (own_min p1 p2)), .val (.int (own_max p1 p2)), .val (.int (own_min p3 p4)), .val (.int (own_max p3 p4)), .val (.int (0 : Int32)), .val (.ref a), .val (.ref b), .unset, .unset] [(.ref a)])) (fun t k => XS.aload X19.here hx rfl (hb hby at_90) rfl rfl k) ?_
        refine Goes.pre (U' := T19.setTop (mkF m 94 #[.val (.int p1), .val (.int p2), .val (.int p3), .val (.int p4), .val (.int (own_min p1 p2)), .val (.int (own_max p1 p2)), .val (.int (own_min p3 p4)), .val (.int (own_max p3 p4)), .val (.int (0 : Int32)), .val (.ref a), .val (.ref b), .unset, .unset] [(.int (own_min p3 p4)), (.ref a)])) (fun t k => XS.iload X19.here hx rfl (hb hby at_92) rfl k) ?_
        refine Goes.pre (U' := T19.setTop (mkF m 96 #[.val (.int p1), .val (.int p2), .val (.int p3), .val (.int p4), .val (.int (own_min p1 p2)), .val (.int (own_max p1 p2)), .val (.int (own_min p3 p4)), .val (.int (own_max p3 p4)), .val (.int (0 : Int32)), .val (.ref a), .val (.ref b), .unset, .unset] [(.int (own_max p3 p4)), (.int (own_min p3 p4)), (.ref a)])) (fun t k => XS.iload X19.here hx rfl (hb hby at_94) rfl k) ?_
        obtain ⟨cq21, kq21, q21a, q21b, q21c⟩ := isOf hZ rfl E_a
        obtain ⟨_, _, ⟨T21, L21, k21, n21⟩, -, X21, ⟨Lc21, hQ21, l21, y21, z21⟩, st21⟩ := X19.virtualBack hx (y := (⟨"com/example/midstroke/midstroke/engine/LooseRewrite$Made", "meets", "(II)Z"⟩ : MethodName)) (z := (⟨"com/example/midstroke/midstroke/engine/LooseRewrite$Made", "meets", "(II)Z"⟩ : MethodName)) hown (mvT hZ (hw _ (List.mem_of_getElem? (i := 25) rfl))) (mvT hZ (hw _ (List.mem_of_getElem? (i := 26) rfl))) (notFace_of_selects (args := #[]) (mvT hZ (hw _ (List.mem_of_getElem? (i := 28) rfl)))) (mvT hZ (hw _ (List.mem_of_getElem? (i := 28) rfl))) (mvT hZ (hw _ (List.mem_of_getElem? (i := 27) rfl))) (by decide) (backOf (W := 0) (rm_meets l Z a0 hw [] a (own_min p3 p4) (own_max p3 p4) (own_min p1 p2) (own_max p1 p2) T19.heap n0 Z20 F_start_a F_end_a) hZ (hw _ (List.mem_of_getElem? (i := 29) rfl)) (hw _ (List.mem_of_getElem? (i := 9) rfl)) (by decide) (by decide)) q21a q21c (g := (mkF m 96 #[.val (.int p1), .val (.int p2), .val (.int p3), .val (.int p4), .val (.int (own_min p1 p2)), .val (.int (own_max p1 p2)), .val (.int (own_min p3 p4)), .val (.int (own_max p3 p4)), .val (.int (0 : Int32)), .val (.ref a), .val (.ref b), .unset, .unset] [(.int (own_max p3 p4)), (.int (own_min p3 p4)), (.ref a)])) rfl (by rw [hml]; rfl) (Steps.refl _) (argsL := [(.int (own_min p3 p4)), (.int (own_max p3 p4))]) (rest := []) (lenOf pd__28II_29Z rfl) rfl (by show 2 * 0 + _ ≤ _; exact Nat.le_of_eq rfl) (hb hby at_96) (fun _ _ => ⟨rfl, rfl, (by decide : 2 + 0 ≤ _), (by decide : 4 + 0 ≤ _)⟩)
        dsimp only [Pt.U, Pt.locs, Pt.cells, Pt.slots] at X21 l21 y21 z21 st21 hQ21
        subst l21 y21 z21
        obtain ⟨rfl, N21q, HQ21⟩ := hQ21
        have N21 := Fr.app N19 N21q
        refine Goes.pre (U' := T21.setTop (mkF m 99 #[.val (.int p1), .val (.int p2), .val (.int p3), .val (.int p4), .val (.int (own_min p1 p2)), .val (.int (own_max p1 p2)), .val (.int (own_min p3 p4)), .val (.int (own_max p3 p4)), .val (.int (0 : Int32)), .val (.ref a), .val (.ref b), .unset, .unset] [(.int (own_meets (own_min p3 p4) (own_max p3 p4) (own_min p1 p2) (own_max p1 p2)))])) (fun t k => st21.trans k) ?_
        refine Goes.pre (U' := T21.setTop (mkF m 101 #[.val (.int p1), .val (.int p2), .val (.int p3), .val (.int p4), .val (.int (own_min p1 p2)), .val (.int (own_max p1 p2)), .val (.int (own_min p3 p4)), .val (.int (own_max p3 p4)), .val (.int (0 : Int32)), .val (.ref a), .val (.ref b), .val (.int (own_meets (own_min p3 p4) (own_max p3 p4) (own_min p1 p2) (own_max p1 p2))), .unset] [])) (fun t k => XS.istore X21.here hx rfl (hb hby at_99) rfl (l' := #[.val (.int p1), .val (.int p2), .val (.int p3), .val (.int p4), .val (.int (own_min p1 p2)), .val (.int (own_max p1 p2)), .val (.int (own_min p3 p4)), .val (.int (own_max p3 p4)), .val (.int (0 : Int32)), .val (.ref a), .val (.ref b), .val (.int (own_meets (own_min p3 p4) (own_max p3 p4) (own_min p1 p2) (own_max p1 p2))), .unset]) rfl k) ?_
        refine Goes.pre (U' := T21.setTop (mkF m 103 #[.val (.int p1), .val (.int p2), .val (.int p3), .val (.int p4), .val (.int (own_min p1 p2)), .val (.int (own_max p1 p2)), .val (.int (own_min p3 p4)), .val (.int (own_max p3 p4)), .val (.int (0 : Int32)), .val (.ref a), .val (.ref b), .val (.int (own_meets (own_min p3 p4) (own_max p3 p4) (own_min p1 p2) (own_max p1 p2))), .unset] [(.ref b)])) (fun t k => XS.aload X21.here hx rfl (hb hby at_101) rfl rfl k) ?_
        refine Goes.pre (U' := T21.setTop (mkF m 105 #[.val (.int p1), .val (.int p2), .val (.int p3), .val (.int p4), .val (.int (own_min p1 p2)), .val (.int (own_max p1 p2)), .val (.int (own_min p3 p4)), .val (.int (own_max p3 p4)), .val (.int (0 : Int32)), .val (.ref a), .val (.ref b), .val (.int (own_meets (own_min p3 p4) (own_max p3 p4) (own_min p1 p2) (own_max p1 p2))), .unset] [(.int (own_min p1 p2)), (.ref b)])) (fun t k => XS.iload X21.here hx rfl (hb hby at_103) rfl k) ?_
        refine Goes.pre (U' := T21.setTop (mkF m 107 #[.val (.int p1), .val (.int p2), .val (.int p3), .val (.int p4), .val (.int (own_min p1 p2)), .val (.int (own_max p1 p2)), .val (.int (own_min p3 p4)), .val (.int (own_max p3 p4)), .val (.int (0 : Int32)), .val (.ref a), .val (.ref b), .val (.int (own_meets (own_min p3 p4) (own_max p3 p4) (own_min p1 p2) (own_max p1 p2))), .unset] [(.int (own_max p1 p2)), (.int (own_min p1 p2)), (.ref b)])) (fun t k => XS.iload X21.here hx rfl (hb hby at_105) rfl k) ?_
        obtain ⟨cq22, kq22, q22a, q22b, q22c⟩ := isOf hZ HQ21 E_b
        obtain ⟨_, _, ⟨T22, L22, k22, n22⟩, -, X22, ⟨Lc22, hQ22, l22, y22, z22⟩, st22⟩ := X21.virtualBack hx (y := (⟨"com/example/midstroke/midstroke/engine/LooseRewrite$Made", "meets", "(II)Z"⟩ : MethodName)) (z := (⟨"com/example/midstroke/midstroke/engine/LooseRewrite$Made", "meets", "(II)Z"⟩ : MethodName)) hown (mvT hZ (hw _ (List.mem_of_getElem? (i := 25) rfl))) (mvT hZ (hw _ (List.mem_of_getElem? (i := 26) rfl))) (notFace_of_selects (args := #[]) (mvT hZ (hw _ (List.mem_of_getElem? (i := 28) rfl)))) (mvT hZ (hw _ (List.mem_of_getElem? (i := 28) rfl))) (mvT hZ (hw _ (List.mem_of_getElem? (i := 27) rfl))) (by decide) (backOf (W := 0) (rm_meets l Z a0 hw [] b (own_min p1 p2) (own_max p1 p2) (own_min p3 p4) (own_max p3 p4) T19.heap n0 Z20 F_start_b F_end_b) hZ (hw _ (List.mem_of_getElem? (i := 29) rfl)) (hw _ (List.mem_of_getElem? (i := 9) rfl)) (by decide) (by decide)) q22a q22c (g := (mkF m 107 #[.val (.int p1), .val (.int p2), .val (.int p3), .val (.int p4), .val (.int (own_min p1 p2)), .val (.int (own_max p1 p2)), .val (.int (own_min p3 p4)), .val (.int (own_max p3 p4)), .val (.int (0 : Int32)), .val (.ref a), .val (.ref b), .val (.int (own_meets (own_min p3 p4) (own_max p3 p4) (own_min p1 p2) (own_max p1 p2))), .unset] [(.int (own_max p1 p2)), (.int (own_min p1 p2)), (.ref b)])) rfl (by rw [hml]; rfl) (Steps.refl _) (argsL := [(.int (own_min p1 p2)), (.int (own_max p1 p2))]) (rest := []) (lenOf pd__28II_29Z rfl) rfl (by show 2 * 0 + _ ≤ _; exact Nat.le_of_eq rfl) (hb hby at_107) (fun _ _ => ⟨rfl, HQ21, (by decide : 2 + 0 ≤ _), (by decide : 4 + 0 ≤ _)⟩)
        dsimp only [Pt.U, Pt.locs, Pt.cells, Pt.slots] at X22 l22 y22 z22 st22 hQ22
        subst l22 y22 z22
        obtain ⟨rfl, N22q, HQ22⟩ := hQ22
        have N22 := Fr.app N21 N22q
        refine Goes.pre (U' := T22.setTop (mkF m 110 #[.val (.int p1), .val (.int p2), .val (.int p3), .val (.int p4), .val (.int (own_min p1 p2)), .val (.int (own_max p1 p2)), .val (.int (own_min p3 p4)), .val (.int (own_max p3 p4)), .val (.int (0 : Int32)), .val (.ref a), .val (.ref b), .val (.int (own_meets (own_min p3 p4) (own_max p3 p4) (own_min p1 p2) (own_max p1 p2))), .unset] [(.int (own_meets (own_min p1 p2) (own_max p1 p2) (own_min p3 p4) (own_max p3 p4)))])) (fun t k => st22.trans k) ?_
        refine Goes.pre (U' := T22.setTop (mkF m 112 #[.val (.int p1), .val (.int p2), .val (.int p3), .val (.int p4), .val (.int (own_min p1 p2)), .val (.int (own_max p1 p2)), .val (.int (own_min p3 p4)), .val (.int (own_max p3 p4)), .val (.int (0 : Int32)), .val (.ref a), .val (.ref b), .val (.int (own_meets (own_min p3 p4) (own_max p3 p4) (own_min p1 p2) (own_max p1 p2))), .val (.int (own_meets (own_min p1 p2) (own_max p1 p2) (own_min p3 p4) (own_max p3 p4)))] [])) (fun t k => XS.istore X22.here hx rfl (hb hby at_110) rfl (l' := #[.val (.int p1), .val (.int p2), .val (.int p3), .val (.int p4), .val (.int (own_min p1 p2)), .val (.int (own_max p1 p2)), .val (.int (own_min p3 p4)), .val (.int (own_max p3 p4)), .val (.int (0 : Int32)), .val (.ref a), .val (.ref b), .val (.int (own_meets (own_min p3 p4) (own_max p3 p4) (own_min p1 p2) (own_max p1 p2))), .val (.int (own_meets (own_min p1 p2) (own_max p1 p2) (own_min p3 p4) (own_max p3 p4)))]) rfl k) ?_
        refine Goes.pre (U' := T22.setTop (mkF m 114 #[.val (.int p1), .val (.int p2), .val (.int p3), .val (.int p4), .val (.int (own_min p1 p2)), .val (.int (own_max p1 p2)), .val (.int (own_min p3 p4)), .val (.int (own_max p3 p4)), .val (.int (0 : Int32)), .val (.ref a), .val (.ref b), .val (.int (own_meets (own_min p3 p4) (own_max p3 p4) (own_min p1 p2) (own_max p1 p2))), .val (.int (own_meets (own_min p1 p2) (own_max p1 p2) (own_min p3 p4) (own_max p3 p4)))] [(.int (own_meets (own_min p3 p4) (own_max p3 p4) (own_min p1 p2) (own_max p1 p2)))])) (fun t k => XS.iload X22.here hx rfl (hb hby at_112) rfl k) ?_
        refine Goes.pre (U' := T22.setTop (mkF m 116 #[.val (.int p1), .val (.int p2), .val (.int p3), .val (.int p4), .val (.int (own_min p1 p2)), .val (.int (own_max p1 p2)), .val (.int (own_min p3 p4)), .val (.int (own_max p3 p4)), .val (.int (0 : Int32)), .val (.ref a), .val (.ref b), .val (.int (own_meets (own_min p3 p4) (own_max p3 p4) (own_min p1 p2) (own_max p1 p2))), .val (.int (own_meets (own_min p1 p2) (own_max p1 p2) (own_min p3 p4) (own_max p3 p4)))] [(.int (0 : Int32)), (.int (own_meets (own_min p3 p4) (own_max p3 p4) (own_min p1 p2) (own_max p1 p2)))])) (fun t k => XS.iload X22.here hx rfl (hb hby at_114) rfl k) ?_
        have hc116 : (own_meets (own_min p3 p4) (own_max p3 p4) (own_min p1 p2) (own_max p1 p2)) = (0 : Int32) := (own_law _ _ _ _ hc2 hc7 _ (Or.inr ⟨hc54, rfl⟩)).1
        refine Goes.pre (U' := T22.setTop (mkF m 119 #[.val (.int p1), .val (.int p2), .val (.int p3), .val (.int p4), .val (.int (own_min p1 p2)), .val (.int (own_max p1 p2)), .val (.int (own_min p3 p4)), .val (.int (own_max p3 p4)), .val (.int (0 : Int32)), .val (.ref a), .val (.ref b), .val (.int (own_meets (own_min p3 p4) (own_max p3 p4) (own_min p1 p2) (own_max p1 p2))), .val (.int (own_meets (own_min p1 p2) (own_max p1 p2) (own_min p3 p4) (own_max p3 p4)))] [])) (fun t k => XS.icmpNo X22.here hx rfl (hb hby at_116) rfl (teq hc116).2 k) ?_
        refine Goes.pre (U' := T22.setTop (mkF m 121 #[.val (.int p1), .val (.int p2), .val (.int p3), .val (.int p4), .val (.int (own_min p1 p2)), .val (.int (own_max p1 p2)), .val (.int (own_min p3 p4)), .val (.int (own_max p3 p4)), .val (.int (0 : Int32)), .val (.ref a), .val (.ref b), .val (.int (own_meets (own_min p3 p4) (own_max p3 p4) (own_min p1 p2) (own_max p1 p2))), .val (.int (own_meets (own_min p1 p2) (own_max p1 p2) (own_min p3 p4) (own_max p3 p4)))] [(.int (own_meets (own_min p1 p2) (own_max p1 p2) (own_min p3 p4) (own_max p3 p4)))])) (fun t k => XS.iload X22.here hx rfl (hb hby at_119) rfl k) ?_
        refine Goes.pre (U' := T22.setTop (mkF m 123 #[.val (.int p1), .val (.int p2), .val (.int p3), .val (.int p4), .val (.int (own_min p1 p2)), .val (.int (own_max p1 p2)), .val (.int (own_min p3 p4)), .val (.int (own_max p3 p4)), .val (.int (0 : Int32)), .val (.ref a), .val (.ref b), .val (.int (own_meets (own_min p3 p4) (own_max p3 p4) (own_min p1 p2) (own_max p1 p2))), .val (.int (own_meets (own_min p1 p2) (own_max p1 p2) (own_min p3 p4) (own_max p3 p4)))] [(.int (0 : Int32)), (.int (own_meets (own_min p1 p2) (own_max p1 p2) (own_min p3 p4) (own_max p3 p4)))])) (fun t k => XS.iload X22.here hx rfl (hb hby at_121) rfl k) ?_
        have hc123 : (own_meets (own_min p1 p2) (own_max p1 p2) (own_min p3 p4) (own_max p3 p4)) = (0 : Int32) := (own_law _ _ _ _ hc2 hc7 _ (Or.inr ⟨hc54, rfl⟩)).2
        refine Goes.pre (U' := T22.setTop (mkF m 126 #[.val (.int p1), .val (.int p2), .val (.int p3), .val (.int p4), .val (.int (own_min p1 p2)), .val (.int (own_max p1 p2)), .val (.int (own_min p3 p4)), .val (.int (own_max p3 p4)), .val (.int (0 : Int32)), .val (.ref a), .val (.ref b), .val (.int (own_meets (own_min p3 p4) (own_max p3 p4) (own_min p1 p2) (own_max p1 p2))), .val (.int (own_meets (own_min p1 p2) (own_max p1 p2) (own_min p3 p4) (own_max p3 p4)))] [])) (fun t k => XS.icmpNo X22.here hx rfl (hb hby at_123) rfl (teq hc123).2 k) ?_
        refine Goes.pre (U' := T22.setTop (mkF m 127 #[.val (.int p1), .val (.int p2), .val (.int p3), .val (.int p4), .val (.int (own_min p1 p2)), .val (.int (own_max p1 p2)), .val (.int (own_min p3 p4)), .val (.int (own_max p3 p4)), .val (.int (0 : Int32)), .val (.ref a), .val (.ref b), .val (.int (own_meets (own_min p3 p4) (own_max p3 p4) (own_min p1 p2) (own_max p1 p2))), .val (.int (own_meets (own_min p1 p2) (own_max p1 p2) (own_min p3 p4) (own_max p3 p4)))] [(.int (1 : Int32))])) (fun t k => XS.iconst X22.here hx rfl (hb hby at_126) k) ?_
        refine Goes.pre (U' := T22.setTop (mkF m 131 #[.val (.int p1), .val (.int p2), .val (.int p3), .val (.int p4), .val (.int (own_min p1 p2)), .val (.int (own_max p1 p2)), .val (.int (own_min p3 p4)), .val (.int (own_max p3 p4)), .val (.int (0 : Int32)), .val (.ref a), .val (.ref b), .val (.int (own_meets (own_min p3 p4) (own_max p3 p4) (own_min p1 p2) (own_max p1 p2))), .val (.int (own_meets (own_min p1 p2) (own_max p1 p2) (own_min p3 p4) (own_max p3 p4)))] [(.int (1 : Int32))])) (fun t k => XS.goto X22.here hx rfl (pc0 := 127) (pc' := 131) rfl (hb hby at_127) (by decide) (by decide) k) ?_
        refine Goes.ret X22 (v := (some (.int (1 : Int32)))) (fun h => by rw [Bd.returns] at h; cases h) Bd.notSynchronized (by decide) (by decide) HQ22 (fun fs hr => retN X22 hx (t := .boolean) Bd.returns (by simp) (hb hby at_131) hr) ?_
        exact ⟨rfl, N22⟩
set_option maxRecDepth 65536 in
set_option maxHeartbeats 40000000 in
theorem comes_1 {Post : Tables → Env → Array Value → State → Outcome → State → Prop} (hpost : ∀ tb e args s v u, (limb_1_1.after args s (.returned v) u = true ∧ limb_1_2.after args s (.returned v) u = true ∧ True) → FrameEnd s (.returned v) u (Jvm.fieldLocs frame_1_writes args s ++ Jvm.arrayLocs frame_1_arrays args s ++ Jvm.staticLocs frame_1_statics s) 16 128 → Post tb e args s (.returned v) u) :
    ArmFor flags0 classFile x code maxLocals ret World_1 tables_1 room_1 Calls_1 rest_1 Pre_1 Post := by
  intro l hfl _ _ p e ha hc hk s m args below hf hA hF happ hP
  obtain ⟨hcalls, hrest, hpre⟩ := hP
  obtain ⟨-, -, -, hnamed, -, -, -, hat⟩ := (Spec.applies_iff hf).mp happ
  obtain ⟨hg, hn⟩ := and_e (Cond.before_iff.mp (show (Jvm.Cond.and given_1 narrow_1).before args s = true from hpre))
  obtain ⟨g1, g2⟩ := and_e hg
  obtain ⟨g3, g4⟩ := and_e g2
  obtain ⟨g5, g6⟩ := and_e g4
  obtain ⟨g7, g8⟩ := and_e g6
  obtain ⟨w0, w1, w2, w3, rfl⟩ : ∃ w0 w1 w2 w3 : Value, args = #[w0, w1, w2, w3] := by
    have hs : args.size = 4 := by simpa [Cond.value, given_1] using g1
    obtain ⟨L⟩ := args
    match L, hs with
    | [w0, w1, w2, w3], _ => exact ⟨w0, w1, w2, w3, rfl⟩
  have hw := fun d (hd : d ∈ tables_1) => atoms_spec (ws := Jvm.Cond.code x code maxLocals ret :: tables_1) hat d (List.mem_cons_of_mem _ hd)
  have hfit : Fit s := fun {y c} hc i hi => by
    obtain ⟨ha, rfl⟩ := Array.getElem?_eq_some_iff.mp hc
    have q := List.all_eq_true.mp ((Array.all_eq_true_iff_forall_mem.mp hF) _ (Array.getElem_mem ha)) i (List.mem_range.mpr hi)
    simpa [Array.getElem?_eq_getElem hi] using q
  obtain ⟨i0, ei0⟩ := is_v g3
  obtain rfl : w0 = (.int i0) := Option.some.inj ei0
  obtain ⟨i1, ei1⟩ := is_v g5
  obtain rfl : w1 = (.int i1) := Option.some.inj ei1
  obtain ⟨i2, ei2⟩ := is_v g7
  obtain rfl : w2 = (.int i2) := Option.some.inj ei2
  obtain ⟨i3, ei3⟩ := is_v g8
  obtain rfl : w3 = (.int i3) := Option.some.inj ei3
  obtain ⟨n, o, h1, h2, h3, _, L, rfl, ⟨rfl, N⟩, hq⟩ := rm0 l s _ hw tables_1 i0 i1 i2 i3 s.heap s.heap.size (Nat.le_refl _) p e ha hc hk s m _ below hf ((Spec.applies_iff_loose hf).mp happ).1 ⟨rfl, State.Warmed39.refl s, rfl⟩ trivial
  refine ⟨n, _, h1, h2, h3, hpost _ _ _ _ _ _ ⟨Cond.after_iff.mpr rfl, Cond.after_iff.mpr (eq_i res_at (Term.int_eval (1)) rfl), trivial⟩ ⟨hq.1, hq.2.1, (hq.2.2.sift fun y hy => Or.inr (N y hy)).mono (by decide) (by decide)⟩⟩
theorem main_1_1 : Claimed_1_1 := comes_1 fun _ _ _ _ _ _ h hF => ⟨h.1, hF⟩
theorem main_1_2 : Claimed_1_2 := comes_1 fun _ _ _ _ _ _ h hF => ⟨h.2.1, hF⟩
end Jvm.Pilot.@@N@@
namespace Jvm.Pilot.@@N@@
open Jvm Jvm.ClassFile Sem Op Lib Jvm.Free Jvm.Stand Jvm.Pilot.@@N@@.Jvm.D
/-! MADE BY PROGRAM (witnessworld.py) out of the Statement's table words and the real class files: 11 classes; the members and pool entries that the words name. The judged class is class 1, her method 1. -/
namespace start1
open Jvm.ClassFile
def u (s : String) : CpInfo := .utf8 (stringToUtf16 s)
/-- a pool by its gaps: so many unusable entries, then the entry; so many at the end -/
def gap : Nat → List CpInfo → List CpInfo
  | 0, r => r
  | n + 1, r => .unusable :: gap n r
def poolList (es : List (Nat × CpInfo)) (last : Nat) : List CpInfo := es.foldr (fun e r => gap e.1 (e.2 :: r)) (gap last [])
def pool (es : List (Nat × CpInfo)) (last : Nat) : Array CpInfo := ⟨poolList es last⟩
def fileOf (pool : Array CpInfo) (this : Nat) (attrs : Array Attribute := #[]) (ms : Array MethodInfo := #[]) (fl : Nat := 33) (sup : Nat := 0) (ifs : Array Nat := #[]) (fds : Array FieldInfo := #[]) : ClassFile where
  minorVersion := 0
  majorVersion := 65
  constantPool := pool
  accessFlags := fl
  thisClass := this
  superClass := sup
  interfaces := ifs
  fields := fds
  methods := ms
  attributes := attrs
def plain (name : String) (sup : Option ClassId) : Class where
  name := name
  kind := .ordinary
  loader := none
  accessFlags := 33
  super := sup
  interfaces := #[]
  cf := none
  fields := #[]
  methods := #[]
  instanceTypes := #[]
  staticTypes := #[]
  resolved := #[]
  callSites := []
  init := .initialized
  statics := none
  mirror := none

def pool0 : Array CpInfo := pool [(5, u "<init>"), (0, u "()V"), (1, .class_ 10), (1, u "java/lang/Object")] 113

def k0c0 : Code := { maxStack := 0, maxLocals := 1, code := object_method_1_code, exceptionTable := #[], attributes := #[] }
def k0m0 : Method := { name := "<init>", desc := "()V", sig := { parameters := [], returnType := none }, accessFlags := 1, code := some k0c0 }
/-- java/lang/Object -/
def k0 : Class := { plain "java/lang/Object" none with
  accessFlags := 33
  interfaces := #[]
  cf := some (fileOf pool0 8 #[] #[{ accessFlags := 1, nameIndex := 5, descriptorIndex := 6, attributes := #[] }] 33 0 #[] #[])
  fields := #[]
  methods := #[k0m0]
  instanceTypes := #[]
  staticTypes := #[]
  resolved := Array.replicate 124 none
  statics := none }

def pool1 : Array CpInfo := pool [(2, .class_ 4), (1, u "java/lang/Object"), (0, u "<init>"), (0, u "()V"), (0, .methodref 8 9), (0, .class_ 10), (0, .nameAndType 11 12), (0, u "java/lang/Math"), (0, u "min"), (0, u "(II)I"), (0, .methodref 8 14), (0, .nameAndType 15 12), (0, u "max"), (0, .class_ 17), (0, u "com/example/midstroke/midstroke/engine/LooseRewrite$Made"), (0, .methodref 16 19), (0, .nameAndType 5 20), (0, u "(II)V"), (0, .methodref 16 22), (0, .nameAndType 23 24), (0, u "meets"), (0, u "(II)Z"), (0, .class_ 26), (0, u "com/example/midstroke/midstroke/engine/MadeMeetsPinLaw"), (2, u "law"), (0, u "(IIII)Z")] 7

def k1m0 : Method := { name := "<init>", desc := "()V", sig := { parameters := [], returnType := none }, accessFlags := 2, code := none }
def k1c1 : Code := { maxStack := 4, maxLocals := 13, code := code, exceptionTable := #[], attributes := #[] }
def k1m1 : Method := { name := "law", desc := "(IIII)Z", sig := { parameters := [.int, .int, .int, .int], returnType := some .boolean }, accessFlags := 9, code := some k1c1 }
/-- com/example/midstroke/midstroke/engine/MadeMeetsPinLaw -/
def k1 : Class := { plain "com/example/midstroke/midstroke/engine/MadeMeetsPinLaw" (some 0) with
  accessFlags := 49
  interfaces := #[]
  cf := some (fileOf pool1 25 #[] #[{ accessFlags := 2, nameIndex := 5, descriptorIndex := 6, attributes := #[] }, { accessFlags := 9, nameIndex := 29, descriptorIndex := 30, attributes := #[] }] 49 2 #[] #[])
  fields := #[]
  methods := #[k1m0, k1m1]
  instanceTypes := #[]
  staticTypes := #[]
  resolved := Array.replicate 38 none
  statics := none }

def pool2 : Array CpInfo := pool [(1, .class_ 2), (0, u "java/lang/Math"), (1, .class_ 6), (1, u "java/lang/Object"), (0, u "<init>"), (0, u "()V"), (89, .class_ 100), (1, u "java/lang/Math$RandomNumberGeneratorHolder"), (71, u "negativeZeroFloatBits"), (0, u "J"), (2, u "negativeZeroDoubleBits"), (21, u "max"), (2, u "min"), (43, u "$assertionsDisabled"), (0, u "Z"), (88, u "(II)I"), (2, u "twoToTheDoubleScaleDown"), (0, u "D"), (4, u "twoToTheDoubleScaleUp"), (9, u "E"), (3, u "PI"), (2, u "TAU"), (2, u "DEGREES_TO_RADIANS"), (0, u "RADIANS_TO_DEGREES")] 94

def k2m0 : Method := { name := "<init>", desc := "()V", sig := { parameters := [], returnType := none }, accessFlags := 2, code := none }
def k2c1 : Code := { maxStack := 2, maxLocals := 2, code := jdk_29_method_65_code, exceptionTable := #[], attributes := #[] }
def k2m1 : Method := { name := "max", desc := "(II)I", sig := { parameters := [.int, .int], returnType := some .int }, accessFlags := 9, code := some k2c1 }
def k2c2 : Code := { maxStack := 2, maxLocals := 2, code := jdk_29_method_69_code, exceptionTable := #[], attributes := #[] }
def k2m2 : Method := { name := "min", desc := "(II)I", sig := { parameters := [.int, .int], returnType := some .int }, accessFlags := 9, code := some k2c2 }
/-- java/lang/Math -/
def k2 : Class := { plain "java/lang/Math" (some 0) with
  accessFlags := 49
  interfaces := #[]
  cf := some (fileOf pool2 1 #[.nestMembers #[98]] #[{ accessFlags := 2, nameIndex := 7, descriptorIndex := 8, attributes := #[] }, { accessFlags := 9, nameIndex := 198, descriptorIndex := 335, attributes := #[] }, { accessFlags := 9, nameIndex := 201, descriptorIndex := 335, attributes := #[] }] 49 4 #[] #[{ accessFlags := 25, nameIndex := 354, descriptorIndex := 339, attributes := #[] }, { accessFlags := 25, nameIndex := 358, descriptorIndex := 339, attributes := #[] }, { accessFlags := 25, nameIndex := 361, descriptorIndex := 339, attributes := #[] }, { accessFlags := 26, nameIndex := 364, descriptorIndex := 339, attributes := #[] }, { accessFlags := 26, nameIndex := 365, descriptorIndex := 339, attributes := #[] }, { accessFlags := 26, nameIndex := 172, descriptorIndex := 173, attributes := #[] }, { accessFlags := 26, nameIndex := 176, descriptorIndex := 173, attributes := #[] }, { accessFlags := 8, nameIndex := 344, descriptorIndex := 339, attributes := #[] }, { accessFlags := 8, nameIndex := 338, descriptorIndex := 339, attributes := #[] }, { accessFlags := 4120, nameIndex := 245, descriptorIndex := 246, attributes := #[] }])
  fields := #[{ name := "E", type := .double, accessFlags := 25, slot := 0, constantValue := 0 }, { name := "PI", type := .double, accessFlags := 25, slot := 1, constantValue := 0 }, { name := "TAU", type := .double, accessFlags := 25, slot := 2, constantValue := 0 }, { name := "DEGREES_TO_RADIANS", type := .double, accessFlags := 26, slot := 3, constantValue := 0 }, { name := "RADIANS_TO_DEGREES", type := .double, accessFlags := 26, slot := 4, constantValue := 0 }, { name := "negativeZeroFloatBits", type := .long, accessFlags := 26, slot := 5, constantValue := 0 }, { name := "negativeZeroDoubleBits", type := .long, accessFlags := 26, slot := 6, constantValue := 0 }, { name := "twoToTheDoubleScaleUp", type := .double, accessFlags := 8, slot := 7, constantValue := 0 }, { name := "twoToTheDoubleScaleDown", type := .double, accessFlags := 8, slot := 8, constantValue := 0 }, { name := "$assertionsDisabled", type := .boolean, accessFlags := 4120, slot := 9, constantValue := 0 }]
  methods := #[k2m0, k2m1, k2m2]
  instanceTypes := #[]
  staticTypes := #[.double, .double, .double, .double, .double, .long, .long, .double, .double, .boolean]
  resolved := Array.replicate 460 none
  statics := none }

def pool3 : Array CpInfo := pool [(1, .methodref 2 3), (0, .class_ 4), (0, .nameAndType 5 6), (0, u "java/lang/Object"), (0, u "<init>"), (0, u "()V"), (0, .class_ 8), (0, u "java/lang/Record")] 13

def k3c0 : Code := { maxStack := 1, maxLocals := 1, code := jdk_30_method_1_code, exceptionTable := #[], attributes := #[] }
def k3m0 : Method := { name := "<init>", desc := "()V", sig := { parameters := [], returnType := none }, accessFlags := 4, code := some k3c0 }
/-- java/lang/Record -/
def k3 : Class := { plain "java/lang/Record" (some 0) with
  accessFlags := 1057
  interfaces := #[]
  cf := some (fileOf pool3 7 #[] #[{ accessFlags := 4, nameIndex := 5, descriptorIndex := 6, attributes := #[] }] 1057 2 #[] #[])
  fields := #[]
  methods := #[k3m0]
  instanceTypes := #[]
  staticTypes := #[]
  resolved := Array.replicate 22 none
  statics := none }

def pool4 : Array CpInfo := pool [(1, .methodref 2 3), (0, .class_ 4), (0, .nameAndType 5 6), (0, u "java/lang/Record"), (0, u "<init>"), (0, u "()V"), (0, .fieldref 8 9), (0, .class_ 10), (0, .nameAndType 11 12), (0, u "com/example/midstroke/midstroke/engine/LooseRewrite$Made"), (0, u "start"), (0, u "I"), (0, .fieldref 8 14), (0, .nameAndType 15 12), (0, u "end"), (12, u "(II)V"), (3, u "meets"), (0, u "(II)Z"), (7, .class_ 42), (0, u "com/example/midstroke/midstroke/engine/LooseRewrite")] 20

def k4c0 : Code := { maxStack := 2, maxLocals := 3, code := prog_8_method_1_code, exceptionTable := #[], attributes := #[] }
def k4m0 : Method := { name := "<init>", desc := "(II)V", sig := { parameters := [.int, .int], returnType := none }, accessFlags := 1, code := some k4c0 }
def k4c1 : Code := { maxStack := 2, maxLocals := 3, code := prog_8_method_2_code, exceptionTable := #[], attributes := #[] }
def k4m1 : Method := { name := "meets", desc := "(II)Z", sig := { parameters := [.int, .int], returnType := some .boolean }, accessFlags := 0, code := some k4c1 }
/-- com/example/midstroke/midstroke/engine/LooseRewrite$Made -/
def k4 : Class := { plain "com/example/midstroke/midstroke/engine/LooseRewrite$Made" (some 3) with
  accessFlags := 49
  interfaces := #[]
  cf := some (fileOf pool4 8 #[.nestHost 41] #[{ accessFlags := 1, nameIndex := 5, descriptorIndex := 28, attributes := #[] }, { accessFlags := 0, nameIndex := 32, descriptorIndex := 33, attributes := #[] }] 49 2 #[] #[{ accessFlags := 18, nameIndex := 11, descriptorIndex := 12, attributes := #[] }, { accessFlags := 18, nameIndex := 15, descriptorIndex := 12, attributes := #[] }])
  fields := #[{ name := "start", type := .int, accessFlags := 18, slot := 0, constantValue := 0 }, { name := "end", type := .int, accessFlags := 18, slot := 1, constantValue := 0 }]
  methods := #[k4m0, k4m1]
  instanceTypes := #[.int, .int]
  staticTypes := #[]
  resolved := Array.replicate 63 none
  statics := none }

def pool5 : Array CpInfo := pool [(1, u "java/lang/Cloneable"), (0, .class_ 1), (0, u "java/lang/Object"), (0, .class_ 3)] 3

/-- java/lang/Cloneable -/
def k5 : Class := { plain "java/lang/Cloneable" (some 0) with
  accessFlags := 1537
  interfaces := #[]
  cf := some (fileOf pool5 2 #[] #[] 1537 4 #[] #[])
  fields := #[]
  methods := #[]
  instanceTypes := #[]
  staticTypes := #[]
  resolved := Array.replicate 8 none
  statics := none }

def pool6 : Array CpInfo := pool [(1, u "java/io/Serializable"), (0, .class_ 1), (0, u "java/lang/Object"), (0, .class_ 3)] 3

/-- java/io/Serializable -/
def k6 : Class := { plain "java/io/Serializable" (some 0) with
  accessFlags := 1537
  interfaces := #[]
  cf := some (fileOf pool6 2 #[] #[] 1537 4 #[] #[])
  fields := #[]
  methods := #[]
  instanceTypes := #[]
  staticTypes := #[]
  resolved := Array.replicate 8 none
  statics := none }

/-- the primitive byte -/
def k7 : Class := { plain "byte" none with kind := .primitive 'B', accessFlags := 0x411 }
/-- [B -/
def k8 : Class := { plain "[B" (some 0) with kind := .array 7 .byte, interfaces := #[5, 6], accessFlags := 1041 }

/-- the primitive int -/
def k9 : Class := { plain "int" none with kind := .primitive 'I', accessFlags := 0x411 }
/-- [I -/
def k10 : Class := { plain "[I" (some 0) with kind := .array 9 .int, interfaces := #[5, 6], accessFlags := 1041 }

def heap : Heap := #[]
def classes : Array Class := #[k0, k1, k2, k3, k4, k5, k6, k7, k8, k9, k10]
def interned : List (Array UInt16 × Addr) := []
def slotsUsed : Nat := 0
def theMethod : MethodId := ⟨1, 1⟩
def args0 : Array Value := #[.int 5, .int 9, .int 7, .int 1]
def aboutOver (below : List Frame) : State where
  vm := { classes := classes, interned := interned.toArray }
  heap := heap
  slotsUsed := slotsUsed
  threads := #[{ frames := .invoking theMethod args0 :: below }]
def below0 : List Frame := [.native { method := ⟨0, 0⟩, args := #[] }]
def about1 : State := aboutOver below0
def p0 : Program := .bare "" "" ""
def e0 : Env := launch0.env 0 0 0
theorem w_frames : about1.frames = Frame.invoking theMethod args0 :: below0 := rfl
set_option maxRecDepth 65536 in
theorem w_args : argsFit about1.vm theMethod args0 = true := by decide +kernel
set_option maxRecDepth 65536 in
theorem w_heap : heapFits about1 = true := by decide +kernel
set_option maxRecDepth 65536 in
theorem w_runnable : about1.curStatus? = some .runnable := by decide +kernel
set_option maxRecDepth 65536 in
theorem w_alone : about1.alone = true := by decide +kernel
set_option maxRecDepth 65536 in
theorem w_named : about1.methodNamed? x = some theMethod := by decide +kernel
set_option maxRecDepth 65536 in
theorem w_hears : about1.hears theMethod below0 = true := by decide +kernel
set_option maxRecDepth 65536 in
theorem w_ripe : about1.ripe theMethod args0 below0 = true := by decide +kernel
theorem w_running : about1.status = .running := rfl
set_option maxRecDepth 65536 in
theorem w_room : about1.hasRoom e0.platform room_1 = true :=
  launch0.hasRoom_least _ room_1 (by decide +kernel) (by decide +kernel) (by decide +kernel) (by decide +kernel) (by decide +kernel) (by decide +kernel)
theorem allAtoms_all (ts : List Jvm.Cond) (a : Array Jvm.Value) (st : Jvm.State) : (allAtoms ts).before a st = ts.all (fun c => c.before a st) := by
  induction ts with
  | nil => rfl
  | cons c t ih =>
    show (Jvm.Cond.and c (allAtoms t)).before a st = _
    rw [Jvm.Cond.before_and, ih, List.all_cons]
def words1 : List Jvm.Cond := Jvm.Cond.code x code maxLocals ret :: tables_1
/-- a 'code' word, met by the world's own term for the bytes: nothing is compared byte by byte -/
theorem code_word {y : MethodName} {bytes : ByteArray} {mx : Nat} {rt : Option FieldType} {a : Array Value} {s : State} {m : MethodId} {meth : Method} {c : Code} (h1 : s.methodNamed? y = some m) (h2 : s.vm.method? m = some meth) (h3 : meth.code = some c) (h4 : c.code = bytes)
    (h5 : (c.maxLocals == mx && c.exceptionTable.isEmpty && decide (c.maxStack ≤ mostOperands) && decide (meth.sig.returnType = rt) && !meth.locks && decide (parseMethodDescriptor y.desc = some meth.sig)) = true) : (Jvm.Cond.code y bytes mx rt).before a s = true := by
  simp only [Bool.and_eq_true, beq_iff_eq, Bool.not_eq_true', decide_eq_true_eq] at h5
  obtain ⟨⟨⟨⟨⟨g1, g2⟩, g3⟩, g4⟩, g5⟩, g6⟩ := h5
  simp [Cond.before, Cond.holds, Cond.value, h1, h2, h3, h4, g1, g2, g3, g4, g5, g6]
def isCode : Jvm.Cond → Bool
  | .code _ _ _ _ => true
  | _ => false
theorem all_split {L : List Jvm.Cond} {P : Jvm.Cond → Bool} (h1 : L.all (fun c => isCode c || P c) = true) (h2 : ∀ c ∈ L.filter isCode, P c = true) : L.all P = true := by
  refine List.all_eq_true.mpr fun c hc => ?_
  have h := List.all_eq_true.mp h1 c hc
  rcases Bool.eq_false_or_eq_true (isCode c) with hi | hi
  · exact h2 c (List.mem_filter.mpr ⟨hc, hi⟩)
  · simpa [hi] using h
set_option maxRecDepth 65536 in
theorem w_c0 : (Jvm.Cond.code x code maxLocals ret).before args0 about1 = true := code_word (m := ⟨1, 1⟩) (meth := k1m1) (c := k1c1) (by decide +kernel) rfl rfl rfl (by decide +kernel)
set_option maxRecDepth 65536 in
theorem w_c1 : (Jvm.Cond.code ({ cls := "java/lang/Math", name := "min", desc := "(II)I" } : Jvm.MethodName) jdk_29_method_69_code (2 : Nat) (Option.some Jvm.ClassFile.FieldType.int)).before args0 about1 = true := code_word (m := ⟨2, 2⟩) (meth := k2m2) (c := k2c2) (by decide +kernel) rfl rfl rfl (by decide +kernel)
set_option maxRecDepth 65536 in
theorem w_c2 : (Jvm.Cond.code ({ cls := "java/lang/Math", name := "max", desc := "(II)I" } : Jvm.MethodName) jdk_29_method_65_code (2 : Nat) (Option.some Jvm.ClassFile.FieldType.int)).before args0 about1 = true := code_word (m := ⟨2, 1⟩) (meth := k2m1) (c := k2c1) (by decide +kernel) rfl rfl rfl (by decide +kernel)
set_option maxRecDepth 65536 in
theorem w_c3 : (Jvm.Cond.code ({ cls := "com/example/midstroke/midstroke/engine/LooseRewrite$Made", name := "<init>", desc := "(II)V" } : Jvm.MethodName) prog_8_method_1_code (3 : Nat) (Option.none : Option Jvm.ClassFile.FieldType)).before args0 about1 = true := code_word (m := ⟨4, 0⟩) (meth := k4m0) (c := k4c0) (by decide +kernel) rfl rfl rfl (by decide +kernel)
set_option maxRecDepth 65536 in
theorem w_c4 : (Jvm.Cond.code ({ cls := "java/lang/Record", name := "<init>", desc := "()V" } : Jvm.MethodName) jdk_30_method_1_code (1 : Nat) (Option.none : Option Jvm.ClassFile.FieldType)).before args0 about1 = true := code_word (m := ⟨3, 0⟩) (meth := k3m0) (c := k3c0) (by decide +kernel) rfl rfl rfl (by decide +kernel)
set_option maxRecDepth 65536 in
theorem w_c5 : (Jvm.Cond.code ({ cls := "java/lang/Object", name := "<init>", desc := "()V" } : Jvm.MethodName) object_method_1_code (1 : Nat) (Option.none : Option Jvm.ClassFile.FieldType)).before args0 about1 = true := code_word (m := ⟨0, 0⟩) (meth := k0m0) (c := k0c0) (by decide +kernel) rfl rfl rfl (by decide +kernel)
set_option maxRecDepth 65536 in
theorem w_c6 : (Jvm.Cond.code ({ cls := "com/example/midstroke/midstroke/engine/LooseRewrite$Made", name := "meets", desc := "(II)Z" } : Jvm.MethodName) prog_8_method_2_code (3 : Nat) (Option.some Jvm.ClassFile.FieldType.boolean)).before args0 about1 = true := code_word (m := ⟨4, 1⟩) (meth := k4m1) (c := k4c1) (by decide +kernel) rfl rfl rfl (by decide +kernel)
def codes1 : List Jvm.Cond := [Jvm.Cond.code x code maxLocals ret, Jvm.Cond.code ({ cls := "java/lang/Math", name := "min", desc := "(II)I" } : Jvm.MethodName) jdk_29_method_69_code (2 : Nat) (Option.some Jvm.ClassFile.FieldType.int), Jvm.Cond.code ({ cls := "java/lang/Math", name := "max", desc := "(II)I" } : Jvm.MethodName) jdk_29_method_65_code (2 : Nat) (Option.some Jvm.ClassFile.FieldType.int), Jvm.Cond.code ({ cls := "com/example/midstroke/midstroke/engine/LooseRewrite$Made", name := "<init>", desc := "(II)V" } : Jvm.MethodName) prog_8_method_1_code (3 : Nat) (Option.none : Option Jvm.ClassFile.FieldType), Jvm.Cond.code ({ cls := "java/lang/Record", name := "<init>", desc := "()V" } : Jvm.MethodName) jdk_30_method_1_code (1 : Nat) (Option.none : Option Jvm.ClassFile.FieldType), Jvm.Cond.code ({ cls := "java/lang/Object", name := "<init>", desc := "()V" } : Jvm.MethodName) object_method_1_code (1 : Nat) (Option.none : Option Jvm.ClassFile.FieldType), Jvm.Cond.code ({ cls := "com/example/midstroke/midstroke/engine/LooseRewrite$Made", name := "meets", desc := "(II)Z" } : Jvm.MethodName) prog_8_method_2_code (3 : Nat) (Option.some Jvm.ClassFile.FieldType.boolean)]
set_option maxRecDepth 65536 in
theorem codes_eq : words1.filter isCode = codes1 := rfl
theorem w_codes : ∀ c ∈ words1.filter isCode, c.before args0 about1 = true := by
  rw [codes_eq]
  intro c hc
  simp only [codes1, List.mem_cons, List.not_mem_nil, or_false] at hc
  rcases hc with rfl | rfl | rfl | rfl | rfl | rfl | rfl
  · exact w_c0
  · exact w_c1
  · exact w_c2
  · exact w_c3
  · exact w_c4
  · exact w_c5
  · exact w_c6
set_option maxRecDepth 65536 in
theorem w_t1 : (words1.take 24).all (fun c => isCode c || c.before args0 about1) = true := by decide +kernel
set_option maxRecDepth 65536 in
theorem w_t2 : (words1.drop 24).all (fun c => isCode c || c.before args0 about1) = true := by decide +kernel
theorem w_tables : (allAtoms (Jvm.Cond.code x code maxLocals ret :: tables_1)).before args0 about1 = true := by
  rw [allAtoms_all]
  show words1.all (fun c => c.before args0 about1) = true
  refine all_split ?_ w_codes
  rw [← List.take_append_drop 24 words1, List.all_append, w_t1, w_t2]
  rfl
set_option maxRecDepth 65536 in
theorem w_case : (Jvm.Cond.and given_1 narrow_1).before args0 about1 = true := by decide +kernel
theorem w_applies : (headSpec (Jvm.Cond.code x code maxLocals ret :: tables_1) room_1).applies x e0.platform about1 = true :=
  (Spec.applies_iff w_frames).mpr ⟨w_running, w_runnable, w_alone, w_named, w_hears, w_ripe, w_room, w_tables⟩
theorem atStart : AtStart classFile x code maxLocals ret World_1 tables_1 room_1 Calls_1 rest_1 Pre_1 launch0 p0 e0 about1 theMethod args0 below0 :=
  ⟨lists_1, trivial, launch0.admits_env _ _ _, launch0.least_env, fairChoices_fair.cas, fairChoices_fair.clock, w_frames, w_args, w_heap, w_applies, trivial, trivial, w_case⟩
end start1
theorem witness_1 : WitnessClaimed_1 := ⟨start1.p0, start1.e0, start1.about1, start1.theMethod, start1.args0, start1.below0, start1.atStart⟩
end Jvm.Pilot.@@N@@
