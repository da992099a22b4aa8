import JvmDerived
import JvmDerived.Pilot.@@N@@Statement
import JvmDerived.Pilot.@@N@@Code
set_option linter.unusedVariables false
set_option linter.unusedSimpArgs false
namespace Jvm.RoadKit
open Sem ClassFile Op Lib Jvm.Stand Jvm.Free Jvm.LawKit
section New
variable {p : Program} {l : Launch} {e : Env} {R : Room} {s : State} {m : MethodId} {args : Array Value} {below : List Frame} {meth : Method} {c : Code} {T : State} {locs : List Loc} {cells slots : Nat}
theorem retI (X : Stand p l e R s m args below meth c T locs cells slots) (hx : p.tables.exec = Jvm.exec) {pc : Nat} {Ls : Array Slot} {z : Int32} {rest : List Value} (hret : meth.sig.returnType = some .int) (hd : decode c.code pc = .ok (.ireturn, 1)) {fs : List Frame}
    (hl : ∀ (f : JFrame) (acts : List Action), f.method = m → f.locked = none → f.entered = [] → (doReturn e (T.setTop f) acts (some (.int z))).1 = T.setFrames fs) : Steps p.tables e below (T.setTop (mkF m pc Ls (.int z :: rest))) (T.setFrames fs) := by
  have hm' : T.vm.method? m = some meth := X.method'
  have hn : narrow .int (.int z) = .int z := rfl
  show Steps p.tables e below (T.setTop { method := m, pc := pc, locals := Ls, stack := _ :: rest, locked := none }) _
  jvm_step X.here [X.here.top, hx, hd, hm', hret, hn]
  first | (intro acts; rw [hl _ acts rfl rfl rfl]) | rw [hl _ _ rfl rfl rfl]
  exact Steps.refl _
end New
end Jvm.RoadKit
namespace Jvm.Pilot.@@N@@
open Jvm Jvm.ClassFile Sem Op Lib Jvm.Free Jvm.Stand Jvm.LawKit Jvm.RoadKit Bundle Jvm.Pilot.@@N@@.Jvm.D
theorem wq {a0 : Array Value} {Z : State} (hw : ∀ d ∈ tables_1, d.before a0 Z = true) (i : Nat) {d : Jvm.Cond} (h : tables_1[i]? = some d) : d.before a0 Z = true := hw d (List.mem_of_getElem? h)
/-- from U the run comes back to its caller; what it returns, the heap and the places written meet Q -/
def Goes (p : Program) (e : Env) (below : List Frame) (s : State) (Q : Option Value → Heap → List Loc → Prop) (C S : Nat) (U : State) : Prop :=
  ∃ s₂ o, Steps p.tables e below U s₂ ∧ s₂.status = .running ∧ Ended s₂ below o ∧ ∃ v L, o = .returned v ∧ Q v s₂.heap L ∧ FrameEnd s o s₂ L C S
section Own
variable {p : Program} {l : Launch} {e : Env} {R : Room} {s : State} {m : MethodId} {args : Array Value} {below : List Frame} {meth : Method} {c : Code} {T : State} {locs : List Loc} {cells slots : Nat} {Q : Option Value → Heap → List Loc → Prop} {C S : Nat} {U U' : State}
theorem Goes.pre (f : ∀ t, Steps p.tables e below U' t → Steps p.tables e below U t) (g : Goes p e below s Q C S U') : Goes p e below s Q C S U := by
  obtain ⟨s₂, o, h1, r⟩ := g
  exact ⟨s₂, o, f _ h1, r⟩
theorem Goes.enter {g g' : JFrame} (q : g = g') (h : Goes p e below s Q C S (U.setTop g')) : Goes p e below s Q C S (U.setTop g) := q ▸ h
theorem Goes.ret (X : Stand p l e R s m args below meth c T locs cells slots) {v : Option Value} (hv : meth.sig.returnType = none → v = none) (hlocks : meth.locks = false) (hc : cells ≤ C) (hs : slots ≤ S) {h : Heap} (eT : T.heap = h)
    (step : ∀ fs, (∀ (f : JFrame) (acts : List Action), f.method = m → f.locked = none → f.entered = [] → (doReturn e (T.setTop f) acts v).1 = T.setFrames fs) → Steps p.tables e below U (T.setFrames fs)) (q : Q v h locs) : Goes p e below s Q C S U := by
  obtain ⟨fs, hr, hrun, hended, hW, hsame⟩ := X.leave hv hlocks
  refine ⟨_, _, step fs hr, hrun, hended, _, _, rfl, ?_, ⟨_, rfl⟩, hW, hsame.mono hc hs⟩
  show Q v T.heap locs
  rw [eT]
  exact q
end Own
theorem own_lsw {tb : Tables} [Ours tb] {e : Env} {below : List Frame} {T target : State} {m : MethodId} {c : Code} {g : JFrame} (h : At T m c below) (hx : tb.exec = Jvm.exec) (hg : g.method = m) {dflt : Int} {prs : Array (Int × Int)} {len : Nat} {o : Int} {pc0 pc' : Nat} (hpc : g.pc = pc0) (hd : decode c.code g.pc = .ok (.lookupswitch dflt prs, len)) {i : Int32} {rest : List Value} (hs : g.stack = .int i :: rest)
    (hso : ∀ (a b a_1 b_1 : Int), ((a, b), a_1, b_1) ∈ prs.toList.zip prs.toList.tail → a < a_1) (hoff : lookupswitch.offset prs.toList dflt i.toInt = o) (ho : 0 ≤ (pc0 : Int) + o) (hp : ((pc0 : Int) + o).toNat = pc')
    (hr : Steps tb e below (T.setTop { g with pc := pc', stack := rest }) target) : Steps tb e below (T.setTop g) target := by
  subst hg hpc hp
  jvm_step h [h.top, hx, hd, hs, lookupswitch.wp_chain, hoff, ho]
  exact ⟨hso, hr⟩
theorem ef_rm_dps125 (m : MethodId) (x0 : Addr) : entryFrame m #[(.ref x0)] 1 = mkF m 0 #[.val (.ref x0)] [] := by first | (simp [entryFrame, mkF, argsToLocals, Value.category]; done) | rfl
theorem pn_com_example_corpo_corpo_array_GyroRange : plainName "com/example/corpo/corpo/array/GyroRange" = true := by first | (simp [plainName, overriddenIn]; done) | decide +kernel
theorem d1_0 : decode prog_5_method_4_code 0 = .ok (.aload_n 0, 1) := by decide +kernel
theorem d1_1 : decode prog_5_method_4_code 1 = .ok (.getfield 38, 3) := by decide +kernel
theorem d1_4 : decode prog_5_method_4_code 4 = .ok (.ireturn, 1) := by decide +kernel
def Q_rm_dps125 (Z : State) (a : Addr) (h0 : Heap) (n0 : Nat) (v : Option Value) (h : Heap) (L : List Loc) : Prop := v = some (.int (125 : Int32)) ∧ Fr n0 L ∧ h = h0
set_option maxRecDepth 65536 in
set_option maxHeartbeats 40000000 in
theorem rm_dps125 (l : Launch) (Z : State) (a0 : Array Value) (hw : ∀ d ∈ tables_1, d.before a0 Z = true) (ws : List Jvm.Cond) (a : Addr) (h0 : Heap) (n0 : Nat) (Z0 : n0 ≤ h0.size) (F_dps_a : Fld Z Z.heap a "com/example/corpo/corpo/array/GyroRange" "dps" "I" (.int (125 : Int32))) (O : Old Z n0 h0) :
    MetFree l (⟨"com/example/corpo/corpo/array/GyroRange", "dps", "()I"⟩ : MethodName) (head1 (Jvm.Cond.code (⟨"com/example/corpo/corpo/array/GyroRange", "dps", "()I"⟩ : MethodName) prog_5_method_4_code 1 (some .int) :: ws) ({ frames := 0, cells := 0, slots := 0, locals := 0 } : Room)) (fun argv U => argv = #[(.ref a)] ∧ Z.Warmed39 U.vm ∧ U.heap = h0) (fun _ _ _ _ _ => True) (fun _ U o U' => ∃ v L, o = .returned v ∧ Q_rm_dps125 Z a h0 n0 v U'.heap L ∧ FrameEnd U o U' L ({ frames := 0, cells := 0, slots := 0, locals := 0 } : Room).cells ({ frames := 0, cells := 0, slots := 0, locals := 0 } : Room).slots) := by
  refine MetFree.of_bodySF (plainFor_of_name pn_com_example_corpo_corpo_array_GyroRange) hisR ?_
  intro p e s m args below meth c s₁ Bd hml0 hP hK
  obtain ⟨rfl, hZ, hh⟩ := hP
  have hx := Bd.exec
  have hby := Bd.bytes
  have hml : c.maxLocals = 1 := hml0
  have hown : s.vm.findClass "com/example/corpo/corpo/array/GyroRange" = some m.cls := findClass_of_methodNamed Bd.named
  have hnm := (name_of_methodNamed Bd.named Bd.method).1
  have X0 : Stand p l e ({ frames := 0, cells := 0, slots := 0, locals := 0 } : Room) s m #[(.ref a)] below meth c s₁ [] 0 0 := Stand.of_body Bd
  have e0 : s₁.heap = h0 := by rw [← hh, Bd.state]; rfl
  have N0 := Fr.nil n0
  refine Goes.enter (Q := fun v h L => Q_rm_dps125 Z a h0 n0 v h L) (C := ({ frames := 0, cells := 0, slots := 0, locals := 0 } : Room).cells) (S := ({ frames := 0, cells := 0, slots := 0, locals := 0 } : Room).slots) (ef_rm_dps125 m a) ?_
  show Goes p e below s _ _ _ (s₁.setTop (mkF m 0 #[.val (.ref a)] []))
  refine Goes.pre (U' := s₁.setTop (mkF m 1 #[.val (.ref a)] [(.ref a)])) (fun t k => XS.aloadN X0.here hx rfl (hb hby d1_0) rfl rfl k) ?_
  obtain ⟨T1, X1, e1, st1⟩ := getF X0 hx hZ hown (host := "") (Or.inl (wq hw 10 rfl)) Via.refl e0 (F_dps_a.ext O.2) (g := (mkF m 1 #[.val (.ref a)] [(.ref a)])) rfl rfl (hb hby d1_1)
  refine Goes.pre (U' := T1.setTop (mkF m 4 #[.val (.ref a)] [(.int (125 : Int32))])) (fun t k => st1 t k) ?_
  refine Goes.ret X1 (v := (some (.int (125 : Int32)))) (fun h => by rw [Bd.returns] at h; cases h) Bd.notSynchronized (by decide) (by decide) e1 (fun fs hr => retI X1 hx Bd.returns (hb hby d1_4) hr) ?_
  exact ⟨rfl, N0, rfl⟩
theorem ef_rm_per125 (m : MethodId) (x0 : Addr) : entryFrame m #[(.ref x0)] 1 = mkF m 0 #[.val (.ref x0)] [] := by first | (simp [entryFrame, mkF, argsToLocals, Value.category]; done) | rfl
theorem d2_0 : decode prog_5_method_5_code 0 = .ok (.ldc2_w 42, 3) := by decide +kernel
theorem d2_3 : decode prog_5_method_5_code 3 = .ok (.aload_n 0, 1) := by decide +kernel
theorem d2_4 : decode prog_5_method_5_code 4 = .ok (.getfield 38, 3) := by decide +kernel
theorem d2_7 : decode prog_5_method_5_code 7 = .ok (.bipush 125, 2) := by decide +kernel
theorem d2_9 : decode prog_5_method_5_code 9 = .ok (.idiv, 1) := by decide +kernel
theorem d2_10 : decode prog_5_method_5_code 10 = .ok (.i2d, 1) := by decide +kernel
theorem d2_11 : decode prog_5_method_5_code 11 = .ok (.dmul, 1) := by decide +kernel
theorem d2_12 : decode prog_5_method_5_code 12 = .ok (.ldc2_w 44, 3) := by decide +kernel
theorem d2_15 : decode prog_5_method_5_code 15 = .ok (.ddiv, 1) := by decide +kernel
theorem d2_16 : decode prog_5_method_5_code 16 = .ok (.dreturn, 1) := by decide +kernel
def Q_rm_per125 (Z : State) (a : Addr) (h0 : Heap) (n0 : Nat) (v : Option Value) (h : Heap) (L : List Loc) : Prop := v = some (.double (4571694053736337900 : UInt64)) ∧ Fr n0 L ∧ h = h0
set_option maxRecDepth 65536 in
set_option maxHeartbeats 40000000 in
theorem rm_per125 (l : Launch) (Z : State) (a0 : Array Value) (hw : ∀ d ∈ tables_1, d.before a0 Z = true) (ws : List Jvm.Cond) (a : Addr) (h0 : Heap) (n0 : Nat) (Z0 : n0 ≤ h0.size) (F_dps_a : Fld Z Z.heap a "com/example/corpo/corpo/array/GyroRange" "dps" "I" (.int (125 : Int32))) (O : Old Z n0 h0) :
    MetFree l (⟨"com/example/corpo/corpo/array/GyroRange", "dpsPerCount", "()D"⟩ : MethodName) (head1 (Jvm.Cond.code (⟨"com/example/corpo/corpo/array/GyroRange", "dpsPerCount", "()D"⟩ : MethodName) prog_5_method_5_code 1 (some .double) :: ws) ({ frames := 0, cells := 0, slots := 0, locals := 0 } : Room)) (fun argv U => argv = #[(.ref a)] ∧ Z.Warmed39 U.vm ∧ U.heap = h0) (fun _ _ _ _ _ => True) (fun _ U o U' => ∃ v L, o = .returned v ∧ Q_rm_per125 Z a h0 n0 v U'.heap L ∧ FrameEnd U o U' L ({ frames := 0, cells := 0, slots := 0, locals := 0 } : Room).cells ({ frames := 0, cells := 0, slots := 0, locals := 0 } : Room).slots) := by
  refine MetFree.of_bodySF (plainFor_of_name pn_com_example_corpo_corpo_array_GyroRange) hisR ?_
  intro p e s m args below meth c s₁ Bd hml0 hP hK
  obtain ⟨rfl, hZ, hh⟩ := hP
  have hx := Bd.exec
  have hby := Bd.bytes
  have hml : c.maxLocals = 1 := hml0
  have hown : s.vm.findClass "com/example/corpo/corpo/array/GyroRange" = some m.cls := findClass_of_methodNamed Bd.named
  have hnm := (name_of_methodNamed Bd.named Bd.method).1
  have X0 : Stand p l e ({ frames := 0, cells := 0, slots := 0, locals := 0 } : Room) s m #[(.ref a)] below meth c s₁ [] 0 0 := Stand.of_body Bd
  have e0 : s₁.heap = h0 := by rw [← hh, Bd.state]; rfl
  have N0 := Fr.nil n0
  refine Goes.enter (Q := fun v h L => Q_rm_per125 Z a h0 n0 v h L) (C := ({ frames := 0, cells := 0, slots := 0, locals := 0 } : Room).cells) (S := ({ frames := 0, cells := 0, slots := 0, locals := 0 } : Room).slots) (ef_rm_per125 m a) ?_
  show Goes p e below s _ _ _ (s₁.setTop (mkF m 0 #[.val (.ref a)] []))
  refine Goes.pre (U' := s₁.setTop (mkF m 3 #[.val (.ref a)] [(.double (4616611830519824384 : UInt64))])) (fun t k => X0.ldc2DoubleC hx hown (mvT hZ (wq hw 17 rfl)) (g := (mkF m 0 #[.val (.ref a)] [])) rfl (hb hby d2_0) _ k) ?_
  refine Goes.pre (U' := s₁.setTop (mkF m 4 #[.val (.ref a)] [(.ref a), (.double (4616611830519824384 : UInt64))])) (fun t k => XS.aloadN X0.here hx rfl (hb hby d2_3) rfl rfl k) ?_
  obtain ⟨T1, X1, e1, st1⟩ := getF X0 hx hZ hown (host := "") (Or.inl (wq hw 10 rfl)) Via.refl e0 (F_dps_a.ext O.2) (g := (mkF m 4 #[.val (.ref a)] [(.ref a), (.double (4616611830519824384 : UInt64))])) rfl rfl (hb hby d2_4)
  refine Goes.pre (U' := T1.setTop (mkF m 7 #[.val (.ref a)] [(.int (125 : Int32)), (.double (4616611830519824384 : UInt64))])) (fun t k => st1 t k) ?_
  refine Goes.pre (U' := T1.setTop (mkF m 9 #[.val (.ref a)] [(.int (125 : Int32)), (.int (125 : Int32)), (.double (4616611830519824384 : UInt64))])) (fun t k => XS.bipush X1.here hx rfl (hb hby d2_7) k) ?_
  refine Goes.pre (U' := T1.setTop (mkF m 10 #[.val (.ref a)] [(.int ((125 : Int32) / (125 : Int32))), (.double (4616611830519824384 : UInt64))])) (fun t k => XS.idiv X1.here hx rfl (hb hby d2_9) rfl (by decide) k) ?_
  rw [(by decide : ((125 : Int32) / (125 : Int32)) = (1 : Int32))]
  refine Goes.pre (U' := T1.setTop (mkF m 11 #[.val (.ref a)] [(.double (4607182418800017408 : UInt64)), (.double (4616611830519824384 : UInt64))])) (fun t k => XS.i2dS X1.here hx rfl (v := (4607182418800017408 : UInt64)) (hb hby d2_10) rfl (by decide +kernel) k) ?_
  refine Goes.pre (U' := T1.setTop (mkF m 12 #[.val (.ref a)] [(.double (4616611830519824384 : UInt64))])) (fun t k => XS.dmulS X1.here hx rfl (v := (4616611830519824384 : UInt64)) (hb hby d2_11) rfl (by decide +kernel) (by decide +kernel) k) ?_
  refine Goes.pre (U' := T1.setTop (mkF m 15 #[.val (.ref a)] [(.double (4652007308841189376 : UInt64)), (.double (4616611830519824384 : UInt64))])) (fun t k => X1.ldc2DoubleC hx hown (mvT hZ (wq hw 18 rfl)) (g := (mkF m 12 #[.val (.ref a)] [(.double (4616611830519824384 : UInt64))])) rfl (hb hby d2_12) _ k) ?_
  refine Goes.pre (U' := T1.setTop (mkF m 16 #[.val (.ref a)] [(.double (4571694053736337900 : UInt64))])) (fun t k => XS.ddivS X1.here hx rfl (v := (4571694053736337900 : UInt64)) (hb hby d2_15) rfl (by decide +kernel) (by decide +kernel) k) ?_
  refine Goes.ret X1 (v := (some (.double (4571694053736337900 : UInt64)))) (fun h => by rw [Bd.returns] at h; cases h) Bd.notSynchronized (by decide) (by decide) e1 (fun fs hr => retOut X1 hx Bd.returns rfl (Or.inr (Or.inr (Or.inl ⟨rfl, rfl, _, rfl⟩))) (hb hby d2_16) hr) ?_
  exact ⟨rfl, N0, rfl⟩
theorem ef_rm_dps250 (m : MethodId) (x0 : Addr) : entryFrame m #[(.ref x0)] 1 = mkF m 0 #[.val (.ref x0)] [] := by first | (simp [entryFrame, mkF, argsToLocals, Value.category]; done) | rfl
def Q_rm_dps250 (Z : State) (a : Addr) (h0 : Heap) (n0 : Nat) (v : Option Value) (h : Heap) (L : List Loc) : Prop := v = some (.int (250 : Int32)) ∧ Fr n0 L ∧ h = h0
set_option maxRecDepth 65536 in
set_option maxHeartbeats 40000000 in
theorem rm_dps250 (l : Launch) (Z : State) (a0 : Array Value) (hw : ∀ d ∈ tables_1, d.before a0 Z = true) (ws : List Jvm.Cond) (a : Addr) (h0 : Heap) (n0 : Nat) (Z0 : n0 ≤ h0.size) (F_dps_a : Fld Z Z.heap a "com/example/corpo/corpo/array/GyroRange" "dps" "I" (.int (250 : Int32))) (O : Old Z n0 h0) :
    MetFree l (⟨"com/example/corpo/corpo/array/GyroRange", "dps", "()I"⟩ : MethodName) (head1 (Jvm.Cond.code (⟨"com/example/corpo/corpo/array/GyroRange", "dps", "()I"⟩ : MethodName) prog_5_method_4_code 1 (some .int) :: ws) ({ frames := 0, cells := 0, slots := 0, locals := 0 } : Room)) (fun argv U => argv = #[(.ref a)] ∧ Z.Warmed39 U.vm ∧ U.heap = h0) (fun _ _ _ _ _ => True) (fun _ U o U' => ∃ v L, o = .returned v ∧ Q_rm_dps250 Z a h0 n0 v U'.heap L ∧ FrameEnd U o U' L ({ frames := 0, cells := 0, slots := 0, locals := 0 } : Room).cells ({ frames := 0, cells := 0, slots := 0, locals := 0 } : Room).slots) := by
  refine MetFree.of_bodySF (plainFor_of_name pn_com_example_corpo_corpo_array_GyroRange) hisR ?_
  intro p e s m args below meth c s₁ Bd hml0 hP hK
  obtain ⟨rfl, hZ, hh⟩ := hP
  have hx := Bd.exec
  have hby := Bd.bytes
  have hml : c.maxLocals = 1 := hml0
  have hown : s.vm.findClass "com/example/corpo/corpo/array/GyroRange" = some m.cls := findClass_of_methodNamed Bd.named
  have hnm := (name_of_methodNamed Bd.named Bd.method).1
  have X0 : Stand p l e ({ frames := 0, cells := 0, slots := 0, locals := 0 } : Room) s m #[(.ref a)] below meth c s₁ [] 0 0 := Stand.of_body Bd
  have e0 : s₁.heap = h0 := by rw [← hh, Bd.state]; rfl
  have N0 := Fr.nil n0
  refine Goes.enter (Q := fun v h L => Q_rm_dps250 Z a h0 n0 v h L) (C := ({ frames := 0, cells := 0, slots := 0, locals := 0 } : Room).cells) (S := ({ frames := 0, cells := 0, slots := 0, locals := 0 } : Room).slots) (ef_rm_dps250 m a) ?_
  show Goes p e below s _ _ _ (s₁.setTop (mkF m 0 #[.val (.ref a)] []))
  refine Goes.pre (U' := s₁.setTop (mkF m 1 #[.val (.ref a)] [(.ref a)])) (fun t k => XS.aloadN X0.here hx rfl (hb hby d1_0) rfl rfl k) ?_
  obtain ⟨T1, X1, e1, st1⟩ := getF X0 hx hZ hown (host := "") (Or.inl (wq hw 10 rfl)) Via.refl e0 (F_dps_a.ext O.2) (g := (mkF m 1 #[.val (.ref a)] [(.ref a)])) rfl rfl (hb hby d1_1)
  refine Goes.pre (U' := T1.setTop (mkF m 4 #[.val (.ref a)] [(.int (250 : Int32))])) (fun t k => st1 t k) ?_
  refine Goes.ret X1 (v := (some (.int (250 : Int32)))) (fun h => by rw [Bd.returns] at h; cases h) Bd.notSynchronized (by decide) (by decide) e1 (fun fs hr => retI X1 hx Bd.returns (hb hby d1_4) hr) ?_
  exact ⟨rfl, N0, rfl⟩
theorem ef_rm_per250 (m : MethodId) (x0 : Addr) : entryFrame m #[(.ref x0)] 1 = mkF m 0 #[.val (.ref x0)] [] := by first | (simp [entryFrame, mkF, argsToLocals, Value.category]; done) | rfl
def Q_rm_per250 (Z : State) (a : Addr) (h0 : Heap) (n0 : Nat) (v : Option Value) (h : Heap) (L : List Loc) : Prop := v = some (.double (4576197653363708396 : UInt64)) ∧ Fr n0 L ∧ h = h0
set_option maxRecDepth 65536 in
set_option maxHeartbeats 40000000 in
theorem rm_per250 (l : Launch) (Z : State) (a0 : Array Value) (hw : ∀ d ∈ tables_1, d.before a0 Z = true) (ws : List Jvm.Cond) (a : Addr) (h0 : Heap) (n0 : Nat) (Z0 : n0 ≤ h0.size) (F_dps_a : Fld Z Z.heap a "com/example/corpo/corpo/array/GyroRange" "dps" "I" (.int (250 : Int32))) (O : Old Z n0 h0) :
    MetFree l (⟨"com/example/corpo/corpo/array/GyroRange", "dpsPerCount", "()D"⟩ : MethodName) (head1 (Jvm.Cond.code (⟨"com/example/corpo/corpo/array/GyroRange", "dpsPerCount", "()D"⟩ : MethodName) prog_5_method_5_code 1 (some .double) :: ws) ({ frames := 0, cells := 0, slots := 0, locals := 0 } : Room)) (fun argv U => argv = #[(.ref a)] ∧ Z.Warmed39 U.vm ∧ U.heap = h0) (fun _ _ _ _ _ => True) (fun _ U o U' => ∃ v L, o = .returned v ∧ Q_rm_per250 Z a h0 n0 v U'.heap L ∧ FrameEnd U o U' L ({ frames := 0, cells := 0, slots := 0, locals := 0 } : Room).cells ({ frames := 0, cells := 0, slots := 0, locals := 0 } : Room).slots) := by
  refine MetFree.of_bodySF (plainFor_of_name pn_com_example_corpo_corpo_array_GyroRange) hisR ?_
  intro p e s m args below meth c s₁ Bd hml0 hP hK
  obtain ⟨rfl, hZ, hh⟩ := hP
  have hx := Bd.exec
  have hby := Bd.bytes
  have hml : c.maxLocals = 1 := hml0
  have hown : s.vm.findClass "com/example/corpo/corpo/array/GyroRange" = some m.cls := findClass_of_methodNamed Bd.named
  have hnm := (name_of_methodNamed Bd.named Bd.method).1
  have X0 : Stand p l e ({ frames := 0, cells := 0, slots := 0, locals := 0 } : Room) s m #[(.ref a)] below meth c s₁ [] 0 0 := Stand.of_body Bd
  have e0 : s₁.heap = h0 := by rw [← hh, Bd.state]; rfl
  have N0 := Fr.nil n0
  refine Goes.enter (Q := fun v h L => Q_rm_per250 Z a h0 n0 v h L) (C := ({ frames := 0, cells := 0, slots := 0, locals := 0 } : Room).cells) (S := ({ frames := 0, cells := 0, slots := 0, locals := 0 } : Room).slots) (ef_rm_per250 m a) ?_
  show Goes p e below s _ _ _ (s₁.setTop (mkF m 0 #[.val (.ref a)] []))
  refine Goes.pre (U' := s₁.setTop (mkF m 3 #[.val (.ref a)] [(.double (4616611830519824384 : UInt64))])) (fun t k => X0.ldc2DoubleC hx hown (mvT hZ (wq hw 17 rfl)) (g := (mkF m 0 #[.val (.ref a)] [])) rfl (hb hby d2_0) _ k) ?_
  refine Goes.pre (U' := s₁.setTop (mkF m 4 #[.val (.ref a)] [(.ref a), (.double (4616611830519824384 : UInt64))])) (fun t k => XS.aloadN X0.here hx rfl (hb hby d2_3) rfl rfl k) ?_
  obtain ⟨T1, X1, e1, st1⟩ := getF X0 hx hZ hown (host := "") (Or.inl (wq hw 10 rfl)) Via.refl e0 (F_dps_a.ext O.2) (g := (mkF m 4 #[.val (.ref a)] [(.ref a), (.double (4616611830519824384 : UInt64))])) rfl rfl (hb hby d2_4)
  refine Goes.pre (U' := T1.setTop (mkF m 7 #[.val (.ref a)] [(.int (250 : Int32)), (.double (4616611830519824384 : UInt64))])) (fun t k => st1 t k) ?_
  refine Goes.pre (U' := T1.setTop (mkF m 9 #[.val (.ref a)] [(.int (125 : Int32)), (.int (250 : Int32)), (.double (4616611830519824384 : UInt64))])) (fun t k => XS.bipush X1.here hx rfl (hb hby d2_7) k) ?_
  refine Goes.pre (U' := T1.setTop (mkF m 10 #[.val (.ref a)] [(.int ((250 : Int32) / (125 : Int32))), (.double (4616611830519824384 : UInt64))])) (fun t k => XS.idiv X1.here hx rfl (hb hby d2_9) rfl (by decide) k) ?_
  rw [(by decide : ((250 : Int32) / (125 : Int32)) = (2 : Int32))]
  refine Goes.pre (U' := T1.setTop (mkF m 11 #[.val (.ref a)] [(.double (4611686018427387904 : UInt64)), (.double (4616611830519824384 : UInt64))])) (fun t k => XS.i2dS X1.here hx rfl (v := (4611686018427387904 : UInt64)) (hb hby d2_10) rfl (by decide +kernel) k) ?_
  refine Goes.pre (U' := T1.setTop (mkF m 12 #[.val (.ref a)] [(.double (4621115430147194880 : UInt64))])) (fun t k => XS.dmulS X1.here hx rfl (v := (4621115430147194880 : UInt64)) (hb hby d2_11) rfl (by decide +kernel) (by decide +kernel) k) ?_
  refine Goes.pre (U' := T1.setTop (mkF m 15 #[.val (.ref a)] [(.double (4652007308841189376 : UInt64)), (.double (4621115430147194880 : UInt64))])) (fun t k => X1.ldc2DoubleC hx hown (mvT hZ (wq hw 18 rfl)) (g := (mkF m 12 #[.val (.ref a)] [(.double (4621115430147194880 : UInt64))])) rfl (hb hby d2_12) _ k) ?_
  refine Goes.pre (U' := T1.setTop (mkF m 16 #[.val (.ref a)] [(.double (4576197653363708396 : UInt64))])) (fun t k => XS.ddivS X1.here hx rfl (v := (4576197653363708396 : UInt64)) (hb hby d2_15) rfl (by decide +kernel) (by decide +kernel) k) ?_
  refine Goes.ret X1 (v := (some (.double (4576197653363708396 : UInt64)))) (fun h => by rw [Bd.returns] at h; cases h) Bd.notSynchronized (by decide) (by decide) e1 (fun fs hr => retOut X1 hx Bd.returns rfl (Or.inr (Or.inr (Or.inl ⟨rfl, rfl, _, rfl⟩))) (hb hby d2_16) hr) ?_
  exact ⟨rfl, N0, rfl⟩
theorem ef_rm_dps500 (m : MethodId) (x0 : Addr) : entryFrame m #[(.ref x0)] 1 = mkF m 0 #[.val (.ref x0)] [] := by first | (simp [entryFrame, mkF, argsToLocals, Value.category]; done) | rfl
def Q_rm_dps500 (Z : State) (a : Addr) (h0 : Heap) (n0 : Nat) (v : Option Value) (h : Heap) (L : List Loc) : Prop := v = some (.int (500 : Int32)) ∧ Fr n0 L ∧ h = h0
set_option maxRecDepth 65536 in
set_option maxHeartbeats 40000000 in
theorem rm_dps500 (l : Launch) (Z : State) (a0 : Array Value) (hw : ∀ d ∈ tables_1, d.before a0 Z = true) (ws : List Jvm.Cond) (a : Addr) (h0 : Heap) (n0 : Nat) (Z0 : n0 ≤ h0.size) (F_dps_a : Fld Z Z.heap a "com/example/corpo/corpo/array/GyroRange" "dps" "I" (.int (500 : Int32))) (O : Old Z n0 h0) :
    MetFree l (⟨"com/example/corpo/corpo/array/GyroRange", "dps", "()I"⟩ : MethodName) (head1 (Jvm.Cond.code (⟨"com/example/corpo/corpo/array/GyroRange", "dps", "()I"⟩ : MethodName) prog_5_method_4_code 1 (some .int) :: ws) ({ frames := 0, cells := 0, slots := 0, locals := 0 } : Room)) (fun argv U => argv = #[(.ref a)] ∧ Z.Warmed39 U.vm ∧ U.heap = h0) (fun _ _ _ _ _ => True) (fun _ U o U' => ∃ v L, o = .returned v ∧ Q_rm_dps500 Z a h0 n0 v U'.heap L ∧ FrameEnd U o U' L ({ frames := 0, cells := 0, slots := 0, locals := 0 } : Room).cells ({ frames := 0, cells := 0, slots := 0, locals := 0 } : Room).slots) := by
  refine MetFree.of_bodySF (plainFor_of_name pn_com_example_corpo_corpo_array_GyroRange) hisR ?_
  intro p e s m args below meth c s₁ Bd hml0 hP hK
  obtain ⟨rfl, hZ, hh⟩ := hP
  have hx := Bd.exec
  have hby := Bd.bytes
  have hml : c.maxLocals = 1 := hml0
  have hown : s.vm.findClass "com/example/corpo/corpo/array/GyroRange" = some m.cls := findClass_of_methodNamed Bd.named
  have hnm := (name_of_methodNamed Bd.named Bd.method).1
  have X0 : Stand p l e ({ frames := 0, cells := 0, slots := 0, locals := 0 } : Room) s m #[(.ref a)] below meth c s₁ [] 0 0 := Stand.of_body Bd
  have e0 : s₁.heap = h0 := by rw [← hh, Bd.state]; rfl
  have N0 := Fr.nil n0
  refine Goes.enter (Q := fun v h L => Q_rm_dps500 Z a h0 n0 v h L) (C := ({ frames := 0, cells := 0, slots := 0, locals := 0 } : Room).cells) (S := ({ frames := 0, cells := 0, slots := 0, locals := 0 } : Room).slots) (ef_rm_dps500 m a) ?_
  show Goes p e below s _ _ _ (s₁.setTop (mkF m 0 #[.val (.ref a)] []))
  refine Goes.pre (U' := s₁.setTop (mkF m 1 #[.val (.ref a)] [(.ref a)])) (fun t k => XS.aloadN X0.here hx rfl (hb hby d1_0) rfl rfl k) ?_
  obtain ⟨T1, X1, e1, st1⟩ := getF X0 hx hZ hown (host := "") (Or.inl (wq hw 10 rfl)) Via.refl e0 (F_dps_a.ext O.2) (g := (mkF m 1 #[.val (.ref a)] [(.ref a)])) rfl rfl (hb hby d1_1)
  refine Goes.pre (U' := T1.setTop (mkF m 4 #[.val (.ref a)] [(.int (500 : Int32))])) (fun t k => st1 t k) ?_
  refine Goes.ret X1 (v := (some (.int (500 : Int32)))) (fun h => by rw [Bd.returns] at h; cases h) Bd.notSynchronized (by decide) (by decide) e1 (fun fs hr => retI X1 hx Bd.returns (hb hby d1_4) hr) ?_
  exact ⟨rfl, N0, rfl⟩
theorem ef_rm_per500 (m : MethodId) (x0 : Addr) : entryFrame m #[(.ref x0)] 1 = mkF m 0 #[.val (.ref x0)] [] := by first | (simp [entryFrame, mkF, argsToLocals, Value.category]; done) | rfl
def Q_rm_per500 (Z : State) (a : Addr) (h0 : Heap) (n0 : Nat) (v : Option Value) (h : Heap) (L : List Loc) : Prop := v = some (.double (4580701252991078892 : UInt64)) ∧ Fr n0 L ∧ h = h0
set_option maxRecDepth 65536 in
set_option maxHeartbeats 40000000 in
theorem rm_per500 (l : Launch) (Z : State) (a0 : Array Value) (hw : ∀ d ∈ tables_1, d.before a0 Z = true) (ws : List Jvm.Cond) (a : Addr) (h0 : Heap) (n0 : Nat) (Z0 : n0 ≤ h0.size) (F_dps_a : Fld Z Z.heap a "com/example/corpo/corpo/array/GyroRange" "dps" "I" (.int (500 : Int32))) (O : Old Z n0 h0) :
    MetFree l (⟨"com/example/corpo/corpo/array/GyroRange", "dpsPerCount", "()D"⟩ : MethodName) (head1 (Jvm.Cond.code (⟨"com/example/corpo/corpo/array/GyroRange", "dpsPerCount", "()D"⟩ : MethodName) prog_5_method_5_code 1 (some .double) :: ws) ({ frames := 0, cells := 0, slots := 0, locals := 0 } : Room)) (fun argv U => argv = #[(.ref a)] ∧ Z.Warmed39 U.vm ∧ U.heap = h0) (fun _ _ _ _ _ => True) (fun _ U o U' => ∃ v L, o = .returned v ∧ Q_rm_per500 Z a h0 n0 v U'.heap L ∧ FrameEnd U o U' L ({ frames := 0, cells := 0, slots := 0, locals := 0 } : Room).cells ({ frames := 0, cells := 0, slots := 0, locals := 0 } : Room).slots) := by
  refine MetFree.of_bodySF (plainFor_of_name pn_com_example_corpo_corpo_array_GyroRange) hisR ?_
  intro p e s m args below meth c s₁ Bd hml0 hP hK
  obtain ⟨rfl, hZ, hh⟩ := hP
  have hx := Bd.exec
  have hby := Bd.bytes
  have hml : c.maxLocals = 1 := hml0
  have hown : s.vm.findClass "com/example/corpo/corpo/array/GyroRange" = some m.cls := findClass_of_methodNamed Bd.named
  have hnm := (name_of_methodNamed Bd.named Bd.method).1
  have X0 : Stand p l e ({ frames := 0, cells := 0, slots := 0, locals := 0 } : Room) s m #[(.ref a)] below meth c s₁ [] 0 0 := Stand.of_body Bd
  have e0 : s₁.heap = h0 := by rw [← hh, Bd.state]; rfl
  have N0 := Fr.nil n0
  refine Goes.enter (Q := fun v h L => Q_rm_per500 Z a h0 n0 v h L) (C := ({ frames := 0, cells := 0, slots := 0, locals := 0 } : Room).cells) (S := ({ frames := 0, cells := 0, slots := 0, locals := 0 } : Room).slots) (ef_rm_per500 m a) ?_
  show Goes p e below s _ _ _ (s₁.setTop (mkF m 0 #[.val (.ref a)] []))
  refine Goes.pre (U' := s₁.setTop (mkF m 3 #[.val (.ref a)] [(.double (4616611830519824384 : UInt64))])) (fun t k => X0.ldc2DoubleC hx hown (mvT hZ (wq hw 17 rfl)) (g := (mkF m 0 #[.val (.ref a)] [])) rfl (hb hby d2_0) _ k) ?_
  refine Goes.pre (U' := s₁.setTop (mkF m 4 #[.val (.ref a)] [(.ref a), (.double (4616611830519824384 : UInt64))])) (fun t k => XS.aloadN X0.here hx rfl (hb hby d2_3) rfl rfl k) ?_
  obtain ⟨T1, X1, e1, st1⟩ := getF X0 hx hZ hown (host := "") (Or.inl (wq hw 10 rfl)) Via.refl e0 (F_dps_a.ext O.2) (g := (mkF m 4 #[.val (.ref a)] [(.ref a), (.double (4616611830519824384 : UInt64))])) rfl rfl (hb hby d2_4)
  refine Goes.pre (U' := T1.setTop (mkF m 7 #[.val (.ref a)] [(.int (500 : Int32)), (.double (4616611830519824384 : UInt64))])) (fun t k => st1 t k) ?_
  refine Goes.pre (U' := T1.setTop (mkF m 9 #[.val (.ref a)] [(.int (125 : Int32)), (.int (500 : Int32)), (.double (4616611830519824384 : UInt64))])) (fun t k => XS.bipush X1.here hx rfl (hb hby d2_7) k) ?_
  refine Goes.pre (U' := T1.setTop (mkF m 10 #[.val (.ref a)] [(.int ((500 : Int32) / (125 : Int32))), (.double (4616611830519824384 : UInt64))])) (fun t k => XS.idiv X1.here hx rfl (hb hby d2_9) rfl (by decide) k) ?_
  rw [(by decide : ((500 : Int32) / (125 : Int32)) = (4 : Int32))]
  refine Goes.pre (U' := T1.setTop (mkF m 11 #[.val (.ref a)] [(.double (4616189618054758400 : UInt64)), (.double (4616611830519824384 : UInt64))])) (fun t k => XS.i2dS X1.here hx rfl (v := (4616189618054758400 : UInt64)) (hb hby d2_10) rfl (by decide +kernel) k) ?_
  refine Goes.pre (U' := T1.setTop (mkF m 12 #[.val (.ref a)] [(.double (4625619029774565376 : UInt64))])) (fun t k => XS.dmulS X1.here hx rfl (v := (4625619029774565376 : UInt64)) (hb hby d2_11) rfl (by decide +kernel) (by decide +kernel) k) ?_
  refine Goes.pre (U' := T1.setTop (mkF m 15 #[.val (.ref a)] [(.double (4652007308841189376 : UInt64)), (.double (4625619029774565376 : UInt64))])) (fun t k => X1.ldc2DoubleC hx hown (mvT hZ (wq hw 18 rfl)) (g := (mkF m 12 #[.val (.ref a)] [(.double (4625619029774565376 : UInt64))])) rfl (hb hby d2_12) _ k) ?_
  refine Goes.pre (U' := T1.setTop (mkF m 16 #[.val (.ref a)] [(.double (4580701252991078892 : UInt64))])) (fun t k => XS.ddivS X1.here hx rfl (v := (4580701252991078892 : UInt64)) (hb hby d2_15) rfl (by decide +kernel) (by decide +kernel) k) ?_
  refine Goes.ret X1 (v := (some (.double (4580701252991078892 : UInt64)))) (fun h => by rw [Bd.returns] at h; cases h) Bd.notSynchronized (by decide) (by decide) e1 (fun fs hr => retOut X1 hx Bd.returns rfl (Or.inr (Or.inr (Or.inl ⟨rfl, rfl, _, rfl⟩))) (hb hby d2_16) hr) ?_
  exact ⟨rfl, N0, rfl⟩
theorem ef_rm_dps1000 (m : MethodId) (x0 : Addr) : entryFrame m #[(.ref x0)] 1 = mkF m 0 #[.val (.ref x0)] [] := by first | (simp [entryFrame, mkF, argsToLocals, Value.category]; done) | rfl
def Q_rm_dps1000 (Z : State) (a : Addr) (h0 : Heap) (n0 : Nat) (v : Option Value) (h : Heap) (L : List Loc) : Prop := v = some (.int (1000 : Int32)) ∧ Fr n0 L ∧ h = h0
set_option maxRecDepth 65536 in
set_option maxHeartbeats 40000000 in
theorem rm_dps1000 (l : Launch) (Z : State) (a0 : Array Value) (hw : ∀ d ∈ tables_1, d.before a0 Z = true) (ws : List Jvm.Cond) (a : Addr) (h0 : Heap) (n0 : Nat) (Z0 : n0 ≤ h0.size) (F_dps_a : Fld Z Z.heap a "com/example/corpo/corpo/array/GyroRange" "dps" "I" (.int (1000 : Int32))) (O : Old Z n0 h0) :
    MetFree l (⟨"com/example/corpo/corpo/array/GyroRange", "dps", "()I"⟩ : MethodName) (head1 (Jvm.Cond.code (⟨"com/example/corpo/corpo/array/GyroRange", "dps", "()I"⟩ : MethodName) prog_5_method_4_code 1 (some .int) :: ws) ({ frames := 0, cells := 0, slots := 0, locals := 0 } : Room)) (fun argv U => argv = #[(.ref a)] ∧ Z.Warmed39 U.vm ∧ U.heap = h0) (fun _ _ _ _ _ => True) (fun _ U o U' => ∃ v L, o = .returned v ∧ Q_rm_dps1000 Z a h0 n0 v U'.heap L ∧ FrameEnd U o U' L ({ frames := 0, cells := 0, slots := 0, locals := 0 } : Room).cells ({ frames := 0, cells := 0, slots := 0, locals := 0 } : Room).slots) := by
  refine MetFree.of_bodySF (plainFor_of_name pn_com_example_corpo_corpo_array_GyroRange) hisR ?_
  intro p e s m args below meth c s₁ Bd hml0 hP hK
  obtain ⟨rfl, hZ, hh⟩ := hP
  have hx := Bd.exec
  have hby := Bd.bytes
  have hml : c.maxLocals = 1 := hml0
  have hown : s.vm.findClass "com/example/corpo/corpo/array/GyroRange" = some m.cls := findClass_of_methodNamed Bd.named
  have hnm := (name_of_methodNamed Bd.named Bd.method).1
  have X0 : Stand p l e ({ frames := 0, cells := 0, slots := 0, locals := 0 } : Room) s m #[(.ref a)] below meth c s₁ [] 0 0 := Stand.of_body Bd
  have e0 : s₁.heap = h0 := by rw [← hh, Bd.state]; rfl
  have N0 := Fr.nil n0
  refine Goes.enter (Q := fun v h L => Q_rm_dps1000 Z a h0 n0 v h L) (C := ({ frames := 0, cells := 0, slots := 0, locals := 0 } : Room).cells) (S := ({ frames := 0, cells := 0, slots := 0, locals := 0 } : Room).slots) (ef_rm_dps1000 m a) ?_
  show Goes p e below s _ _ _ (s₁.setTop (mkF m 0 #[.val (.ref a)] []))
  refine Goes.pre (U' := s₁.setTop (mkF m 1 #[.val (.ref a)] [(.ref a)])) (fun t k => XS.aloadN X0.here hx rfl (hb hby d1_0) rfl rfl k) ?_
  obtain ⟨T1, X1, e1, st1⟩ := getF X0 hx hZ hown (host := "") (Or.inl (wq hw 10 rfl)) Via.refl e0 (F_dps_a.ext O.2) (g := (mkF m 1 #[.val (.ref a)] [(.ref a)])) rfl rfl (hb hby d1_1)
  refine Goes.pre (U' := T1.setTop (mkF m 4 #[.val (.ref a)] [(.int (1000 : Int32))])) (fun t k => st1 t k) ?_
  refine Goes.ret X1 (v := (some (.int (1000 : Int32)))) (fun h => by rw [Bd.returns] at h; cases h) Bd.notSynchronized (by decide) (by decide) e1 (fun fs hr => retI X1 hx Bd.returns (hb hby d1_4) hr) ?_
  exact ⟨rfl, N0, rfl⟩
theorem ef_rm_per1000 (m : MethodId) (x0 : Addr) : entryFrame m #[(.ref x0)] 1 = mkF m 0 #[.val (.ref x0)] [] := by first | (simp [entryFrame, mkF, argsToLocals, Value.category]; done) | rfl
def Q_rm_per1000 (Z : State) (a : Addr) (h0 : Heap) (n0 : Nat) (v : Option Value) (h : Heap) (L : List Loc) : Prop := v = some (.double (4585204852618449388 : UInt64)) ∧ Fr n0 L ∧ h = h0
set_option maxRecDepth 65536 in
set_option maxHeartbeats 40000000 in
theorem rm_per1000 (l : Launch) (Z : State) (a0 : Array Value) (hw : ∀ d ∈ tables_1, d.before a0 Z = true) (ws : List Jvm.Cond) (a : Addr) (h0 : Heap) (n0 : Nat) (Z0 : n0 ≤ h0.size) (F_dps_a : Fld Z Z.heap a "com/example/corpo/corpo/array/GyroRange" "dps" "I" (.int (1000 : Int32))) (O : Old Z n0 h0) :
    MetFree l (⟨"com/example/corpo/corpo/array/GyroRange", "dpsPerCount", "()D"⟩ : MethodName) (head1 (Jvm.Cond.code (⟨"com/example/corpo/corpo/array/GyroRange", "dpsPerCount", "()D"⟩ : MethodName) prog_5_method_5_code 1 (some .double) :: ws) ({ frames := 0, cells := 0, slots := 0, locals := 0 } : Room)) (fun argv U => argv = #[(.ref a)] ∧ Z.Warmed39 U.vm ∧ U.heap = h0) (fun _ _ _ _ _ => True) (fun _ U o U' => ∃ v L, o = .returned v ∧ Q_rm_per1000 Z a h0 n0 v U'.heap L ∧ FrameEnd U o U' L ({ frames := 0, cells := 0, slots := 0, locals := 0 } : Room).cells ({ frames := 0, cells := 0, slots := 0, locals := 0 } : Room).slots) := by
  refine MetFree.of_bodySF (plainFor_of_name pn_com_example_corpo_corpo_array_GyroRange) hisR ?_
  intro p e s m args below meth c s₁ Bd hml0 hP hK
  obtain ⟨rfl, hZ, hh⟩ := hP
  have hx := Bd.exec
  have hby := Bd.bytes
  have hml : c.maxLocals = 1 := hml0
  have hown : s.vm.findClass "com/example/corpo/corpo/array/GyroRange" = some m.cls := findClass_of_methodNamed Bd.named
  have hnm := (name_of_methodNamed Bd.named Bd.method).1
  have X0 : Stand p l e ({ frames := 0, cells := 0, slots := 0, locals := 0 } : Room) s m #[(.ref a)] below meth c s₁ [] 0 0 := Stand.of_body Bd
  have e0 : s₁.heap = h0 := by rw [← hh, Bd.state]; rfl
  have N0 := Fr.nil n0
  refine Goes.enter (Q := fun v h L => Q_rm_per1000 Z a h0 n0 v h L) (C := ({ frames := 0, cells := 0, slots := 0, locals := 0 } : Room).cells) (S := ({ frames := 0, cells := 0, slots := 0, locals := 0 } : Room).slots) (ef_rm_per1000 m a) ?_
  show Goes p e below s _ _ _ (s₁.setTop (mkF m 0 #[.val (.ref a)] []))
  refine Goes.pre (U' := s₁.setTop (mkF m 3 #[.val (.ref a)] [(.double (4616611830519824384 : UInt64))])) (fun t k => X0.ldc2DoubleC hx hown (mvT hZ (wq hw 17 rfl)) (g := (mkF m 0 #[.val (.ref a)] [])) rfl (hb hby d2_0) _ k) ?_
  refine Goes.pre (U' := s₁.setTop (mkF m 4 #[.val (.ref a)] [(.ref a), (.double (4616611830519824384 : UInt64))])) (fun t k => XS.aloadN X0.here hx rfl (hb hby d2_3) rfl rfl k) ?_
  obtain ⟨T1, X1, e1, st1⟩ := getF X0 hx hZ hown (host := "") (Or.inl (wq hw 10 rfl)) Via.refl e0 (F_dps_a.ext O.2) (g := (mkF m 4 #[.val (.ref a)] [(.ref a), (.double (4616611830519824384 : UInt64))])) rfl rfl (hb hby d2_4)
  refine Goes.pre (U' := T1.setTop (mkF m 7 #[.val (.ref a)] [(.int (1000 : Int32)), (.double (4616611830519824384 : UInt64))])) (fun t k => st1 t k) ?_
  refine Goes.pre (U' := T1.setTop (mkF m 9 #[.val (.ref a)] [(.int (125 : Int32)), (.int (1000 : Int32)), (.double (4616611830519824384 : UInt64))])) (fun t k => XS.bipush X1.here hx rfl (hb hby d2_7) k) ?_
  refine Goes.pre (U' := T1.setTop (mkF m 10 #[.val (.ref a)] [(.int ((1000 : Int32) / (125 : Int32))), (.double (4616611830519824384 : UInt64))])) (fun t k => XS.idiv X1.here hx rfl (hb hby d2_9) rfl (by decide) k) ?_
  rw [(by decide : ((1000 : Int32) / (125 : Int32)) = (8 : Int32))]
  refine Goes.pre (U' := T1.setTop (mkF m 11 #[.val (.ref a)] [(.double (4620693217682128896 : UInt64)), (.double (4616611830519824384 : UInt64))])) (fun t k => XS.i2dS X1.here hx rfl (v := (4620693217682128896 : UInt64)) (hb hby d2_10) rfl (by decide +kernel) k) ?_
  refine Goes.pre (U' := T1.setTop (mkF m 12 #[.val (.ref a)] [(.double (4630122629401935872 : UInt64))])) (fun t k => XS.dmulS X1.here hx rfl (v := (4630122629401935872 : UInt64)) (hb hby d2_11) rfl (by decide +kernel) (by decide +kernel) k) ?_
  refine Goes.pre (U' := T1.setTop (mkF m 15 #[.val (.ref a)] [(.double (4652007308841189376 : UInt64)), (.double (4630122629401935872 : UInt64))])) (fun t k => X1.ldc2DoubleC hx hown (mvT hZ (wq hw 18 rfl)) (g := (mkF m 12 #[.val (.ref a)] [(.double (4630122629401935872 : UInt64))])) rfl (hb hby d2_12) _ k) ?_
  refine Goes.pre (U' := T1.setTop (mkF m 16 #[.val (.ref a)] [(.double (4585204852618449388 : UInt64))])) (fun t k => XS.ddivS X1.here hx rfl (v := (4585204852618449388 : UInt64)) (hb hby d2_15) rfl (by decide +kernel) (by decide +kernel) k) ?_
  refine Goes.ret X1 (v := (some (.double (4585204852618449388 : UInt64)))) (fun h => by rw [Bd.returns] at h; cases h) Bd.notSynchronized (by decide) (by decide) e1 (fun fs hr => retOut X1 hx Bd.returns rfl (Or.inr (Or.inr (Or.inl ⟨rfl, rfl, _, rfl⟩))) (hb hby d2_16) hr) ?_
  exact ⟨rfl, N0, rfl⟩
theorem ef_rm_dps2000 (m : MethodId) (x0 : Addr) : entryFrame m #[(.ref x0)] 1 = mkF m 0 #[.val (.ref x0)] [] := by first | (simp [entryFrame, mkF, argsToLocals, Value.category]; done) | rfl
def Q_rm_dps2000 (Z : State) (a : Addr) (h0 : Heap) (n0 : Nat) (v : Option Value) (h : Heap) (L : List Loc) : Prop := v = some (.int (2000 : Int32)) ∧ Fr n0 L ∧ h = h0
set_option maxRecDepth 65536 in
set_option maxHeartbeats 40000000 in
theorem rm_dps2000 (l : Launch) (Z : State) (a0 : Array Value) (hw : ∀ d ∈ tables_1, d.before a0 Z = true) (ws : List Jvm.Cond) (a : Addr) (h0 : Heap) (n0 : Nat) (Z0 : n0 ≤ h0.size) (F_dps_a : Fld Z Z.heap a "com/example/corpo/corpo/array/GyroRange" "dps" "I" (.int (2000 : Int32))) (O : Old Z n0 h0) :
    MetFree l (⟨"com/example/corpo/corpo/array/GyroRange", "dps", "()I"⟩ : MethodName) (head1 (Jvm.Cond.code (⟨"com/example/corpo/corpo/array/GyroRange", "dps", "()I"⟩ : MethodName) prog_5_method_4_code 1 (some .int) :: ws) ({ frames := 0, cells := 0, slots := 0, locals := 0 } : Room)) (fun argv U => argv = #[(.ref a)] ∧ Z.Warmed39 U.vm ∧ U.heap = h0) (fun _ _ _ _ _ => True) (fun _ U o U' => ∃ v L, o = .returned v ∧ Q_rm_dps2000 Z a h0 n0 v U'.heap L ∧ FrameEnd U o U' L ({ frames := 0, cells := 0, slots := 0, locals := 0 } : Room).cells ({ frames := 0, cells := 0, slots := 0, locals := 0 } : Room).slots) := by
  refine MetFree.of_bodySF (plainFor_of_name pn_com_example_corpo_corpo_array_GyroRange) hisR ?_
  intro p e s m args below meth c s₁ Bd hml0 hP hK
  obtain ⟨rfl, hZ, hh⟩ := hP
  have hx := Bd.exec
  have hby := Bd.bytes
  have hml : c.maxLocals = 1 := hml0
  have hown : s.vm.findClass "com/example/corpo/corpo/array/GyroRange" = some m.cls := findClass_of_methodNamed Bd.named
  have hnm := (name_of_methodNamed Bd.named Bd.method).1
  have X0 : Stand p l e ({ frames := 0, cells := 0, slots := 0, locals := 0 } : Room) s m #[(.ref a)] below meth c s₁ [] 0 0 := Stand.of_body Bd
  have e0 : s₁.heap = h0 := by rw [← hh, Bd.state]; rfl
  have N0 := Fr.nil n0
  refine Goes.enter (Q := fun v h L => Q_rm_dps2000 Z a h0 n0 v h L) (C := ({ frames := 0, cells := 0, slots := 0, locals := 0 } : Room).cells) (S := ({ frames := 0, cells := 0, slots := 0, locals := 0 } : Room).slots) (ef_rm_dps2000 m a) ?_
  show Goes p e below s _ _ _ (s₁.setTop (mkF m 0 #[.val (.ref a)] []))
  refine Goes.pre (U' := s₁.setTop (mkF m 1 #[.val (.ref a)] [(.ref a)])) (fun t k => XS.aloadN X0.here hx rfl (hb hby d1_0) rfl rfl k) ?_
  obtain ⟨T1, X1, e1, st1⟩ := getF X0 hx hZ hown (host := "") (Or.inl (wq hw 10 rfl)) Via.refl e0 (F_dps_a.ext O.2) (g := (mkF m 1 #[.val (.ref a)] [(.ref a)])) rfl rfl (hb hby d1_1)
  refine Goes.pre (U' := T1.setTop (mkF m 4 #[.val (.ref a)] [(.int (2000 : Int32))])) (fun t k => st1 t k) ?_
  refine Goes.ret X1 (v := (some (.int (2000 : Int32)))) (fun h => by rw [Bd.returns] at h; cases h) Bd.notSynchronized (by decide) (by decide) e1 (fun fs hr => retI X1 hx Bd.returns (hb hby d1_4) hr) ?_
  exact ⟨rfl, N0, rfl⟩
theorem ef_rm_per2000 (m : MethodId) (x0 : Addr) : entryFrame m #[(.ref x0)] 1 = mkF m 0 #[.val (.ref x0)] [] := by first | (simp [entryFrame, mkF, argsToLocals, Value.category]; done) | rfl
def Q_rm_per2000 (Z : State) (a : Addr) (h0 : Heap) (n0 : Nat) (v : Option Value) (h : Heap) (L : List Loc) : Prop := v = some (.double (4589708452245819884 : UInt64)) ∧ Fr n0 L ∧ h = h0
set_option maxRecDepth 65536 in
set_option maxHeartbeats 40000000 in
theorem rm_per2000 (l : Launch) (Z : State) (a0 : Array Value) (hw : ∀ d ∈ tables_1, d.before a0 Z = true) (ws : List Jvm.Cond) (a : Addr) (h0 : Heap) (n0 : Nat) (Z0 : n0 ≤ h0.size) (F_dps_a : Fld Z Z.heap a "com/example/corpo/corpo/array/GyroRange" "dps" "I" (.int (2000 : Int32))) (O : Old Z n0 h0) :
    MetFree l (⟨"com/example/corpo/corpo/array/GyroRange", "dpsPerCount", "()D"⟩ : MethodName) (head1 (Jvm.Cond.code (⟨"com/example/corpo/corpo/array/GyroRange", "dpsPerCount", "()D"⟩ : MethodName) prog_5_method_5_code 1 (some .double) :: ws) ({ frames := 0, cells := 0, slots := 0, locals := 0 } : Room)) (fun argv U => argv = #[(.ref a)] ∧ Z.Warmed39 U.vm ∧ U.heap = h0) (fun _ _ _ _ _ => True) (fun _ U o U' => ∃ v L, o = .returned v ∧ Q_rm_per2000 Z a h0 n0 v U'.heap L ∧ FrameEnd U o U' L ({ frames := 0, cells := 0, slots := 0, locals := 0 } : Room).cells ({ frames := 0, cells := 0, slots := 0, locals := 0 } : Room).slots) := by
  refine MetFree.of_bodySF (plainFor_of_name pn_com_example_corpo_corpo_array_GyroRange) hisR ?_
  intro p e s m args below meth c s₁ Bd hml0 hP hK
  obtain ⟨rfl, hZ, hh⟩ := hP
  have hx := Bd.exec
  have hby := Bd.bytes
  have hml : c.maxLocals = 1 := hml0
  have hown : s.vm.findClass "com/example/corpo/corpo/array/GyroRange" = some m.cls := findClass_of_methodNamed Bd.named
  have hnm := (name_of_methodNamed Bd.named Bd.method).1
  have X0 : Stand p l e ({ frames := 0, cells := 0, slots := 0, locals := 0 } : Room) s m #[(.ref a)] below meth c s₁ [] 0 0 := Stand.of_body Bd
  have e0 : s₁.heap = h0 := by rw [← hh, Bd.state]; rfl
  have N0 := Fr.nil n0
  refine Goes.enter (Q := fun v h L => Q_rm_per2000 Z a h0 n0 v h L) (C := ({ frames := 0, cells := 0, slots := 0, locals := 0 } : Room).cells) (S := ({ frames := 0, cells := 0, slots := 0, locals := 0 } : Room).slots) (ef_rm_per2000 m a) ?_
  show Goes p e below s _ _ _ (s₁.setTop (mkF m 0 #[.val (.ref a)] []))
  refine Goes.pre (U' := s₁.setTop (mkF m 3 #[.val (.ref a)] [(.double (4616611830519824384 : UInt64))])) (fun t k => X0.ldc2DoubleC hx hown (mvT hZ (wq hw 17 rfl)) (g := (mkF m 0 #[.val (.ref a)] [])) rfl (hb hby d2_0) _ k) ?_
  refine Goes.pre (U' := s₁.setTop (mkF m 4 #[.val (.ref a)] [(.ref a), (.double (4616611830519824384 : UInt64))])) (fun t k => XS.aloadN X0.here hx rfl (hb hby d2_3) rfl rfl k) ?_
  obtain ⟨T1, X1, e1, st1⟩ := getF X0 hx hZ hown (host := "") (Or.inl (wq hw 10 rfl)) Via.refl e0 (F_dps_a.ext O.2) (g := (mkF m 4 #[.val (.ref a)] [(.ref a), (.double (4616611830519824384 : UInt64))])) rfl rfl (hb hby d2_4)
  refine Goes.pre (U' := T1.setTop (mkF m 7 #[.val (.ref a)] [(.int (2000 : Int32)), (.double (4616611830519824384 : UInt64))])) (fun t k => st1 t k) ?_
  refine Goes.pre (U' := T1.setTop (mkF m 9 #[.val (.ref a)] [(.int (125 : Int32)), (.int (2000 : Int32)), (.double (4616611830519824384 : UInt64))])) (fun t k => XS.bipush X1.here hx rfl (hb hby d2_7) k) ?_
  refine Goes.pre (U' := T1.setTop (mkF m 10 #[.val (.ref a)] [(.int ((2000 : Int32) / (125 : Int32))), (.double (4616611830519824384 : UInt64))])) (fun t k => XS.idiv X1.here hx rfl (hb hby d2_9) rfl (by decide) k) ?_
  rw [(by decide : ((2000 : Int32) / (125 : Int32)) = (16 : Int32))]
  refine Goes.pre (U' := T1.setTop (mkF m 11 #[.val (.ref a)] [(.double (4625196817309499392 : UInt64)), (.double (4616611830519824384 : UInt64))])) (fun t k => XS.i2dS X1.here hx rfl (v := (4625196817309499392 : UInt64)) (hb hby d2_10) rfl (by decide +kernel) k) ?_
  refine Goes.pre (U' := T1.setTop (mkF m 12 #[.val (.ref a)] [(.double (4634626229029306368 : UInt64))])) (fun t k => XS.dmulS X1.here hx rfl (v := (4634626229029306368 : UInt64)) (hb hby d2_11) rfl (by decide +kernel) (by decide +kernel) k) ?_
  refine Goes.pre (U' := T1.setTop (mkF m 15 #[.val (.ref a)] [(.double (4652007308841189376 : UInt64)), (.double (4634626229029306368 : UInt64))])) (fun t k => X1.ldc2DoubleC hx hown (mvT hZ (wq hw 18 rfl)) (g := (mkF m 12 #[.val (.ref a)] [(.double (4634626229029306368 : UInt64))])) rfl (hb hby d2_12) _ k) ?_
  refine Goes.pre (U' := T1.setTop (mkF m 16 #[.val (.ref a)] [(.double (4589708452245819884 : UInt64))])) (fun t k => XS.ddivS X1.here hx rfl (v := (4589708452245819884 : UInt64)) (hb hby d2_15) rfl (by decide +kernel) (by decide +kernel) k) ?_
  refine Goes.ret X1 (v := (some (.double (4589708452245819884 : UInt64)))) (fun h => by rw [Bd.returns] at h; cases h) Bd.notSynchronized (by decide) (by decide) e1 (fun fs hr => retOut X1 hx Bd.returns rfl (Or.inr (Or.inr (Or.inl ⟨rfl, rfl, _, rfl⟩))) (hb hby d2_16) hr) ?_
  exact ⟨rfl, N0, rfl⟩
theorem ef_rm0 (m : MethodId) (x0 : Int32) : entryFrame m #[(.int x0)] maxLocals = mkF m 0 #[.val (.int x0), .unset, .unset, .unset, .unset, .unset] [] := by first | (simp [entryFrame, mkF, argsToLocals, Value.category, maxLocals]; done) | rfl
theorem pn_com_example_corpo_corpo_array_GyroRangeDpsPerCountPinLaw : plainName "com/example/corpo/corpo/array/GyroRangeDpsPerCountPinLaw" = true := by first | (simp [plainName, overriddenIn]; done) | decide +kernel
theorem pd__28_29I : parseMethodDescriptor "()I" = some ⟨[], some .int⟩ := by decide +kernel
theorem pd__28_29D : parseMethodDescriptor "()D" = some ⟨[], some .double⟩ := by decide +kernel
def Q_rm0 (Z : State) (p1 : Int32) (a125 a250 a500 a1000 a2000 : Addr) (h0 : Heap) (n0 : Nat) (v : Option Value) (h : Heap) (L : List Loc) : Prop := v = some (.int 1) ∧ Fr n0 L
set_option maxRecDepth 65536 in
set_option maxHeartbeats 40000000 in
theorem rm0 (l : Launch) (Z : State) (a0 : Array Value) (hw : ∀ d ∈ tables_1, d.before a0 Z = true) (ws : List Jvm.Cond) (p1 : Int32) (a125 a250 a500 a1000 a2000 : Addr) (h0 : Heap) (n0 : Nat) (Z0 : n0 ≤ h0.size) (S_DPS125 : Sta Z Z.heap "com/example/corpo/corpo/array/GyroRange" "DPS125" "Lcom/example/corpo/corpo/array/GyroRange;" (.ref a125)) (E_a125 : Exa Z Z.heap a125 "com/example/corpo/corpo/array/GyroRange") (F_dps_a125 : Fld Z Z.heap a125 "com/example/corpo/corpo/array/GyroRange" "dps" "I" (.int (125 : Int32))) (S_DPS250 : Sta Z Z.heap "com/example/corpo/corpo/array/GyroRange" "DPS250" "Lcom/example/corpo/corpo/array/GyroRange;" (.ref a250)) (E_a250 : Exa Z Z.heap a250 "com/example/corpo/corpo/array/GyroRange") (F_dps_a250 : Fld Z Z.heap a250 "com/example/corpo/corpo/array/GyroRange" "dps" "I" (.int (250 : Int32))) (S_DPS500 : Sta Z Z.heap "com/example/corpo/corpo/array/GyroRange" "DPS500" "Lcom/example/corpo/corpo/array/GyroRange;" (.ref a500)) (E_a500 : Exa Z Z.heap a500 "com/example/corpo/corpo/array/GyroRange") (F_dps_a500 : Fld Z Z.heap a500 "com/example/corpo/corpo/array/GyroRange" "dps" "I" (.int (500 : Int32))) (S_DPS1000 : Sta Z Z.heap "com/example/corpo/corpo/array/GyroRange" "DPS1000" "Lcom/example/corpo/corpo/array/GyroRange;" (.ref a1000)) (E_a1000 : Exa Z Z.heap a1000 "com/example/corpo/corpo/array/GyroRange") (F_dps_a1000 : Fld Z Z.heap a1000 "com/example/corpo/corpo/array/GyroRange" "dps" "I" (.int (1000 : Int32))) (S_DPS2000 : Sta Z Z.heap "com/example/corpo/corpo/array/GyroRange" "DPS2000" "Lcom/example/corpo/corpo/array/GyroRange;" (.ref a2000)) (E_a2000 : Exa Z Z.heap a2000 "com/example/corpo/corpo/array/GyroRange") (F_dps_a2000 : Fld Z Z.heap a2000 "com/example/corpo/corpo/array/GyroRange" "dps" "I" (.int (2000 : Int32))) (O : Old Z n0 h0) :
    MetFree l x (head1 (Jvm.Cond.code x code maxLocals ret :: ws) room_1) (fun argv U => argv = #[(.int p1)] ∧ Z.Warmed39 U.vm ∧ U.heap = h0) (fun _ _ _ _ _ => True) (fun _ U o U' => ∃ v L, o = .returned v ∧ Q_rm0 Z p1 a125 a250 a500 a1000 a2000 h0 n0 v U'.heap L ∧ FrameEnd U o U' L room_1.cells room_1.slots) := by
  refine MetFree.of_bodySF (plainFor_of_name pn_com_example_corpo_corpo_array_GyroRangeDpsPerCountPinLaw) hisR ?_
  intro p e s m args below meth c s₁ Bd hml0 hP hK
  obtain ⟨rfl, hZ, hh⟩ := hP
  have hx := Bd.exec
  have hby := Bd.bytes
  have hml : c.maxLocals = 6 := hml0
  have hown : s.vm.findClass "com/example/corpo/corpo/array/GyroRangeDpsPerCountPinLaw" = some m.cls := findClass_of_methodNamed Bd.named
  have hnm := (name_of_methodNamed Bd.named Bd.method).1
  have X0 : Stand p l e room_1 s m #[(.int p1)] below meth c s₁ [] 0 0 := Stand.of_body Bd
  have e0 : s₁.heap = h0 := by rw [← hh, Bd.state]; rfl
  have N0 := Fr.nil n0
  refine Goes.enter (Q := fun v h L => Q_rm0 Z p1 a125 a250 a500 a1000 a2000 h0 n0 v h L) (C := room_1.cells) (S := room_1.slots) (ef_rm0 m p1) ?_
  show Goes p e below s _ _ _ (s₁.setTop (mkF m 0 #[.val (.int p1), .unset, .unset, .unset, .unset, .unset] []))
  refine Goes.pre (U' := s₁.setTop (mkF m 1 #[.val (.int p1), .unset, .unset, .unset, .unset, .unset] [(.int p1)])) (fun t k => XS.iloadN X0.here hx rfl (hb hby at_0) rfl k) ?_
  refine Goes.pre (U' := s₁.setTop (mkF m 3 #[.val (.int p1), .unset, .unset, .unset, .unset, .unset] [(.int (2147483647 : Int32)), (.int p1)])) (fun t k => X0.ldcInt hx hown (mvT hZ (wq hw 0 rfl)) (g := (mkF m 1 #[.val (.int p1), .unset, .unset, .unset, .unset, .unset] [(.int p1)])) rfl (hb hby at_1) _ k) ?_
  refine Goes.pre (U' := s₁.setTop (mkF m 4 #[.val (.int p1), .unset, .unset, .unset, .unset, .unset] [(.int (p1 &&& (2147483647 : Int32)))])) (fun t k => XS.iand X0.here hx rfl (hb hby at_3) rfl k) ?_
  refine Goes.pre (U' := s₁.setTop (mkF m 5 #[.val (.int p1), .unset, .unset, .unset, .unset, .unset] [(.int (5 : Int32)), (.int (p1 &&& (2147483647 : Int32)))])) (fun t k => XS.iconst X0.here hx rfl (hb hby at_4) k) ?_
  refine Goes.pre (U' := s₁.setTop (mkF m 6 #[.val (.int p1), .unset, .unset, .unset, .unset, .unset] [(.int ((p1 &&& (2147483647 : Int32)) % (5 : Int32)))])) (fun t k => Jvm.RoadKit.iremM X0 hx rfl (hb hby at_5) rfl (by decide) k) ?_
  refine Goes.pre (U' := s₁.setTop (mkF m 7 #[.val (.int p1), .val (.int ((p1 &&& (2147483647 : Int32)) % (5 : Int32))), .unset, .unset, .unset, .unset] [])) (fun t k => XS.istoreN X0.here hx rfl (hb hby at_6) rfl (l' := #[.val (.int p1), .val (.int ((p1 &&& (2147483647 : Int32)) % (5 : Int32))), .unset, .unset, .unset, .unset]) rfl k) ?_
  obtain ⟨kk, hkk⟩ : ∃ z : Int32, z = ((p1 &&& (2147483647 : Int32)) % (5 : Int32)) := ⟨_, rfl⟩
  rw [← hkk]
  refine Goes.pre (U' := s₁.setTop (mkF m 8 #[.val (.int p1), .val (.int kk), .unset, .unset, .unset, .unset] [(.int kk)])) (fun t k => XS.iloadN X0.here hx rfl (hb hby at_7) rfl k) ?_
  by_cases hc8 : kk = (0 : Int32)
  ·
    refine Goes.pre (U' := s₁.setTop (mkF m 11 #[.val (.int p1), .val (.int kk), .unset, .unset, .unset, .unset] [])) (fun t k => XS.ifNo X0.here hx rfl (hb hby at_8) rfl ((if0 _ _).trans (teq hc8).2) k) ?_
    obtain ⟨T1, X1, e1, st1⟩ := getS2 X0 hx hZ hown (host := "") (Or.inl (wq hw 1 rfl)) Via.refl e0 (S_DPS125.ext O.2) (g := (mkF m 11 #[.val (.int p1), .val (.int kk), .unset, .unset, .unset, .unset] [])) rfl (hb hby at_11)
    refine Goes.pre (U' := T1.setTop (mkF m 14 #[.val (.int p1), .val (.int kk), .unset, .unset, .unset, .unset] [(.ref a125)])) (fun t k => st1 t k) ?_
    refine Goes.pre (U' := T1.setTop (mkF m 15 #[.val (.int p1), .val (.int kk), .val (.ref a125), .unset, .unset, .unset] [])) (fun t k => XS.astoreN X1.here hx rfl (hb hby at_14) rfl rfl (l' := #[.val (.int p1), .val (.int kk), .val (.ref a125), .unset, .unset, .unset]) rfl k) ?_
    refine Goes.pre (U' := T1.setTop (mkF m 18 #[.val (.int p1), .val (.int kk), .val (.ref a125), .unset, .unset, .unset] [(.double (4571694053736337900 : UInt64))])) (fun t k => X1.ldc2DoubleC hx hown (mvT hZ (wq hw 4 rfl)) (g := (mkF m 15 #[.val (.int p1), .val (.int kk), .val (.ref a125), .unset, .unset, .unset] [])) rfl (hb hby at_15) _ k) ?_
    refine Goes.pre (U' := T1.setTop (mkF m 19 #[.val (.int p1), .val (.int kk), .val (.ref a125), .val (.double (4571694053736337900 : UInt64)), .second, .unset] [])) (fun t k => XS.dstoreN X1.here hx rfl (hb hby at_18) rfl (l' := #[.val (.int p1), .val (.int kk), .val (.ref a125), .val (.double (4571694053736337900 : UInt64)), .second, .unset]) rfl k) ?_
    refine Goes.pre (U' := T1.setTop (mkF m 21 #[.val (.int p1), .val (.int kk), .val (.ref a125), .val (.double (4571694053736337900 : UInt64)), .second, .unset] [(.int (125 : Int32))])) (fun t k => XS.bipush X1.here hx rfl (hb hby at_19) k) ?_
    refine Goes.pre (U' := T1.setTop (mkF m 23 #[.val (.int p1), .val (.int kk), .val (.ref a125), .val (.double (4571694053736337900 : UInt64)), .second, .val (.int (125 : Int32))] [])) (fun t k => XS.istore X1.here hx rfl (hb hby at_21) rfl (l' := #[.val (.int p1), .val (.int kk), .val (.ref a125), .val (.double (4571694053736337900 : UInt64)), .second, .val (.int (125 : Int32))]) rfl k) ?_
    refine Goes.pre (U' := T1.setTop (mkF m 102 #[.val (.int p1), .val (.int kk), .val (.ref a125), .val (.double (4571694053736337900 : UInt64)), .second, .val (.int (125 : Int32))] [])) (fun t k => XS.goto X1.here hx rfl (pc0 := 23) (pc' := 102) rfl (hb hby at_23) (by decide) (by decide) k) ?_
    refine Goes.pre (U' := T1.setTop (mkF m 103 #[.val (.int p1), .val (.int kk), .val (.ref a125), .val (.double (4571694053736337900 : UInt64)), .second, .val (.int (125 : Int32))] [(.ref a125)])) (fun t k => XS.aloadN X1.here hx rfl (hb hby at_102) rfl rfl k) ?_
    obtain ⟨cq2, kq2, q2a, q2b, q2c⟩ := isOf hZ e1 (E_a125.ext O.2)
    obtain ⟨_, _, ⟨T2, L2, k2, n2⟩, -, X2, ⟨Lc2, hQ2, l2, y2, z2⟩, st2⟩ := X1.virtualBack hx (y := (⟨"com/example/corpo/corpo/array/GyroRange", "dps", "()I"⟩ : MethodName)) (z := (⟨"com/example/corpo/corpo/array/GyroRange", "dps", "()I"⟩ : MethodName)) hown (mvT hZ (wq hw 5 rfl)) (mvT hZ (wq hw 6 rfl)) (notFace_of_selects (args := #[]) (mvT hZ (wq hw 8 rfl))) (mvT hZ (wq hw 8 rfl)) (mvT hZ (wq hw 7 rfl)) (by decide) (backOf (W := 0) (rm_dps125 l Z a0 hw [] a125 h0 n0 Z0 F_dps_a125 O) hZ (wq hw 9 rfl) (wq hw 2 rfl) (by decide) (by decide)) q2a q2c (g := (mkF m 103 #[.val (.int p1), .val (.int kk), .val (.ref a125), .val (.double (4571694053736337900 : UInt64)), .second, .val (.int (125 : Int32))] [(.ref a125)])) rfl (by rw [hml]; rfl) (Steps.refl _) (argsL := []) (rest := []) (lenOf pd__28_29I rfl) rfl (by show 2 * 0 + _ ≤ _; exact Nat.le_of_eq rfl) (hb hby at_103) (fun _ _ => ⟨rfl, e1, (by decide : 0 + 0 ≤ _), (by decide : 0 + 0 ≤ _)⟩)
    dsimp only [Pt.U, Pt.locs, Pt.cells, Pt.slots] at X2 l2 y2 z2 st2 hQ2
    subst l2 y2 z2
    obtain ⟨rfl, N2q, HQ2⟩ := hQ2
    have N2 := Fr.app N0 N2q
    refine Goes.pre (U' := T2.setTop (mkF m 106 #[.val (.int p1), .val (.int kk), .val (.ref a125), .val (.double (4571694053736337900 : UInt64)), .second, .val (.int (125 : Int32))] [(.int (125 : Int32))])) (fun t k => st2.trans k) ?_
    refine Goes.pre (U' := T2.setTop (mkF m 108 #[.val (.int p1), .val (.int kk), .val (.ref a125), .val (.double (4571694053736337900 : UInt64)), .second, .val (.int (125 : Int32))] [(.int (125 : Int32)), (.int (125 : Int32))])) (fun t k => XS.iload X2.here hx rfl (hb hby at_106) rfl k) ?_
    have hc108 : (125 : Int32) = (125 : Int32) := rfl
    refine Goes.pre (U' := T2.setTop (mkF m 111 #[.val (.int p1), .val (.int kk), .val (.ref a125), .val (.double (4571694053736337900 : UInt64)), .second, .val (.int (125 : Int32))] [])) (fun t k => XS.icmpNo X2.here hx rfl (hb hby at_108) rfl (teq hc108).2 k) ?_
    refine Goes.pre (U' := T2.setTop (mkF m 112 #[.val (.int p1), .val (.int kk), .val (.ref a125), .val (.double (4571694053736337900 : UInt64)), .second, .val (.int (125 : Int32))] [(.ref a125)])) (fun t k => XS.aloadN X2.here hx rfl (hb hby at_111) rfl rfl k) ?_
    obtain ⟨cq3, kq3, q3a, q3b, q3c⟩ := isOf hZ HQ2 (E_a125.ext O.2)
    obtain ⟨_, _, ⟨T3, L3, k3, n3⟩, -, X3, ⟨Lc3, hQ3, l3, y3, z3⟩, st3⟩ := X2.virtualBack hx (y := (⟨"com/example/corpo/corpo/array/GyroRange", "dpsPerCount", "()D"⟩ : MethodName)) (z := (⟨"com/example/corpo/corpo/array/GyroRange", "dpsPerCount", "()D"⟩ : MethodName)) hown (mvT hZ (wq hw 12 rfl)) (mvT hZ (wq hw 13 rfl)) (notFace_of_selects (args := #[]) (mvT hZ (wq hw 15 rfl))) (mvT hZ (wq hw 15 rfl)) (mvT hZ (wq hw 14 rfl)) (by decide) (backOf (W := 0) (rm_per125 l Z a0 hw [] a125 h0 n0 Z0 F_dps_a125 O) hZ (wq hw 16 rfl) (wq hw 2 rfl) (by decide) (by decide)) q3a q3c (g := (mkF m 112 #[.val (.int p1), .val (.int kk), .val (.ref a125), .val (.double (4571694053736337900 : UInt64)), .second, .val (.int (125 : Int32))] [(.ref a125)])) rfl (by rw [hml]; rfl) (Steps.refl _) (argsL := []) (rest := []) (lenOf pd__28_29D rfl) rfl (by show 2 * 0 + _ ≤ _; exact Nat.le_of_eq rfl) (hb hby at_112) (fun _ _ => ⟨rfl, HQ2, (by decide : 0 + 0 ≤ _), (by decide : 0 + 0 ≤ _)⟩)
    dsimp only [Pt.U, Pt.locs, Pt.cells, Pt.slots] at X3 l3 y3 z3 st3 hQ3
    subst l3 y3 z3
    obtain ⟨rfl, N3q, HQ3⟩ := hQ3
    have N3 := Fr.app N2 N3q
    refine Goes.pre (U' := T3.setTop (mkF m 115 #[.val (.int p1), .val (.int kk), .val (.ref a125), .val (.double (4571694053736337900 : UInt64)), .second, .val (.int (125 : Int32))] [(.double (4571694053736337900 : UInt64))])) (fun t k => st3.trans k) ?_
    refine Goes.pre (U' := T3.setTop (mkF m 116 #[.val (.int p1), .val (.int kk), .val (.ref a125), .val (.double (4571694053736337900 : UInt64)), .second, .val (.int (125 : Int32))] [(.double (4571694053736337900 : UInt64)), (.double (4571694053736337900 : UInt64))])) (fun t k => XS.dloadN X3.here hx rfl (hb hby at_115) rfl k) ?_
    refine Goes.pre (U' := T3.setTop (mkF m 117 #[.val (.int p1), .val (.int kk), .val (.ref a125), .val (.double (4571694053736337900 : UInt64)), .second, .val (.int (125 : Int32))] [(.int (0 : Int32))])) (fun t k => XS.dcmpS X3.here hx rfl (v := (0 : Int32)) (hb hby at_116) rfl (by decide +kernel) k) ?_
    have hc117 : (0 : Int32) = (0 : Int32) := rfl
    refine Goes.pre (U' := T3.setTop (mkF m 120 #[.val (.int p1), .val (.int kk), .val (.ref a125), .val (.double (4571694053736337900 : UInt64)), .second, .val (.int (125 : Int32))] [])) (fun t k => XS.ifNo X3.here hx rfl (hb hby at_117) rfl ((if0 _ _).trans (teq hc117).2) k) ?_
    refine Goes.pre (U' := T3.setTop (mkF m 121 #[.val (.int p1), .val (.int kk), .val (.ref a125), .val (.double (4571694053736337900 : UInt64)), .second, .val (.int (125 : Int32))] [(.int (1 : Int32))])) (fun t k => XS.iconst X3.here hx rfl (hb hby at_120) k) ?_
    refine Goes.pre (U' := T3.setTop (mkF m 125 #[.val (.int p1), .val (.int kk), .val (.ref a125), .val (.double (4571694053736337900 : UInt64)), .second, .val (.int (125 : Int32))] [(.int (1 : Int32))])) (fun t k => XS.goto X3.here hx rfl (pc0 := 121) (pc' := 125) rfl (hb hby at_121) (by decide) (by decide) k) ?_
    refine Goes.ret X3 (v := (some (.int (1 : Int32)))) (fun h => by rw [Bd.returns] at h; cases h) Bd.notSynchronized (by decide) (by decide) HQ3 (fun fs hr => retN X3 hx (t := .boolean) Bd.returns (by simp) (hb hby at_125) hr) ?_
    exact ⟨rfl, N3⟩
  ·
    refine Goes.pre (U' := s₁.setTop (mkF m 26 #[.val (.int p1), .val (.int kk), .unset, .unset, .unset, .unset] [])) (fun t k => XS.ifYes X0.here hx rfl (pc0 := 8) (pc' := 26) rfl (hb hby at_8) rfl ((if0 _ _).trans (feq hc8).2) (by decide) (by decide) k) ?_
    refine Goes.pre (U' := s₁.setTop (mkF m 27 #[.val (.int p1), .val (.int kk), .unset, .unset, .unset, .unset] [(.int kk)])) (fun t k => XS.iloadN X0.here hx rfl (hb hby at_26) rfl k) ?_
    refine Goes.pre (U' := s₁.setTop (mkF m 28 #[.val (.int p1), .val (.int kk), .unset, .unset, .unset, .unset] [(.int (1 : Int32)), (.int kk)])) (fun t k => XS.iconst X0.here hx rfl (hb hby at_27) k) ?_
    by_cases hc28 : kk = (1 : Int32)
    ·
      refine Goes.pre (U' := s₁.setTop (mkF m 31 #[.val (.int p1), .val (.int kk), .unset, .unset, .unset, .unset] [])) (fun t k => XS.icmpNo X0.here hx rfl (hb hby at_28) rfl (teq hc28).2 k) ?_
      obtain ⟨T4, X4, e4, st4⟩ := getS2 X0 hx hZ hown (host := "") (Or.inl (wq hw 22 rfl)) Via.refl e0 (S_DPS250.ext O.2) (g := (mkF m 31 #[.val (.int p1), .val (.int kk), .unset, .unset, .unset, .unset] [])) rfl (hb hby at_31)
      refine Goes.pre (U' := T4.setTop (mkF m 34 #[.val (.int p1), .val (.int kk), .unset, .unset, .unset, .unset] [(.ref a250)])) (fun t k => st4 t k) ?_
      refine Goes.pre (U' := T4.setTop (mkF m 35 #[.val (.int p1), .val (.int kk), .val (.ref a250), .unset, .unset, .unset] [])) (fun t k => XS.astoreN X4.here hx rfl (hb hby at_34) rfl rfl (l' := #[.val (.int p1), .val (.int kk), .val (.ref a250), .unset, .unset, .unset]) rfl k) ?_
      refine Goes.pre (U' := T4.setTop (mkF m 38 #[.val (.int p1), .val (.int kk), .val (.ref a250), .unset, .unset, .unset] [(.double (4576197653363708396 : UInt64))])) (fun t k => X4.ldc2DoubleC hx hown (mvT hZ (wq hw 24 rfl)) (g := (mkF m 35 #[.val (.int p1), .val (.int kk), .val (.ref a250), .unset, .unset, .unset] [])) rfl (hb hby at_35) _ k) ?_
      refine Goes.pre (U' := T4.setTop (mkF m 39 #[.val (.int p1), .val (.int kk), .val (.ref a250), .val (.double (4576197653363708396 : UInt64)), .second, .unset] [])) (fun t k => XS.dstoreN X4.here hx rfl (hb hby at_38) rfl (l' := #[.val (.int p1), .val (.int kk), .val (.ref a250), .val (.double (4576197653363708396 : UInt64)), .second, .unset]) rfl k) ?_
      refine Goes.pre (U' := T4.setTop (mkF m 42 #[.val (.int p1), .val (.int kk), .val (.ref a250), .val (.double (4576197653363708396 : UInt64)), .second, .unset] [(.int (250 : Int32))])) (fun t k => XS.sipush X4.here hx rfl (hb hby at_39) k) ?_
      refine Goes.pre (U' := T4.setTop (mkF m 44 #[.val (.int p1), .val (.int kk), .val (.ref a250), .val (.double (4576197653363708396 : UInt64)), .second, .val (.int (250 : Int32))] [])) (fun t k => XS.istore X4.here hx rfl (hb hby at_42) rfl (l' := #[.val (.int p1), .val (.int kk), .val (.ref a250), .val (.double (4576197653363708396 : UInt64)), .second, .val (.int (250 : Int32))]) rfl k) ?_
      refine Goes.pre (U' := T4.setTop (mkF m 102 #[.val (.int p1), .val (.int kk), .val (.ref a250), .val (.double (4576197653363708396 : UInt64)), .second, .val (.int (250 : Int32))] [])) (fun t k => XS.goto X4.here hx rfl (pc0 := 44) (pc' := 102) rfl (hb hby at_44) (by decide) (by decide) k) ?_
      refine Goes.pre (U' := T4.setTop (mkF m 103 #[.val (.int p1), .val (.int kk), .val (.ref a250), .val (.double (4576197653363708396 : UInt64)), .second, .val (.int (250 : Int32))] [(.ref a250)])) (fun t k => XS.aloadN X4.here hx rfl (hb hby at_102) rfl rfl k) ?_
      obtain ⟨cq5, kq5, q5a, q5b, q5c⟩ := isOf hZ e4 (E_a250.ext O.2)
      obtain ⟨_, _, ⟨T5, L5, k5, n5⟩, -, X5, ⟨Lc5, hQ5, l5, y5, z5⟩, st5⟩ := X4.virtualBack hx (y := (⟨"com/example/corpo/corpo/array/GyroRange", "dps", "()I"⟩ : MethodName)) (z := (⟨"com/example/corpo/corpo/array/GyroRange", "dps", "()I"⟩ : MethodName)) hown (mvT hZ (wq hw 5 rfl)) (mvT hZ (wq hw 6 rfl)) (notFace_of_selects (args := #[]) (mvT hZ (wq hw 8 rfl))) (mvT hZ (wq hw 8 rfl)) (mvT hZ (wq hw 7 rfl)) (by decide) (backOf (W := 0) (rm_dps250 l Z a0 hw [] a250 h0 n0 Z0 F_dps_a250 O) hZ (wq hw 9 rfl) (wq hw 2 rfl) (by decide) (by decide)) q5a q5c (g := (mkF m 103 #[.val (.int p1), .val (.int kk), .val (.ref a250), .val (.double (4576197653363708396 : UInt64)), .second, .val (.int (250 : Int32))] [(.ref a250)])) rfl (by rw [hml]; rfl) (Steps.refl _) (argsL := []) (rest := []) (lenOf pd__28_29I rfl) rfl (by show 2 * 0 + _ ≤ _; exact Nat.le_of_eq rfl) (hb hby at_103) (fun _ _ => ⟨rfl, e4, (by decide : 0 + 0 ≤ _), (by decide : 0 + 0 ≤ _)⟩)
      dsimp only [Pt.U, Pt.locs, Pt.cells, Pt.slots] at X5 l5 y5 z5 st5 hQ5
      subst l5 y5 z5
      obtain ⟨rfl, N5q, HQ5⟩ := hQ5
      have N5 := Fr.app N0 N5q
      refine Goes.pre (U' := T5.setTop (mkF m 106 #[.val (.int p1), .val (.int kk), .val (.ref a250), .val (.double (4576197653363708396 : UInt64)), .second, .val (.int (250 : Int32))] [(.int (250 : Int32))])) (fun t k => st5.trans k) ?_
      refine Goes.pre (U' := T5.setTop (mkF m 108 #[.val (.int p1), .val (.int kk), .val (.ref a250), .val (.double (4576197653363708396 : UInt64)), .second, .val (.int (250 : Int32))] [(.int (250 : Int32)), (.int (250 : Int32))])) (fun t k => XS.iload X5.here hx rfl (hb hby at_106) rfl k) ?_
      have hc108 : (250 : Int32) = (250 : Int32) := rfl
      refine Goes.pre (U' := T5.setTop (mkF m 111 #[.val (.int p1), .val (.int kk), .val (.ref a250), .val (.double (4576197653363708396 : UInt64)), .second, .val (.int (250 : Int32))] [])) (fun t k => XS.icmpNo X5.here hx rfl (hb hby at_108) rfl (teq hc108).2 k) ?_
      refine Goes.pre (U' := T5.setTop (mkF m 112 #[.val (.int p1), .val (.int kk), .val (.ref a250), .val (.double (4576197653363708396 : UInt64)), .second, .val (.int (250 : Int32))] [(.ref a250)])) (fun t k => XS.aloadN X5.here hx rfl (hb hby at_111) rfl rfl k) ?_
      obtain ⟨cq6, kq6, q6a, q6b, q6c⟩ := isOf hZ HQ5 (E_a250.ext O.2)
      obtain ⟨_, _, ⟨T6, L6, k6, n6⟩, -, X6, ⟨Lc6, hQ6, l6, y6, z6⟩, st6⟩ := X5.virtualBack hx (y := (⟨"com/example/corpo/corpo/array/GyroRange", "dpsPerCount", "()D"⟩ : MethodName)) (z := (⟨"com/example/corpo/corpo/array/GyroRange", "dpsPerCount", "()D"⟩ : MethodName)) hown (mvT hZ (wq hw 12 rfl)) (mvT hZ (wq hw 13 rfl)) (notFace_of_selects (args := #[]) (mvT hZ (wq hw 15 rfl))) (mvT hZ (wq hw 15 rfl)) (mvT hZ (wq hw 14 rfl)) (by decide) (backOf (W := 0) (rm_per250 l Z a0 hw [] a250 h0 n0 Z0 F_dps_a250 O) hZ (wq hw 16 rfl) (wq hw 2 rfl) (by decide) (by decide)) q6a q6c (g := (mkF m 112 #[.val (.int p1), .val (.int kk), .val (.ref a250), .val (.double (4576197653363708396 : UInt64)), .second, .val (.int (250 : Int32))] [(.ref a250)])) rfl (by rw [hml]; rfl) (Steps.refl _) (argsL := []) (rest := []) (lenOf pd__28_29D rfl) rfl (by show 2 * 0 + _ ≤ _; exact Nat.le_of_eq rfl) (hb hby at_112) (fun _ _ => ⟨rfl, HQ5, (by decide : 0 + 0 ≤ _), (by decide : 0 + 0 ≤ _)⟩)
      dsimp only [Pt.U, Pt.locs, Pt.cells, Pt.slots] at X6 l6 y6 z6 st6 hQ6
      subst l6 y6 z6
      obtain ⟨rfl, N6q, HQ6⟩ := hQ6
      have N6 := Fr.app N5 N6q
      refine Goes.pre (U' := T6.setTop (mkF m 115 #[.val (.int p1), .val (.int kk), .val (.ref a250), .val (.double (4576197653363708396 : UInt64)), .second, .val (.int (250 : Int32))] [(.double (4576197653363708396 : UInt64))])) (fun t k => st6.trans k) ?_
      refine Goes.pre (U' := T6.setTop (mkF m 116 #[.val (.int p1), .val (.int kk), .val (.ref a250), .val (.double (4576197653363708396 : UInt64)), .second, .val (.int (250 : Int32))] [(.double (4576197653363708396 : UInt64)), (.double (4576197653363708396 : UInt64))])) (fun t k => XS.dloadN X6.here hx rfl (hb hby at_115) rfl k) ?_
      refine Goes.pre (U' := T6.setTop (mkF m 117 #[.val (.int p1), .val (.int kk), .val (.ref a250), .val (.double (4576197653363708396 : UInt64)), .second, .val (.int (250 : Int32))] [(.int (0 : Int32))])) (fun t k => XS.dcmpS X6.here hx rfl (v := (0 : Int32)) (hb hby at_116) rfl (by decide +kernel) k) ?_
      have hc117 : (0 : Int32) = (0 : Int32) := rfl
      refine Goes.pre (U' := T6.setTop (mkF m 120 #[.val (.int p1), .val (.int kk), .val (.ref a250), .val (.double (4576197653363708396 : UInt64)), .second, .val (.int (250 : Int32))] [])) (fun t k => XS.ifNo X6.here hx rfl (hb hby at_117) rfl ((if0 _ _).trans (teq hc117).2) k) ?_
      refine Goes.pre (U' := T6.setTop (mkF m 121 #[.val (.int p1), .val (.int kk), .val (.ref a250), .val (.double (4576197653363708396 : UInt64)), .second, .val (.int (250 : Int32))] [(.int (1 : Int32))])) (fun t k => XS.iconst X6.here hx rfl (hb hby at_120) k) ?_
      refine Goes.pre (U' := T6.setTop (mkF m 125 #[.val (.int p1), .val (.int kk), .val (.ref a250), .val (.double (4576197653363708396 : UInt64)), .second, .val (.int (250 : Int32))] [(.int (1 : Int32))])) (fun t k => XS.goto X6.here hx rfl (pc0 := 121) (pc' := 125) rfl (hb hby at_121) (by decide) (by decide) k) ?_
      refine Goes.ret X6 (v := (some (.int (1 : Int32)))) (fun h => by rw [Bd.returns] at h; cases h) Bd.notSynchronized (by decide) (by decide) HQ6 (fun fs hr => retN X6 hx (t := .boolean) Bd.returns (by simp) (hb hby at_125) hr) ?_
      exact ⟨rfl, N6⟩
    ·
      refine Goes.pre (U' := s₁.setTop (mkF m 47 #[.val (.int p1), .val (.int kk), .unset, .unset, .unset, .unset] [])) (fun t k => XS.icmpYes X0.here hx rfl (pc0 := 28) (pc' := 47) rfl (hb hby at_28) rfl (feq hc28).2 (by decide) (by decide) k) ?_
      refine Goes.pre (U' := s₁.setTop (mkF m 48 #[.val (.int p1), .val (.int kk), .unset, .unset, .unset, .unset] [(.int kk)])) (fun t k => XS.iloadN X0.here hx rfl (hb hby at_47) rfl k) ?_
      refine Goes.pre (U' := s₁.setTop (mkF m 49 #[.val (.int p1), .val (.int kk), .unset, .unset, .unset, .unset] [(.int (2 : Int32)), (.int kk)])) (fun t k => XS.iconst X0.here hx rfl (hb hby at_48) k) ?_
      by_cases hc49 : kk = (2 : Int32)
      ·
        refine Goes.pre (U' := s₁.setTop (mkF m 52 #[.val (.int p1), .val (.int kk), .unset, .unset, .unset, .unset] [])) (fun t k => XS.icmpNo X0.here hx rfl (hb hby at_49) rfl (teq hc49).2 k) ?_
        obtain ⟨T7, X7, e7, st7⟩ := getS2 X0 hx hZ hown (host := "") (Or.inl (wq hw 28 rfl)) Via.refl e0 (S_DPS500.ext O.2) (g := (mkF m 52 #[.val (.int p1), .val (.int kk), .unset, .unset, .unset, .unset] [])) rfl (hb hby at_52)
        refine Goes.pre (U' := T7.setTop (mkF m 55 #[.val (.int p1), .val (.int kk), .unset, .unset, .unset, .unset] [(.ref a500)])) (fun t k => st7 t k) ?_
        refine Goes.pre (U' := T7.setTop (mkF m 56 #[.val (.int p1), .val (.int kk), .val (.ref a500), .unset, .unset, .unset] [])) (fun t k => XS.astoreN X7.here hx rfl (hb hby at_55) rfl rfl (l' := #[.val (.int p1), .val (.int kk), .val (.ref a500), .unset, .unset, .unset]) rfl k) ?_
        refine Goes.pre (U' := T7.setTop (mkF m 59 #[.val (.int p1), .val (.int kk), .val (.ref a500), .unset, .unset, .unset] [(.double (4580701252991078892 : UInt64))])) (fun t k => X7.ldc2DoubleC hx hown (mvT hZ (wq hw 30 rfl)) (g := (mkF m 56 #[.val (.int p1), .val (.int kk), .val (.ref a500), .unset, .unset, .unset] [])) rfl (hb hby at_56) _ k) ?_
        refine Goes.pre (U' := T7.setTop (mkF m 60 #[.val (.int p1), .val (.int kk), .val (.ref a500), .val (.double (4580701252991078892 : UInt64)), .second, .unset] [])) (fun t k => XS.dstoreN X7.here hx rfl (hb hby at_59) rfl (l' := #[.val (.int p1), .val (.int kk), .val (.ref a500), .val (.double (4580701252991078892 : UInt64)), .second, .unset]) rfl k) ?_
        refine Goes.pre (U' := T7.setTop (mkF m 63 #[.val (.int p1), .val (.int kk), .val (.ref a500), .val (.double (4580701252991078892 : UInt64)), .second, .unset] [(.int (500 : Int32))])) (fun t k => XS.sipush X7.here hx rfl (hb hby at_60) k) ?_
        refine Goes.pre (U' := T7.setTop (mkF m 65 #[.val (.int p1), .val (.int kk), .val (.ref a500), .val (.double (4580701252991078892 : UInt64)), .second, .val (.int (500 : Int32))] [])) (fun t k => XS.istore X7.here hx rfl (hb hby at_63) rfl (l' := #[.val (.int p1), .val (.int kk), .val (.ref a500), .val (.double (4580701252991078892 : UInt64)), .second, .val (.int (500 : Int32))]) rfl k) ?_
        refine Goes.pre (U' := T7.setTop (mkF m 102 #[.val (.int p1), .val (.int kk), .val (.ref a500), .val (.double (4580701252991078892 : UInt64)), .second, .val (.int (500 : Int32))] [])) (fun t k => XS.goto X7.here hx rfl (pc0 := 65) (pc' := 102) rfl (hb hby at_65) (by decide) (by decide) k) ?_
        refine Goes.pre (U' := T7.setTop (mkF m 103 #[.val (.int p1), .val (.int kk), .val (.ref a500), .val (.double (4580701252991078892 : UInt64)), .second, .val (.int (500 : Int32))] [(.ref a500)])) (fun t k => XS.aloadN X7.here hx rfl (hb hby at_102) rfl rfl k) ?_
        obtain ⟨cq8, kq8, q8a, q8b, q8c⟩ := isOf hZ e7 (E_a500.ext O.2)
        obtain ⟨_, _, ⟨T8, L8, k8, n8⟩, -, X8, ⟨Lc8, hQ8, l8, y8, z8⟩, st8⟩ := X7.virtualBack hx (y := (⟨"com/example/corpo/corpo/array/GyroRange", "dps", "()I"⟩ : MethodName)) (z := (⟨"com/example/corpo/corpo/array/GyroRange", "dps", "()I"⟩ : MethodName)) hown (mvT hZ (wq hw 5 rfl)) (mvT hZ (wq hw 6 rfl)) (notFace_of_selects (args := #[]) (mvT hZ (wq hw 8 rfl))) (mvT hZ (wq hw 8 rfl)) (mvT hZ (wq hw 7 rfl)) (by decide) (backOf (W := 0) (rm_dps500 l Z a0 hw [] a500 h0 n0 Z0 F_dps_a500 O) hZ (wq hw 9 rfl) (wq hw 2 rfl) (by decide) (by decide)) q8a q8c (g := (mkF m 103 #[.val (.int p1), .val (.int kk), .val (.ref a500), .val (.double (4580701252991078892 : UInt64)), .second, .val (.int (500 : Int32))] [(.ref a500)])) rfl (by rw [hml]; rfl) (Steps.refl _) (argsL := []) (rest := []) (lenOf pd__28_29I rfl) rfl (by show 2 * 0 + _ ≤ _; exact Nat.le_of_eq rfl) (hb hby at_103) (fun _ _ => ⟨rfl, e7, (by decide : 0 + 0 ≤ _), (by decide : 0 + 0 ≤ _)⟩)
        dsimp only [Pt.U, Pt.locs, Pt.cells, Pt.slots] at X8 l8 y8 z8 st8 hQ8
        subst l8 y8 z8
        obtain ⟨rfl, N8q, HQ8⟩ := hQ8
        have N8 := Fr.app N0 N8q
        refine Goes.pre (U' := T8.setTop (mkF m 106 #[.val (.int p1), .val (.int kk), .val (.ref a500), .val (.double (4580701252991078892 : UInt64)), .second, .val (.int (500 : Int32))] [(.int (500 : Int32))])) (fun t k => st8.trans k) ?_
        refine Goes.pre (U' := T8.setTop (mkF m 108 #[.val (.int p1), .val (.int kk), .val (.ref a500), .val (.double (4580701252991078892 : UInt64)), .second, .val (.int (500 : Int32))] [(.int (500 : Int32)), (.int (500 : Int32))])) (fun t k => XS.iload X8.here hx rfl (hb hby at_106) rfl k) ?_
        have hc108 : (500 : Int32) = (500 : Int32) := rfl
        refine Goes.pre (U' := T8.setTop (mkF m 111 #[.val (.int p1), .val (.int kk), .val (.ref a500), .val (.double (4580701252991078892 : UInt64)), .second, .val (.int (500 : Int32))] [])) (fun t k => XS.icmpNo X8.here hx rfl (hb hby at_108) rfl (teq hc108).2 k) ?_
        refine Goes.pre (U' := T8.setTop (mkF m 112 #[.val (.int p1), .val (.int kk), .val (.ref a500), .val (.double (4580701252991078892 : UInt64)), .second, .val (.int (500 : Int32))] [(.ref a500)])) (fun t k => XS.aloadN X8.here hx rfl (hb hby at_111) rfl rfl k) ?_
        obtain ⟨cq9, kq9, q9a, q9b, q9c⟩ := isOf hZ HQ8 (E_a500.ext O.2)
        obtain ⟨_, _, ⟨T9, L9, k9, n9⟩, -, X9, ⟨Lc9, hQ9, l9, y9, z9⟩, st9⟩ := X8.virtualBack hx (y := (⟨"com/example/corpo/corpo/array/GyroRange", "dpsPerCount", "()D"⟩ : MethodName)) (z := (⟨"com/example/corpo/corpo/array/GyroRange", "dpsPerCount", "()D"⟩ : MethodName)) hown (mvT hZ (wq hw 12 rfl)) (mvT hZ (wq hw 13 rfl)) (notFace_of_selects (args := #[]) (mvT hZ (wq hw 15 rfl))) (mvT hZ (wq hw 15 rfl)) (mvT hZ (wq hw 14 rfl)) (by decide) (backOf (W := 0) (rm_per500 l Z a0 hw [] a500 h0 n0 Z0 F_dps_a500 O) hZ (wq hw 16 rfl) (wq hw 2 rfl) (by decide) (by decide)) q9a q9c (g := (mkF m 112 #[.val (.int p1), .val (.int kk), .val (.ref a500), .val (.double (4580701252991078892 : UInt64)), .second, .val (.int (500 : Int32))] [(.ref a500)])) rfl (by rw [hml]; rfl) (Steps.refl _) (argsL := []) (rest := []) (lenOf pd__28_29D rfl) rfl (by show 2 * 0 + _ ≤ _; exact Nat.le_of_eq rfl) (hb hby at_112) (fun _ _ => ⟨rfl, HQ8, (by decide : 0 + 0 ≤ _), (by decide : 0 + 0 ≤ _)⟩)
        dsimp only [Pt.U, Pt.locs, Pt.cells, Pt.slots] at X9 l9 y9 z9 st9 hQ9
        subst l9 y9 z9
        obtain ⟨rfl, N9q, HQ9⟩ := hQ9
        have N9 := Fr.app N8 N9q
        refine Goes.pre (U' := T9.setTop (mkF m 115 #[.val (.int p1), .val (.int kk), .val (.ref a500), .val (.double (4580701252991078892 : UInt64)), .second, .val (.int (500 : Int32))] [(.double (4580701252991078892 : UInt64))])) (fun t k => st9.trans k) ?_
        refine Goes.pre (U' := T9.setTop (mkF m 116 #[.val (.int p1), .val (.int kk), .val (.ref a500), .val (.double (4580701252991078892 : UInt64)), .second, .val (.int (500 : Int32))] [(.double (4580701252991078892 : UInt64)), (.double (4580701252991078892 : UInt64))])) (fun t k => XS.dloadN X9.here hx rfl (hb hby at_115) rfl k) ?_
        refine Goes.pre (U' := T9.setTop (mkF m 117 #[.val (.int p1), .val (.int kk), .val (.ref a500), .val (.double (4580701252991078892 : UInt64)), .second, .val (.int (500 : Int32))] [(.int (0 : Int32))])) (fun t k => XS.dcmpS X9.here hx rfl (v := (0 : Int32)) (hb hby at_116) rfl (by decide +kernel) k) ?_
        have hc117 : (0 : Int32) = (0 : Int32) := rfl
        refine Goes.pre (U' := T9.setTop (mkF m 120 #[.val (.int p1), .val (.int kk), .val (.ref a500), .val (.double (4580701252991078892 : UInt64)), .second, .val (.int (500 : Int32))] [])) (fun t k => XS.ifNo X9.here hx rfl (hb hby at_117) rfl ((if0 _ _).trans (teq hc117).2) k) ?_
        refine Goes.pre (U' := T9.setTop (mkF m 121 #[.val (.int p1), .val (.int kk), .val (.ref a500), .val (.double (4580701252991078892 : UInt64)), .second, .val (.int (500 : Int32))] [(.int (1 : Int32))])) (fun t k => XS.iconst X9.here hx rfl (hb hby at_120) k) ?_
        refine Goes.pre (U' := T9.setTop (mkF m 125 #[.val (.int p1), .val (.int kk), .val (.ref a500), .val (.double (4580701252991078892 : UInt64)), .second, .val (.int (500 : Int32))] [(.int (1 : Int32))])) (fun t k => XS.goto X9.here hx rfl (pc0 := 121) (pc' := 125) rfl (hb hby at_121) (by decide) (by decide) k) ?_
        refine Goes.ret X9 (v := (some (.int (1 : Int32)))) (fun h => by rw [Bd.returns] at h; cases h) Bd.notSynchronized (by decide) (by decide) HQ9 (fun fs hr => retN X9 hx (t := .boolean) Bd.returns (by simp) (hb hby at_125) hr) ?_
        exact ⟨rfl, N9⟩
      ·
        refine Goes.pre (U' := s₁.setTop (mkF m 68 #[.val (.int p1), .val (.int kk), .unset, .unset, .unset, .unset] [])) (fun t k => XS.icmpYes X0.here hx rfl (pc0 := 49) (pc' := 68) rfl (hb hby at_49) rfl (feq hc49).2 (by decide) (by decide) k) ?_
        refine Goes.pre (U' := s₁.setTop (mkF m 69 #[.val (.int p1), .val (.int kk), .unset, .unset, .unset, .unset] [(.int kk)])) (fun t k => XS.iloadN X0.here hx rfl (hb hby at_68) rfl k) ?_
        refine Goes.pre (U' := s₁.setTop (mkF m 70 #[.val (.int p1), .val (.int kk), .unset, .unset, .unset, .unset] [(.int (3 : Int32)), (.int kk)])) (fun t k => XS.iconst X0.here hx rfl (hb hby at_69) k) ?_
        by_cases hc70 : kk = (3 : Int32)
        ·
          refine Goes.pre (U' := s₁.setTop (mkF m 73 #[.val (.int p1), .val (.int kk), .unset, .unset, .unset, .unset] [])) (fun t k => XS.icmpNo X0.here hx rfl (hb hby at_70) rfl (teq hc70).2 k) ?_
          obtain ⟨T10, X10, e10, st10⟩ := getS2 X0 hx hZ hown (host := "") (Or.inl (wq hw 19 rfl)) Via.refl e0 (S_DPS1000.ext O.2) (g := (mkF m 73 #[.val (.int p1), .val (.int kk), .unset, .unset, .unset, .unset] [])) rfl (hb hby at_73)
          refine Goes.pre (U' := T10.setTop (mkF m 76 #[.val (.int p1), .val (.int kk), .unset, .unset, .unset, .unset] [(.ref a1000)])) (fun t k => st10 t k) ?_
          refine Goes.pre (U' := T10.setTop (mkF m 77 #[.val (.int p1), .val (.int kk), .val (.ref a1000), .unset, .unset, .unset] [])) (fun t k => XS.astoreN X10.here hx rfl (hb hby at_76) rfl rfl (l' := #[.val (.int p1), .val (.int kk), .val (.ref a1000), .unset, .unset, .unset]) rfl k) ?_
          refine Goes.pre (U' := T10.setTop (mkF m 80 #[.val (.int p1), .val (.int kk), .val (.ref a1000), .unset, .unset, .unset] [(.double (4585204852618449388 : UInt64))])) (fun t k => X10.ldc2DoubleC hx hown (mvT hZ (wq hw 21 rfl)) (g := (mkF m 77 #[.val (.int p1), .val (.int kk), .val (.ref a1000), .unset, .unset, .unset] [])) rfl (hb hby at_77) _ k) ?_
          refine Goes.pre (U' := T10.setTop (mkF m 81 #[.val (.int p1), .val (.int kk), .val (.ref a1000), .val (.double (4585204852618449388 : UInt64)), .second, .unset] [])) (fun t k => XS.dstoreN X10.here hx rfl (hb hby at_80) rfl (l' := #[.val (.int p1), .val (.int kk), .val (.ref a1000), .val (.double (4585204852618449388 : UInt64)), .second, .unset]) rfl k) ?_
          refine Goes.pre (U' := T10.setTop (mkF m 84 #[.val (.int p1), .val (.int kk), .val (.ref a1000), .val (.double (4585204852618449388 : UInt64)), .second, .unset] [(.int (1000 : Int32))])) (fun t k => XS.sipush X10.here hx rfl (hb hby at_81) k) ?_
          refine Goes.pre (U' := T10.setTop (mkF m 86 #[.val (.int p1), .val (.int kk), .val (.ref a1000), .val (.double (4585204852618449388 : UInt64)), .second, .val (.int (1000 : Int32))] [])) (fun t k => XS.istore X10.here hx rfl (hb hby at_84) rfl (l' := #[.val (.int p1), .val (.int kk), .val (.ref a1000), .val (.double (4585204852618449388 : UInt64)), .second, .val (.int (1000 : Int32))]) rfl k) ?_
          refine Goes.pre (U' := T10.setTop (mkF m 102 #[.val (.int p1), .val (.int kk), .val (.ref a1000), .val (.double (4585204852618449388 : UInt64)), .second, .val (.int (1000 : Int32))] [])) (fun t k => XS.goto X10.here hx rfl (pc0 := 86) (pc' := 102) rfl (hb hby at_86) (by decide) (by decide) k) ?_
          refine Goes.pre (U' := T10.setTop (mkF m 103 #[.val (.int p1), .val (.int kk), .val (.ref a1000), .val (.double (4585204852618449388 : UInt64)), .second, .val (.int (1000 : Int32))] [(.ref a1000)])) (fun t k => XS.aloadN X10.here hx rfl (hb hby at_102) rfl rfl k) ?_
          obtain ⟨cq11, kq11, q11a, q11b, q11c⟩ := isOf hZ e10 (E_a1000.ext O.2)
          obtain ⟨_, _, ⟨T11, L11, k11, n11⟩, -, X11, ⟨Lc11, hQ11, l11, y11, z11⟩, st11⟩ := X10.virtualBack hx (y := (⟨"com/example/corpo/corpo/array/GyroRange", "dps", "()I"⟩ : MethodName)) (z := (⟨"com/example/corpo/corpo/array/GyroRange", "dps", "()I"⟩ : MethodName)) hown (mvT hZ (wq hw 5 rfl)) (mvT hZ (wq hw 6 rfl)) (notFace_of_selects (args := #[]) (mvT hZ (wq hw 8 rfl))) (mvT hZ (wq hw 8 rfl)) (mvT hZ (wq hw 7 rfl)) (by decide) (backOf (W := 0) (rm_dps1000 l Z a0 hw [] a1000 h0 n0 Z0 F_dps_a1000 O) hZ (wq hw 9 rfl) (wq hw 2 rfl) (by decide) (by decide)) q11a q11c (g := (mkF m 103 #[.val (.int p1), .val (.int kk), .val (.ref a1000), .val (.double (4585204852618449388 : UInt64)), .second, .val (.int (1000 : Int32))] [(.ref a1000)])) rfl (by rw [hml]; rfl) (Steps.refl _) (argsL := []) (rest := []) (lenOf pd__28_29I rfl) rfl (by show 2 * 0 + _ ≤ _; exact Nat.le_of_eq rfl) (hb hby at_103) (fun _ _ => ⟨rfl, e10, (by decide : 0 + 0 ≤ _), (by decide : 0 + 0 ≤ _)⟩)
          dsimp only [Pt.U, Pt.locs, Pt.cells, Pt.slots] at X11 l11 y11 z11 st11 hQ11
          subst l11 y11 z11
          obtain ⟨rfl, N11q, HQ11⟩ := hQ11
          have N11 := Fr.app N0 N11q
          refine Goes.pre (U' := T11.setTop (mkF m 106 #[.val (.int p1), .val (.int kk), .val (.ref a1000), .val (.double (4585204852618449388 : UInt64)), .second, .val (.int (1000 : Int32))] [(.int (1000 : Int32))])) (fun t k => st11.trans k) ?_
          refine Goes.pre (U' := T11.setTop (mkF m 108 #[.val (.int p1), .val (.int kk), .val (.ref a1000), .val (.double (4585204852618449388 : UInt64)), .second, .val (.int (1000 : Int32))] [(.int (1000 : Int32)), (.int (1000 : Int32))])) (fun t k => XS.iload X11.here hx rfl (hb hby at_106) rfl k) ?_
          have hc108 : (1000 : Int32) = (1000 : Int32) := rfl
          refine Goes.pre (U' := T11.setTop (mkF m 111 #[.val (.int p1), .val (.int kk), .val (.ref a1000), .val (.double (4585204852618449388 : UInt64)), .second, .val (.int (1000 : Int32))] [])) (fun t k => XS.icmpNo X11.here hx rfl (hb hby at_108) rfl (teq hc108).2 k) ?_
          refine Goes.pre (U' := T11.setTop (mkF m 112 #[.val (.int p1), .val (.int kk), .val (.ref a1000), .val (.double (4585204852618449388 : UInt64)), .second, .val (.int (1000 : Int32))] [(.ref a1000)])) (fun t k => XS.aloadN X11.here hx rfl (hb hby at_111) rfl rfl k) ?_
          obtain ⟨cq12, kq12, q12a, q12b, q12c⟩ := isOf hZ HQ11 (E_a1000.ext O.2)
          obtain ⟨_, _, ⟨T12, L12, k12, n12⟩, -, X12, ⟨Lc12, hQ12, l12, y12, z12⟩, st12⟩ := X11.virtualBack hx (y := (⟨"com/example/corpo/corpo/array/GyroRange", "dpsPerCount", "()D"⟩ : MethodName)) (z := (⟨"com/example/corpo/corpo/array/GyroRange", "dpsPerCount", "()D"⟩ : MethodName)) hown (mvT hZ (wq hw 12 rfl)) (mvT hZ (wq hw 13 rfl)) (notFace_of_selects (args := #[]) (mvT hZ (wq hw 15 rfl))) (mvT hZ (wq hw 15 rfl)) (mvT hZ (wq hw 14 rfl)) (by decide) (backOf (W := 0) (rm_per1000 l Z a0 hw [] a1000 h0 n0 Z0 F_dps_a1000 O) hZ (wq hw 16 rfl) (wq hw 2 rfl) (by decide) (by decide)) q12a q12c (g := (mkF m 112 #[.val (.int p1), .val (.int kk), .val (.ref a1000), .val (.double (4585204852618449388 : UInt64)), .second, .val (.int (1000 : Int32))] [(.ref a1000)])) rfl (by rw [hml]; rfl) (Steps.refl _) (argsL := []) (rest := []) (lenOf pd__28_29D rfl) rfl (by show 2 * 0 + _ ≤ _; exact Nat.le_of_eq rfl) (hb hby at_112) (fun _ _ => ⟨rfl, HQ11, (by decide : 0 + 0 ≤ _), (by decide : 0 + 0 ≤ _)⟩)
          dsimp only [Pt.U, Pt.locs, Pt.cells, Pt.slots] at X12 l12 y12 z12 st12 hQ12
          subst l12 y12 z12
          obtain ⟨rfl, N12q, HQ12⟩ := hQ12
          have N12 := Fr.app N11 N12q
          refine Goes.pre (U' := T12.setTop (mkF m 115 #[.val (.int p1), .val (.int kk), .val (.ref a1000), .val (.double (4585204852618449388 : UInt64)), .second, .val (.int (1000 : Int32))] [(.double (4585204852618449388 : UInt64))])) (fun t k => st12.trans k) ?_
          refine Goes.pre (U' := T12.setTop (mkF m 116 #[.val (.int p1), .val (.int kk), .val (.ref a1000), .val (.double (4585204852618449388 : UInt64)), .second, .val (.int (1000 : Int32))] [(.double (4585204852618449388 : UInt64)), (.double (4585204852618449388 : UInt64))])) (fun t k => XS.dloadN X12.here hx rfl (hb hby at_115) rfl k) ?_
          refine Goes.pre (U' := T12.setTop (mkF m 117 #[.val (.int p1), .val (.int kk), .val (.ref a1000), .val (.double (4585204852618449388 : UInt64)), .second, .val (.int (1000 : Int32))] [(.int (0 : Int32))])) (fun t k => XS.dcmpS X12.here hx rfl (v := (0 : Int32)) (hb hby at_116) rfl (by decide +kernel) k) ?_
          have hc117 : (0 : Int32) = (0 : Int32) := rfl
          refine Goes.pre (U' := T12.setTop (mkF m 120 #[.val (.int p1), .val (.int kk), .val (.ref a1000), .val (.double (4585204852618449388 : UInt64)), .second, .val (.int (1000 : Int32))] [])) (fun t k => XS.ifNo X12.here hx rfl (hb hby at_117) rfl ((if0 _ _).trans (teq hc117).2) k) ?_
          refine Goes.pre (U' := T12.setTop (mkF m 121 #[.val (.int p1), .val (.int kk), .val (.ref a1000), .val (.double (4585204852618449388 : UInt64)), .second, .val (.int (1000 : Int32))] [(.int (1 : Int32))])) (fun t k => XS.iconst X12.here hx rfl (hb hby at_120) k) ?_
          refine Goes.pre (U' := T12.setTop (mkF m 125 #[.val (.int p1), .val (.int kk), .val (.ref a1000), .val (.double (4585204852618449388 : UInt64)), .second, .val (.int (1000 : Int32))] [(.int (1 : Int32))])) (fun t k => XS.goto X12.here hx rfl (pc0 := 121) (pc' := 125) rfl (hb hby at_121) (by decide) (by decide) k) ?_
          refine Goes.ret X12 (v := (some (.int (1 : Int32)))) (fun h => by rw [Bd.returns] at h; cases h) Bd.notSynchronized (by decide) (by decide) HQ12 (fun fs hr => retN X12 hx (t := .boolean) Bd.returns (by simp) (hb hby at_125) hr) ?_
          exact ⟨rfl, N12⟩
        ·
          refine Goes.pre (U' := s₁.setTop (mkF m 89 #[.val (.int p1), .val (.int kk), .unset, .unset, .unset, .unset] [])) (fun t k => XS.icmpYes X0.here hx rfl (pc0 := 70) (pc' := 89) rfl (hb hby at_70) rfl (feq hc70).2 (by decide) (by decide) k) ?_
          obtain ⟨T13, X13, e13, st13⟩ := getS2 X0 hx hZ hown (host := "") (Or.inl (wq hw 25 rfl)) Via.refl e0 (S_DPS2000.ext O.2) (g := (mkF m 89 #[.val (.int p1), .val (.int kk), .unset, .unset, .unset, .unset] [])) rfl (hb hby at_89)
          refine Goes.pre (U' := T13.setTop (mkF m 92 #[.val (.int p1), .val (.int kk), .unset, .unset, .unset, .unset] [(.ref a2000)])) (fun t k => st13 t k) ?_
          refine Goes.pre (U' := T13.setTop (mkF m 93 #[.val (.int p1), .val (.int kk), .val (.ref a2000), .unset, .unset, .unset] [])) (fun t k => XS.astoreN X13.here hx rfl (hb hby at_92) rfl rfl (l' := #[.val (.int p1), .val (.int kk), .val (.ref a2000), .unset, .unset, .unset]) rfl k) ?_
          refine Goes.pre (U' := T13.setTop (mkF m 96 #[.val (.int p1), .val (.int kk), .val (.ref a2000), .unset, .unset, .unset] [(.double (4589708452245819884 : UInt64))])) (fun t k => X13.ldc2DoubleC hx hown (mvT hZ (wq hw 27 rfl)) (g := (mkF m 93 #[.val (.int p1), .val (.int kk), .val (.ref a2000), .unset, .unset, .unset] [])) rfl (hb hby at_93) _ k) ?_
          refine Goes.pre (U' := T13.setTop (mkF m 97 #[.val (.int p1), .val (.int kk), .val (.ref a2000), .val (.double (4589708452245819884 : UInt64)), .second, .unset] [])) (fun t k => XS.dstoreN X13.here hx rfl (hb hby at_96) rfl (l' := #[.val (.int p1), .val (.int kk), .val (.ref a2000), .val (.double (4589708452245819884 : UInt64)), .second, .unset]) rfl k) ?_
          refine Goes.pre (U' := T13.setTop (mkF m 100 #[.val (.int p1), .val (.int kk), .val (.ref a2000), .val (.double (4589708452245819884 : UInt64)), .second, .unset] [(.int (2000 : Int32))])) (fun t k => XS.sipush X13.here hx rfl (hb hby at_97) k) ?_
          refine Goes.pre (U' := T13.setTop (mkF m 102 #[.val (.int p1), .val (.int kk), .val (.ref a2000), .val (.double (4589708452245819884 : UInt64)), .second, .val (.int (2000 : Int32))] [])) (fun t k => XS.istore X13.here hx rfl (hb hby at_100) rfl (l' := #[.val (.int p1), .val (.int kk), .val (.ref a2000), .val (.double (4589708452245819884 : UInt64)), .second, .val (.int (2000 : Int32))]) rfl k) ?_
          refine Goes.pre (U' := T13.setTop (mkF m 103 #[.val (.int p1), .val (.int kk), .val (.ref a2000), .val (.double (4589708452245819884 : UInt64)), .second, .val (.int (2000 : Int32))] [(.ref a2000)])) (fun t k => XS.aloadN X13.here hx rfl (hb hby at_102) rfl rfl k) ?_
          obtain ⟨cq14, kq14, q14a, q14b, q14c⟩ := isOf hZ e13 (E_a2000.ext O.2)
          obtain ⟨_, _, ⟨T14, L14, k14, n14⟩, -, X14, ⟨Lc14, hQ14, l14, y14, z14⟩, st14⟩ := X13.virtualBack hx (y := (⟨"com/example/corpo/corpo/array/GyroRange", "dps", "()I"⟩ : MethodName)) (z := (⟨"com/example/corpo/corpo/array/GyroRange", "dps", "()I"⟩ : MethodName)) hown (mvT hZ (wq hw 5 rfl)) (mvT hZ (wq hw 6 rfl)) (notFace_of_selects (args := #[]) (mvT hZ (wq hw 8 rfl))) (mvT hZ (wq hw 8 rfl)) (mvT hZ (wq hw 7 rfl)) (by decide) (backOf (W := 0) (rm_dps2000 l Z a0 hw [] a2000 h0 n0 Z0 F_dps_a2000 O) hZ (wq hw 9 rfl) (wq hw 2 rfl) (by decide) (by decide)) q14a q14c (g := (mkF m 103 #[.val (.int p1), .val (.int kk), .val (.ref a2000), .val (.double (4589708452245819884 : UInt64)), .second, .val (.int (2000 : Int32))] [(.ref a2000)])) rfl (by rw [hml]; rfl) (Steps.refl _) (argsL := []) (rest := []) (lenOf pd__28_29I rfl) rfl (by show 2 * 0 + _ ≤ _; exact Nat.le_of_eq rfl) (hb hby at_103) (fun _ _ => ⟨rfl, e13, (by decide : 0 + 0 ≤ _), (by decide : 0 + 0 ≤ _)⟩)
          dsimp only [Pt.U, Pt.locs, Pt.cells, Pt.slots] at X14 l14 y14 z14 st14 hQ14
          subst l14 y14 z14
          obtain ⟨rfl, N14q, HQ14⟩ := hQ14
          have N14 := Fr.app N0 N14q
          refine Goes.pre (U' := T14.setTop (mkF m 106 #[.val (.int p1), .val (.int kk), .val (.ref a2000), .val (.double (4589708452245819884 : UInt64)), .second, .val (.int (2000 : Int32))] [(.int (2000 : Int32))])) (fun t k => st14.trans k) ?_
          refine Goes.pre (U' := T14.setTop (mkF m 108 #[.val (.int p1), .val (.int kk), .val (.ref a2000), .val (.double (4589708452245819884 : UInt64)), .second, .val (.int (2000 : Int32))] [(.int (2000 : Int32)), (.int (2000 : Int32))])) (fun t k => XS.iload X14.here hx rfl (hb hby at_106) rfl k) ?_
          have hc108 : (2000 : Int32) = (2000 : Int32) := rfl
          refine Goes.pre (U' := T14.setTop (mkF m 111 #[.val (.int p1), .val (.int kk), .val (.ref a2000), .val (.double (4589708452245819884 : UInt64)), .second, .val (.int (2000 : Int32))] [])) (fun t k => XS.icmpNo X14.here hx rfl (hb hby at_108) rfl (teq hc108).2 k) ?_
          refine Goes.pre (U' := T14.setTop (mkF m 112 #[.val (.int p1), .val (.int kk), .val (.ref a2000), .val (.double (4589708452245819884 : UInt64)), .second, .val (.int (2000 : Int32))] [(.ref a2000)])) (fun t k => XS.aloadN X14.here hx rfl (hb hby at_111) rfl rfl k) ?_
          obtain ⟨cq15, kq15, q15a, q15b, q15c⟩ := isOf hZ HQ14 (E_a2000.ext O.2)
          obtain ⟨_, _, ⟨T15, L15, k15, n15⟩, -, X15, ⟨Lc15, hQ15, l15, y15, z15⟩, st15⟩ := X14.virtualBack hx (y := (⟨"com/example/corpo/corpo/array/GyroRange", "dpsPerCount", "()D"⟩ : MethodName)) (z := (⟨"com/example/corpo/corpo/array/GyroRange", "dpsPerCount", "()D"⟩ : MethodName)) hown (mvT hZ (wq hw 12 rfl)) (mvT hZ (wq hw 13 rfl)) (notFace_of_selects (args := #[]) (mvT hZ (wq hw 15 rfl))) (mvT hZ (wq hw 15 rfl)) (mvT hZ (wq hw 14 rfl)) (by decide) (backOf (W := 0) (rm_per2000 l Z a0 hw [] a2000 h0 n0 Z0 F_dps_a2000 O) hZ (wq hw 16 rfl) (wq hw 2 rfl) (by decide) (by decide)) q15a q15c (g := (mkF m 112 #[.val (.int p1), .val (.int kk), .val (.ref a2000), .val (.double (4589708452245819884 : UInt64)), .second, .val (.int (2000 : Int32))] [(.ref a2000)])) rfl (by rw [hml]; rfl) (Steps.refl _) (argsL := []) (rest := []) (lenOf pd__28_29D rfl) rfl (by show 2 * 0 + _ ≤ _; exact Nat.le_of_eq rfl) (hb hby at_112) (fun _ _ => ⟨rfl, HQ14, (by decide : 0 + 0 ≤ _), (by decide : 0 + 0 ≤ _)⟩)
          dsimp only [Pt.U, Pt.locs, Pt.cells, Pt.slots] at X15 l15 y15 z15 st15 hQ15
          subst l15 y15 z15
          obtain ⟨rfl, N15q, HQ15⟩ := hQ15
          have N15 := Fr.app N14 N15q
          refine Goes.pre (U' := T15.setTop (mkF m 115 #[.val (.int p1), .val (.int kk), .val (.ref a2000), .val (.double (4589708452245819884 : UInt64)), .second, .val (.int (2000 : Int32))] [(.double (4589708452245819884 : UInt64))])) (fun t k => st15.trans k) ?_
          refine Goes.pre (U' := T15.setTop (mkF m 116 #[.val (.int p1), .val (.int kk), .val (.ref a2000), .val (.double (4589708452245819884 : UInt64)), .second, .val (.int (2000 : Int32))] [(.double (4589708452245819884 : UInt64)), (.double (4589708452245819884 : UInt64))])) (fun t k => XS.dloadN X15.here hx rfl (hb hby at_115) rfl k) ?_
          refine Goes.pre (U' := T15.setTop (mkF m 117 #[.val (.int p1), .val (.int kk), .val (.ref a2000), .val (.double (4589708452245819884 : UInt64)), .second, .val (.int (2000 : Int32))] [(.int (0 : Int32))])) (fun t k => XS.dcmpS X15.here hx rfl (v := (0 : Int32)) (hb hby at_116) rfl (by decide +kernel) k) ?_
          have hc117 : (0 : Int32) = (0 : Int32) := rfl
          refine Goes.pre (U' := T15.setTop (mkF m 120 #[.val (.int p1), .val (.int kk), .val (.ref a2000), .val (.double (4589708452245819884 : UInt64)), .second, .val (.int (2000 : Int32))] [])) (fun t k => XS.ifNo X15.here hx rfl (hb hby at_117) rfl ((if0 _ _).trans (teq hc117).2) k) ?_
          refine Goes.pre (U' := T15.setTop (mkF m 121 #[.val (.int p1), .val (.int kk), .val (.ref a2000), .val (.double (4589708452245819884 : UInt64)), .second, .val (.int (2000 : Int32))] [(.int (1 : Int32))])) (fun t k => XS.iconst X15.here hx rfl (hb hby at_120) k) ?_
          refine Goes.pre (U' := T15.setTop (mkF m 125 #[.val (.int p1), .val (.int kk), .val (.ref a2000), .val (.double (4589708452245819884 : UInt64)), .second, .val (.int (2000 : Int32))] [(.int (1 : Int32))])) (fun t k => XS.goto X15.here hx rfl (pc0 := 121) (pc' := 125) rfl (hb hby at_121) (by decide) (by decide) k) ?_
          refine Goes.ret X15 (v := (some (.int (1 : Int32)))) (fun h => by rw [Bd.returns] at h; cases h) Bd.notSynchronized (by decide) (by decide) HQ15 (fun fs hr => retN X15 hx (t := .boolean) Bd.returns (by simp) (hb hby at_125) hr) ?_
          exact ⟨rfl, N15⟩
theorem own_fld {Z : State} {args : Array Value} {t : Term} {a : Addr} {C n d : String} {k : Int32} (ev : t.eval args Z none [] Z = some (.ref a)) (w : (Cond.eq (Term.field t C n d) (Term.int k)).value args Z none Z [] = some true) : Fld Z Z.heap a C n d (.int k) := by
  obtain ⟨x, y, e1, e2, k1, -⟩ := cmp_v (Or.inl w)
  have e3 : y = .int k := (Option.some.inj (e2.symm.trans (Term.int_eval k)))
  subst e3
  have e4 : ∃ i, x = .int i := by
    have w' := w
    simp only [Cond.value, e1, e2] at w'
    cases x <;> simp at w' ⊢
  obtain ⟨i, rfl⟩ := e4
  have q : i = k := gotT (Cond.eq_ints e1 e2) w
  subst q
  exact Fld.start (by rw [← fld_at ev]; exact e1)
set_option maxRecDepth 65536 in
set_option maxHeartbeats 40000000 in
theorem comes_1 {Post : Tables → Env → Array Value → State → Outcome → State → Prop} (hpost : ∀ tb e args s v u, (limb_1_1.after args s (.returned v) u = true ∧ limb_1_2.after args s (.returned v) u = true ∧ True) → FrameEnd s (.returned v) u (Jvm.fieldLocs frame_1_writes args s ++ Jvm.arrayLocs frame_1_arrays args s ++ Jvm.staticLocs frame_1_statics s) 0 0 → Post tb e args s (.returned v) u) :
    ArmFor flags0 classFile x code maxLocals ret World_1 tables_1 room_1 Calls_1 rest_1 Pre_1 Post := by
  intro l hfl _ _ p e ha hc hk s m args below hf hA hF happ hP
  obtain ⟨hcalls, hrest, hpre⟩ := hP
  obtain ⟨-, -, -, hnamed, -, -, -, hat⟩ := (Spec.applies_iff hf).mp happ
  obtain ⟨hg, hn⟩ := and_e (Cond.before_iff.mp (show (Jvm.Cond.and given_1 narrow_1).before args s = true from hpre))
  obtain ⟨g1, g2⟩ := and_e hg
  obtain ⟨w0, rfl⟩ : ∃ w0 : Value, args = #[w0] := by
    have hs : args.size = 1 := by simpa [Cond.value, given_1] using g1
    obtain ⟨L⟩ := args
    match L, hs with
    | [w0], _ => exact ⟨w0, rfl⟩
  have hw := fun d (hd : d ∈ tables_1) => atoms_spec (ws := Jvm.Cond.code x code maxLocals ret :: tables_1) hat d (List.mem_cons_of_mem _ hd)
  have hfit : Fit s := fun {y c} hc i hi => by
    obtain ⟨ha, rfl⟩ := Array.getElem?_eq_some_iff.mp hc
    have q := List.all_eq_true.mp ((Array.all_eq_true_iff_forall_mem.mp hF) _ (Array.getElem_mem ha)) i (List.mem_range.mpr hi)
    simpa [Array.getElem?_eq_getElem hi] using q
  obtain ⟨i0, ei0⟩ := is_v g2
  obtain rfl : w0 = (.int i0) := Option.some.inj ei0
  obtain ⟨x125, r125⟩ := and_e hn
  obtain ⟨y125, z125⟩ := and_e r125
  obtain ⟨a125, e125⟩ := exa_v x125
  have S125 : Sta s s.heap "com/example/corpo/corpo/array/GyroRange" "DPS125" "Lcom/example/corpo/corpo/array/GyroRange;" (.ref a125) := Sta.start e125 (Or.inr ⟨(wq hw 2 rfl), (wq hw 3 rfl)⟩)
  have E125 := Exa.start e125 x125
  have F125 : Fld s s.heap a125 "com/example/corpo/corpo/array/GyroRange" "dps" "I" (.int (125 : Int32)) := own_fld e125 y125
  obtain ⟨x1000, r1000⟩ := and_e z125
  obtain ⟨y1000, z1000⟩ := and_e r1000
  obtain ⟨a1000, e1000⟩ := exa_v x1000
  have S1000 : Sta s s.heap "com/example/corpo/corpo/array/GyroRange" "DPS1000" "Lcom/example/corpo/corpo/array/GyroRange;" (.ref a1000) := Sta.start e1000 (Or.inr ⟨(wq hw 2 rfl), (wq hw 20 rfl)⟩)
  have E1000 := Exa.start e1000 x1000
  have F1000 : Fld s s.heap a1000 "com/example/corpo/corpo/array/GyroRange" "dps" "I" (.int (1000 : Int32)) := own_fld e1000 y1000
  obtain ⟨x250, r250⟩ := and_e z1000
  obtain ⟨y250, z250⟩ := and_e r250
  obtain ⟨a250, e250⟩ := exa_v x250
  have S250 : Sta s s.heap "com/example/corpo/corpo/array/GyroRange" "DPS250" "Lcom/example/corpo/corpo/array/GyroRange;" (.ref a250) := Sta.start e250 (Or.inr ⟨(wq hw 2 rfl), (wq hw 23 rfl)⟩)
  have E250 := Exa.start e250 x250
  have F250 : Fld s s.heap a250 "com/example/corpo/corpo/array/GyroRange" "dps" "I" (.int (250 : Int32)) := own_fld e250 y250
  obtain ⟨x2000, r2000⟩ := and_e z250
  obtain ⟨y2000, z2000⟩ := and_e r2000
  obtain ⟨a2000, e2000⟩ := exa_v x2000
  have S2000 : Sta s s.heap "com/example/corpo/corpo/array/GyroRange" "DPS2000" "Lcom/example/corpo/corpo/array/GyroRange;" (.ref a2000) := Sta.start e2000 (Or.inr ⟨(wq hw 2 rfl), (wq hw 26 rfl)⟩)
  have E2000 := Exa.start e2000 x2000
  have F2000 : Fld s s.heap a2000 "com/example/corpo/corpo/array/GyroRange" "dps" "I" (.int (2000 : Int32)) := own_fld e2000 y2000
  obtain ⟨x500, r500⟩ := and_e z2000
  have y500 := r500
  obtain ⟨a500, e500⟩ := exa_v x500
  have S500 : Sta s s.heap "com/example/corpo/corpo/array/GyroRange" "DPS500" "Lcom/example/corpo/corpo/array/GyroRange;" (.ref a500) := Sta.start e500 (Or.inr ⟨(wq hw 2 rfl), (wq hw 29 rfl)⟩)
  have E500 := Exa.start e500 x500
  have F500 : Fld s s.heap a500 "com/example/corpo/corpo/array/GyroRange" "dps" "I" (.int (500 : Int32)) := own_fld e500 y500
  obtain ⟨n, o, h1, h2, h3, _, L, rfl, ⟨rfl, N⟩, hq⟩ := rm0 l s _ hw tables_1 i0 a125 a250 a500 a1000 a2000 s.heap s.heap.size (Nat.le_refl _) S125 E125 F125 S250 E250 F250 S500 E500 F500 S1000 E1000 F1000 S2000 E2000 F2000 (Old.start s) p e ha hc hk s m _ below hf ((Spec.applies_iff_loose hf).mp happ).1 ⟨rfl, State.Warmed39.refl s, rfl⟩ trivial
  refine ⟨n, _, h1, h2, h3, hpost _ _ _ _ _ _ ⟨Cond.after_iff.mpr rfl, Cond.after_iff.mpr (eq_i res_at (Term.int_eval (1)) rfl), trivial⟩ ⟨hq.1, hq.2.1, (hq.2.2.sift fun y hy => Or.inr (N y hy)).mono (by decide) (by decide)⟩⟩
theorem main_1_1 : Claimed_1_1 := comes_1 fun _ _ _ _ _ _ h hF => ⟨h.1, hF⟩
theorem main_1_2 : Claimed_1_2 := comes_1 fun _ _ _ _ _ _ h hF => ⟨h.2.1, hF⟩
end Jvm.Pilot.@@N@@
namespace Jvm.Pilot.@@N@@
open Jvm Jvm.ClassFile Sem Op Lib Jvm.Free Jvm.Stand Jvm.Pilot.@@N@@.Jvm.D
/-! MADE BY PROGRAM (witnessworld.py) out of the Statement's table words and the real class files: 12 classes; the members and pool entries that the words name. The judged class is class 1, her method 1. -/
namespace start1
open Jvm.ClassFile
def u (s : String) : CpInfo := .utf8 (stringToUtf16 s)
/-- a pool by its gaps: so many unusable entries, then the entry; so many at the end -/
def gap : Nat → List CpInfo → List CpInfo
  | 0, r => r
  | n + 1, r => .unusable :: gap n r
def poolList (es : List (Nat × CpInfo)) (last : Nat) : List CpInfo := es.foldr (fun e r => gap e.1 (e.2 :: r)) (gap last [])
def pool (es : List (Nat × CpInfo)) (last : Nat) : Array CpInfo := ⟨poolList es last⟩
def fileOf (pool : Array CpInfo) (this : Nat) (attrs : Array Attribute := #[]) (ms : Array MethodInfo := #[]) (fl : Nat := 33) (sup : Nat := 0) (ifs : Array Nat := #[]) (fds : Array FieldInfo := #[]) : ClassFile where
  minorVersion := 0
  majorVersion := 65
  constantPool := pool
  accessFlags := fl
  thisClass := this
  superClass := sup
  interfaces := ifs
  fields := fds
  methods := ms
  attributes := attrs
def plain (name : String) (sup : Option ClassId) : Class where
  name := name
  kind := .ordinary
  loader := none
  accessFlags := 33
  super := sup
  interfaces := #[]
  cf := none
  fields := #[]
  methods := #[]
  instanceTypes := #[]
  staticTypes := #[]
  resolved := #[]
  callSites := []
  init := .initialized
  statics := none
  mirror := none

def pool0 : Array CpInfo := pool [(5, u "<init>"), (0, u "()V"), (1, .class_ 10), (1, u "java/lang/Object")] 113

def k0m0 : Method := { name := "<init>", desc := "()V", sig := { parameters := [], returnType := none }, accessFlags := 1, code := none }
/-- java/lang/Object -/
def k0 : Class := { plain "java/lang/Object" none with
  accessFlags := 33
  interfaces := #[]
  cf := some (fileOf pool0 8 #[] #[{ accessFlags := 1, nameIndex := 5, descriptorIndex := 6, attributes := #[] }] 33 0 #[] #[])
  fields := #[]
  methods := #[k0m0]
  instanceTypes := #[]
  staticTypes := #[]
  resolved := Array.replicate 124 none
  statics := none }

def pool1 : Array CpInfo := pool [(2, .class_ 4), (1, u "java/lang/Object"), (0, u "<init>"), (0, u "()V"), (0, .integer 2147483647), (0, .fieldref 9 10), (0, .class_ 11), (0, .nameAndType 12 13), (0, u "com/example/corpo/corpo/array/GyroRange"), (0, u "DPS125"), (0, u "Lcom/example/corpo/corpo/array/GyroRange;"), (0, .double 4571694053736337900), (1, .fieldref 9 17), (0, .nameAndType 18 13), (0, u "DPS250"), (0, .double 4576197653363708396), (1, .fieldref 9 22), (0, .nameAndType 23 13), (0, u "DPS500"), (0, .double 4580701252991078892), (1, .fieldref 9 27), (0, .nameAndType 28 13), (0, u "DPS1000"), (0, .double 4585204852618449388), (1, .fieldref 9 32), (0, .nameAndType 33 13), (0, u "DPS2000"), (0, .double 4589708452245819884), (1, .methodref 9 37), (0, .nameAndType 38 39), (0, u "dps"), (0, u "()I"), (0, .methodref 9 41), (0, .nameAndType 42 43), (0, u "dpsPerCount"), (0, u "()D"), (0, .class_ 45), (0, u "com/example/corpo/corpo/array/GyroRangeDpsPerCountPinLaw"), (2, u "law"), (0, u "(I)Z")] 3

def k1m0 : Method := { name := "<init>", desc := "()V", sig := { parameters := [], returnType := none }, accessFlags := 1, code := none }
def k1c1 : Code := { maxStack := 4, maxLocals := 6, code := code, exceptionTable := #[], attributes := #[] }
def k1m1 : Method := { name := "law", desc := "(I)Z", sig := { parameters := [.int], returnType := some .boolean }, accessFlags := 9, code := some k1c1 }
/-- com/example/corpo/corpo/array/GyroRangeDpsPerCountPinLaw -/
def k1 : Class := { plain "com/example/corpo/corpo/array/GyroRangeDpsPerCountPinLaw" (some 0) with
  accessFlags := 49
  interfaces := #[]
  cf := some (fileOf pool1 44 #[] #[{ accessFlags := 1, nameIndex := 5, descriptorIndex := 6, attributes := #[] }, { accessFlags := 9, nameIndex := 48, descriptorIndex := 49, attributes := #[] }] 49 2 #[] #[])
  fields := #[]
  methods := #[k1m0, k1m1]
  instanceTypes := #[]
  staticTypes := #[]
  resolved := Array.replicate 53 none
  statics := none }

def pool2 : Array CpInfo := pool [(1, .class_ 2), (0, u "java/lang/constant/Constable"), (0, .class_ 4), (0, u "java/lang/Object")] 6

/-- java/lang/constant/Constable -/
def k2 : Class := { plain "java/lang/constant/Constable" (some 0) with
  accessFlags := 1537
  interfaces := #[]
  cf := some (fileOf pool2 1 #[] #[] 1537 3 #[] #[])
  fields := #[]
  methods := #[]
  instanceTypes := #[]
  staticTypes := #[]
  resolved := Array.replicate 11 none
  statics := none }

def pool3 : Array CpInfo := pool [(1, .class_ 2), (0, u "java/lang/Comparable"), (0, .class_ 4), (0, u "java/lang/Object")] 7

/-- java/lang/Comparable -/
def k3 : Class := { plain "java/lang/Comparable" (some 0) with
  accessFlags := 1537
  interfaces := #[]
  cf := some (fileOf pool3 1 #[] #[] 1537 3 #[] #[])
  fields := #[]
  methods := #[]
  instanceTypes := #[]
  staticTypes := #[]
  resolved := Array.replicate 12 none
  statics := none }

def pool4 : Array CpInfo := pool [(1, .class_ 2), (0, u "java/io/Serializable"), (0, .class_ 4), (0, u "java/lang/Object")] 2

/-- java/io/Serializable -/
def k4 : Class := { plain "java/io/Serializable" (some 0) with
  accessFlags := 1537
  interfaces := #[]
  cf := some (fileOf pool4 1 #[] #[] 1537 3 #[] #[])
  fields := #[]
  methods := #[]
  instanceTypes := #[]
  staticTypes := #[]
  resolved := Array.replicate 7 none
  statics := none }

def pool5 : Array CpInfo := pool [(2, .class_ 4), (1, u "java/lang/Enum"), (0, u "name"), (0, u "Ljava/lang/String;"), (2, u "ordinal"), (0, u "I"), (1, .class_ 14), (1, u "java/lang/Object"), (4, u "hash"), (86, .class_ 108), (1, u "java/lang/Enum$EnumDesc"), (2, .class_ 112), (0, u "java/lang/constant/Constable"), (0, .class_ 114), (0, u "java/lang/Comparable"), (0, .class_ 116), (0, u "java/io/Serializable")] 87

/-- java/lang/Enum -/
def k5 : Class := { plain "java/lang/Enum" (some 0) with
  accessFlags := 1057
  interfaces := #[2, 3, 4]
  cf := some (fileOf pool5 2 #[.nestMembers #[106]] #[] 1057 12 #[111, 113, 115] #[{ accessFlags := 18, nameIndex := 5, descriptorIndex := 6, attributes := #[] }, { accessFlags := 18, nameIndex := 9, descriptorIndex := 10, attributes := #[] }, { accessFlags := 2, nameIndex := 19, descriptorIndex := 10, attributes := #[] }])
  fields := #[{ name := "name", type := (.object "java/lang/String"), accessFlags := 18, slot := 0, constantValue := 0 }, { name := "ordinal", type := .int, accessFlags := 18, slot := 1, constantValue := 0 }, { name := "hash", type := .int, accessFlags := 2, slot := 2, constantValue := 0 }]
  methods := #[]
  instanceTypes := #[(.object "java/lang/String"), .int, .int]
  staticTypes := #[]
  resolved := Array.replicate 204 none
  statics := none }

def pool6 : Array CpInfo := pool [(1, .class_ 2), (0, u "com/example/corpo/corpo/array/GyroRange"), (2, u "DPS125"), (0, u "Lcom/example/corpo/corpo/array/GyroRange;"), (2, u "DPS250"), (2, u "DPS500"), (2, u "DPS1000"), (2, u "DPS2000"), (2, u "$VALUES"), (0, u "[Lcom/example/corpo/corpo/array/GyroRange;"), (6, .class_ 31), (1, u "java/lang/Enum"), (6, .fieldref 1 39), (0, .nameAndType 40 41), (0, u "dps"), (0, u "I"), (0, .double 4616611830519824384), (1, .double 4652007308841189376), (20, u "()I"), (0, u "dpsPerCount"), (0, u "()D")] 5

def k6c0 : Code := { maxStack := 1, maxLocals := 1, code := prog_5_method_4_code, exceptionTable := #[], attributes := #[] }
def k6m0 : Method := { name := "dps", desc := "()I", sig := { parameters := [], returnType := some .int }, accessFlags := 1, code := some k6c0 }
def k6c1 : Code := { maxStack := 4, maxLocals := 1, code := prog_5_method_5_code, exceptionTable := #[], attributes := #[] }
def k6m1 : Method := { name := "dpsPerCount", desc := "()D", sig := { parameters := [], returnType := some .double }, accessFlags := 0, code := some k6c1 }
/-- com/example/corpo/corpo/array/GyroRange -/
def k6 : Class := { plain "com/example/corpo/corpo/array/GyroRange" (some 5) with
  accessFlags := 16433
  interfaces := #[]
  cf := some (fileOf pool6 1 #[] #[{ accessFlags := 1, nameIndex := 40, descriptorIndex := 65, attributes := #[] }, { accessFlags := 0, nameIndex := 66, descriptorIndex := 67, attributes := #[] }] 16433 29 #[] #[{ accessFlags := 16409, nameIndex := 5, descriptorIndex := 6, attributes := #[] }, { accessFlags := 16409, nameIndex := 9, descriptorIndex := 6, attributes := #[] }, { accessFlags := 16409, nameIndex := 12, descriptorIndex := 6, attributes := #[] }, { accessFlags := 16409, nameIndex := 15, descriptorIndex := 6, attributes := #[] }, { accessFlags := 16409, nameIndex := 18, descriptorIndex := 6, attributes := #[] }, { accessFlags := 18, nameIndex := 40, descriptorIndex := 41, attributes := #[] }, { accessFlags := 4122, nameIndex := 21, descriptorIndex := 22, attributes := #[] }])
  fields := #[{ name := "DPS125", type := (.object "com/example/corpo/corpo/array/GyroRange"), accessFlags := 16409, slot := 0, constantValue := 0 }, { name := "DPS250", type := (.object "com/example/corpo/corpo/array/GyroRange"), accessFlags := 16409, slot := 1, constantValue := 0 }, { name := "DPS500", type := (.object "com/example/corpo/corpo/array/GyroRange"), accessFlags := 16409, slot := 2, constantValue := 0 }, { name := "DPS1000", type := (.object "com/example/corpo/corpo/array/GyroRange"), accessFlags := 16409, slot := 3, constantValue := 0 }, { name := "DPS2000", type := (.object "com/example/corpo/corpo/array/GyroRange"), accessFlags := 16409, slot := 4, constantValue := 0 }, { name := "dps", type := .int, accessFlags := 18, slot := 3, constantValue := 0 }, { name := "$VALUES", type := (.array (.object "com/example/corpo/corpo/array/GyroRange")), accessFlags := 4122, slot := 5, constantValue := 0 }]
  methods := #[k6m0, k6m1]
  instanceTypes := #[(.object "java/lang/String"), .int, .int, .int]
  staticTypes := #[(.object "com/example/corpo/corpo/array/GyroRange"), (.object "com/example/corpo/corpo/array/GyroRange"), (.object "com/example/corpo/corpo/array/GyroRange"), (.object "com/example/corpo/corpo/array/GyroRange"), (.object "com/example/corpo/corpo/array/GyroRange"), (.array (.object "com/example/corpo/corpo/array/GyroRange"))]
  resolved := Array.replicate 73 none
  statics := some 0 }

def pool7 : Array CpInfo := pool [(1, u "java/lang/Cloneable"), (0, .class_ 1), (0, u "java/lang/Object"), (0, .class_ 3)] 3

/-- java/lang/Cloneable -/
def k7 : Class := { plain "java/lang/Cloneable" (some 0) with
  accessFlags := 1537
  interfaces := #[]
  cf := some (fileOf pool7 2 #[] #[] 1537 4 #[] #[])
  fields := #[]
  methods := #[]
  instanceTypes := #[]
  staticTypes := #[]
  resolved := Array.replicate 8 none
  statics := none }

/-- the primitive byte -/
def k8 : Class := { plain "byte" none with kind := .primitive 'B', accessFlags := 0x411 }
/-- [B -/
def k9 : Class := { plain "[B" (some 0) with kind := .array 8 .byte, interfaces := #[7, 4], accessFlags := 1041 }

/-- the primitive int -/
def k10 : Class := { plain "int" none with kind := .primitive 'I', accessFlags := 0x411 }
/-- [I -/
def k11 : Class := { plain "[I" (some 0) with kind := .array 10 .int, interfaces := #[7, 4], accessFlags := 1041 }

def heap : Heap := #[{ cls := 6, slots := #[.ref 1, .ref 2, .ref 3, .ref 4, .ref 5, .null], vm := .statics 6 },
  { cls := 6, slots := #[.null, .int 0, .int 0, .int 125], vm := .none },
  { cls := 6, slots := #[.null, .int 1, .int 0, .int 250], vm := .none },
  { cls := 6, slots := #[.null, .int 2, .int 0, .int 500], vm := .none },
  { cls := 6, slots := #[.null, .int 3, .int 0, .int 1000], vm := .none },
  { cls := 6, slots := #[.null, .int 4, .int 0, .int 2000], vm := .none }]
def classes : Array Class := #[k0, k1, k2, k3, k4, k5, k6, k7, k8, k9, k10, k11]
def interned : List (Array UInt16 × Addr) := []
def slotsUsed : Nat := 26
def theMethod : MethodId := ⟨1, 1⟩
def args0 : Array Value := #[.int 1]
def aboutOver (below : List Frame) : State where
  vm := { classes := classes, interned := interned.toArray }
  heap := heap
  slotsUsed := slotsUsed
  threads := #[{ frames := .invoking theMethod args0 :: below }]
def below0 : List Frame := [.native { method := ⟨0, 0⟩, args := #[] }]
def about1 : State := aboutOver below0
def p0 : Program := .bare "" "" ""
def e0 : Env := launch0.env 0 0 0
theorem w_frames : about1.frames = Frame.invoking theMethod args0 :: below0 := rfl
set_option maxRecDepth 65536 in
theorem w_args : argsFit about1.vm theMethod args0 = true := by decide +kernel
set_option maxRecDepth 65536 in
theorem w_heap : heapFits about1 = true := by decide +kernel
set_option maxRecDepth 65536 in
theorem w_runnable : about1.curStatus? = some .runnable := by decide +kernel
set_option maxRecDepth 65536 in
theorem w_alone : about1.alone = true := by decide +kernel
set_option maxRecDepth 65536 in
theorem w_named : about1.methodNamed? x = some theMethod := by decide +kernel
set_option maxRecDepth 65536 in
theorem w_hears : about1.hears theMethod below0 = true := by decide +kernel
set_option maxRecDepth 65536 in
theorem w_ripe : about1.ripe theMethod args0 below0 = true := by decide +kernel
theorem w_running : about1.status = .running := rfl
set_option maxRecDepth 65536 in
theorem w_room : about1.hasRoom e0.platform room_1 = true :=
  launch0.hasRoom_least _ room_1 (by decide +kernel) (by decide +kernel) (by decide +kernel) (by decide +kernel) (by decide +kernel) (by decide +kernel)
theorem allAtoms_all (ts : List Jvm.Cond) (a : Array Jvm.Value) (st : Jvm.State) : (allAtoms ts).before a st = ts.all (fun c => c.before a st) := by
  induction ts with
  | nil => rfl
  | cons c t ih =>
    show (Jvm.Cond.and c (allAtoms t)).before a st = _
    rw [Jvm.Cond.before_and, ih, List.all_cons]
def words1 : List Jvm.Cond := Jvm.Cond.code x code maxLocals ret :: tables_1
/-- a 'code' word, met by the world's own term for the bytes: nothing is compared byte by byte -/
theorem code_word {y : MethodName} {bytes : ByteArray} {mx : Nat} {rt : Option FieldType} {a : Array Value} {s : State} {m : MethodId} {meth : Method} {c : Code} (h1 : s.methodNamed? y = some m) (h2 : s.vm.method? m = some meth) (h3 : meth.code = some c) (h4 : c.code = bytes)
    (h5 : (c.maxLocals == mx && c.exceptionTable.isEmpty && decide (c.maxStack ≤ mostOperands) && decide (meth.sig.returnType = rt) && !meth.locks && decide (parseMethodDescriptor y.desc = some meth.sig)) = true) : (Jvm.Cond.code y bytes mx rt).before a s = true := by
  simp only [Bool.and_eq_true, beq_iff_eq, Bool.not_eq_true', decide_eq_true_eq] at h5
  obtain ⟨⟨⟨⟨⟨g1, g2⟩, g3⟩, g4⟩, g5⟩, g6⟩ := h5
  simp [Cond.before, Cond.holds, Cond.value, h1, h2, h3, h4, g1, g2, g3, g4, g5, g6]
def isCode : Jvm.Cond → Bool
  | .code _ _ _ _ => true
  | _ => false
theorem all_split {L : List Jvm.Cond} {P : Jvm.Cond → Bool} (h1 : L.all (fun c => isCode c || P c) = true) (h2 : ∀ c ∈ L.filter isCode, P c = true) : L.all P = true := by
  refine List.all_eq_true.mpr fun c hc => ?_
  have h := List.all_eq_true.mp h1 c hc
  rcases Bool.eq_false_or_eq_true (isCode c) with hi | hi
  · exact h2 c (List.mem_filter.mpr ⟨hc, hi⟩)
  · simpa [hi] using h
set_option maxRecDepth 65536 in
theorem w_c0 : (Jvm.Cond.code x code maxLocals ret).before args0 about1 = true := code_word (m := ⟨1, 1⟩) (meth := k1m1) (c := k1c1) (by decide +kernel) rfl rfl rfl (by decide +kernel)
set_option maxRecDepth 65536 in
theorem w_c1 : (Jvm.Cond.code ({ cls := "com/example/corpo/corpo/array/GyroRange", name := "dps", desc := "()I" } : Jvm.MethodName) prog_5_method_4_code (1 : Nat) (Option.some Jvm.ClassFile.FieldType.int)).before args0 about1 = true := code_word (m := ⟨6, 0⟩) (meth := k6m0) (c := k6c0) (by decide +kernel) rfl rfl rfl (by decide +kernel)
set_option maxRecDepth 65536 in
theorem w_c2 : (Jvm.Cond.code ({ cls := "com/example/corpo/corpo/array/GyroRange", name := "dpsPerCount", desc := "()D" } : Jvm.MethodName) prog_5_method_5_code (1 : Nat) (Option.some Jvm.ClassFile.FieldType.double)).before args0 about1 = true := code_word (m := ⟨6, 1⟩) (meth := k6m1) (c := k6c1) (by decide +kernel) rfl rfl rfl (by decide +kernel)
def codes1 : List Jvm.Cond := [Jvm.Cond.code x code maxLocals ret, Jvm.Cond.code ({ cls := "com/example/corpo/corpo/array/GyroRange", name := "dps", desc := "()I" } : Jvm.MethodName) prog_5_method_4_code (1 : Nat) (Option.some Jvm.ClassFile.FieldType.int), Jvm.Cond.code ({ cls := "com/example/corpo/corpo/array/GyroRange", name := "dpsPerCount", desc := "()D" } : Jvm.MethodName) prog_5_method_5_code (1 : Nat) (Option.some Jvm.ClassFile.FieldType.double)]
set_option maxRecDepth 65536 in
theorem codes_eq : words1.filter isCode = codes1 := rfl
theorem w_codes : ∀ c ∈ words1.filter isCode, c.before args0 about1 = true := by
  rw [codes_eq]
  intro c hc
  simp only [codes1, List.mem_cons, List.not_mem_nil, or_false] at hc
  rcases hc with rfl | rfl | rfl
  · exact w_c0
  · exact w_c1
  · exact w_c2
set_option maxRecDepth 65536 in
theorem w_t1 : (words1.take 24).all (fun c => isCode c || c.before args0 about1) = true := by decide +kernel
set_option maxRecDepth 65536 in
theorem w_t2 : (words1.drop 24).all (fun c => isCode c || c.before args0 about1) = true := by decide +kernel
theorem w_tables : (allAtoms (Jvm.Cond.code x code maxLocals ret :: tables_1)).before args0 about1 = true := by
  rw [allAtoms_all]
  show words1.all (fun c => c.before args0 about1) = true
  refine all_split ?_ w_codes
  rw [← List.take_append_drop 24 words1, List.all_append, w_t1, w_t2]
  rfl
set_option maxRecDepth 65536 in
theorem w_case : (Jvm.Cond.and given_1 narrow_1).before args0 about1 = true := by decide +kernel
theorem w_applies : (headSpec (Jvm.Cond.code x code maxLocals ret :: tables_1) room_1).applies x e0.platform about1 = true :=
  (Spec.applies_iff w_frames).mpr ⟨w_running, w_runnable, w_alone, w_named, w_hears, w_ripe, w_room, w_tables⟩
theorem atStart : AtStart classFile x code maxLocals ret World_1 tables_1 room_1 Calls_1 rest_1 Pre_1 launch0 p0 e0 about1 theMethod args0 below0 :=
  ⟨lists_1, trivial, launch0.admits_env _ _ _, launch0.least_env, fairChoices_fair.cas, fairChoices_fair.clock, w_frames, w_args, w_heap, w_applies, trivial, trivial, w_case⟩
end start1
theorem witness_1 : WitnessClaimed_1 := ⟨start1.p0, start1.e0, start1.about1, start1.theMethod, start1.args0, start1.below0, start1.atStart⟩
end Jvm.Pilot.@@N@@
