import JvmDerived
import JvmDerived.Pilot.@@N@@Statement
import JvmDerived.Pilot.@@N@@Code
set_option linter.unusedVariables false
set_option linter.unusedSimpArgs false
namespace Jvm.RoadKit
open Sem ClassFile Op Lib Jvm.Stand Jvm.Free Jvm.LawKit
section New
variable {p : Program} {l : Launch} {e : Env} {R : Room} {s : State} {m : MethodId} {args : Array Value} {below : List Frame} {meth : Method} {c : Code} {T : State} {locs : List Loc} {cells slots : Nat}
theorem retI (X : Stand p l e R s m args below meth c T locs cells slots) (hx : p.tables.exec = Jvm.exec) {pc : Nat} {Ls : Array Slot} {z : Int32} {rest : List Value} (hret : meth.sig.returnType = some .int) (hd : decode c.code pc = .ok (.ireturn, 1)) {fs : List Frame}
    (hl : ∀ (f : JFrame) (acts : List Action), f.method = m → f.locked = none → f.entered = [] → (doReturn e (T.setTop f) acts (some (.int z))).1 = T.setFrames fs) : Steps p.tables e below (T.setTop (mkF m pc Ls (.int z :: rest))) (T.setFrames fs) := by
  have hm' : T.vm.method? m = some meth := X.method'
  have hn : narrow .int (.int z) = .int z := rfl
  show Steps p.tables e below (T.setTop { method := m, pc := pc, locals := Ls, stack := _ :: rest, locked := none }) _
  jvm_step X.here [X.here.top, hx, hd, hm', hret, hn]
  first | (intro acts; rw [hl _ acts rfl rfl rfl]) | rw [hl _ _ rfl rfl rfl]
  exact Steps.refl _
end New
end Jvm.RoadKit
namespace Jvm.Pilot.@@N@@
open Jvm Jvm.ClassFile Sem Op Lib Jvm.Free Jvm.Stand Jvm.LawKit Jvm.RoadKit Bundle Jvm.Pilot.@@N@@.Jvm.D
theorem wq {a0 : Array Value} {Z : State} (hw : ∀ d ∈ tables_1, d.before a0 Z = true) (i : Nat) {d : Jvm.Cond} (h : tables_1[i]? = some d) : d.before a0 Z = true := hw d (List.mem_of_getElem? h)
/-- from U the run comes back to its caller; what it returns, the heap and the places written meet Q -/
def Goes (p : Program) (e : Env) (below : List Frame) (s : State) (Q : Option Value → Heap → List Loc → Prop) (C S : Nat) (U : State) : Prop :=
  ∃ s₂ o, Steps p.tables e below U s₂ ∧ s₂.status = .running ∧ Ended s₂ below o ∧ ∃ v L, o = .returned v ∧ Q v s₂.heap L ∧ FrameEnd s o s₂ L C S
section Own
variable {p : Program} {l : Launch} {e : Env} {R : Room} {s : State} {m : MethodId} {args : Array Value} {below : List Frame} {meth : Method} {c : Code} {T : State} {locs : List Loc} {cells slots : Nat} {Q : Option Value → Heap → List Loc → Prop} {C S : Nat} {U U' : State}
theorem Goes.pre (f : ∀ t, Steps p.tables e below U' t → Steps p.tables e below U t) (g : Goes p e below s Q C S U') : Goes p e below s Q C S U := by
  obtain ⟨s₂, o, h1, r⟩ := g
  exact ⟨s₂, o, f _ h1, r⟩
theorem Goes.enter {g g' : JFrame} (q : g = g') (h : Goes p e below s Q C S (U.setTop g')) : Goes p e below s Q C S (U.setTop g) := q ▸ h
theorem Goes.ret (X : Stand p l e R s m args below meth c T locs cells slots) {v : Option Value} (hv : meth.sig.returnType = none → v = none) (hlocks : meth.locks = false) (hc : cells ≤ C) (hs : slots ≤ S) {h : Heap} (eT : T.heap = h)
    (step : ∀ fs, (∀ (f : JFrame) (acts : List Action), f.method = m → f.locked = none → f.entered = [] → (doReturn e (T.setTop f) acts v).1 = T.setFrames fs) → Steps p.tables e below U (T.setFrames fs)) (q : Q v h locs) : Goes p e below s Q C S U := by
  obtain ⟨fs, hr, hrun, hended, hW, hsame⟩ := X.leave hv hlocks
  refine ⟨_, _, step fs hr, hrun, hended, _, _, rfl, ?_, ⟨_, rfl⟩, hW, hsame.mono hc hs⟩
  show Q v T.heap locs
  rw [eT]
  exact q
end Own
abbrev Rm (f c s l : Nat) : Room := { frames := f, cells := c, slots := s, locals := l }
/-- the contract of a body: called with these values at the heap h0, it comes back and Q holds of what it leaves -/
abbrev Met (l : Launch) (Z : State) (y : MethodName) (bytes : ByteArray) (maxL : Nat) (ret : Option FieldType) (ws : List Jvm.Cond) (rm : Room) (as' : Array Value) (h0 : Heap) (Q : Option Value → Heap → List Loc → Prop) : Prop :=
  MetFree l y (head1 (Jvm.Cond.code y bytes maxL ret :: ws) rm) (fun argv U => argv = as' ∧ Z.Warmed39 U.vm ∧ U.heap = h0) (fun _ _ _ _ _ => True) (fun _ U o U' => ∃ v L, o = .returned v ∧ Q v U'.heap L ∧ FrameEnd U o U' L rm.cells rm.slots)
theorem met_of {l : Launch} {Z : State} {y : MethodName} {bytes : ByteArray} {maxL : Nat} {ret : Option FieldType} {ws : List Jvm.Cond} {rm : Room} {as' : Array Value} {h0 : Heap} {Q : Option Value → Heap → List Loc → Prop} {L0 : Array Slot} {own : String}
    (hp : plainFor y = true) (ho : y.cls = own) (ef : ∀ m, entryFrame m as' maxL = mkF m 0 L0 [])
    (body : ∀ (p : Program) (e : Env) (s : State) (m : MethodId) (below : List Frame) (meth : Method) (c : Code) (s₁ : State), p.tables.exec = Jvm.exec → c.code = bytes → c.maxLocals = maxL → s.vm.findClass own = some m.cls → meth.name = y.name → Z.Warmed39 s.vm → Stand p l e rm s m as' below meth c s₁ [] 0 0 → s₁.heap = h0 → meth.sig.returnType = ret → meth.locks = false → Goes p e below s Q rm.cells rm.slots (s₁.setTop (mkF m 0 L0 []))) :
    Met l Z y bytes maxL ret ws rm as' h0 Q := by
  refine MetFree.of_bodySF hp hisR ?_
  intro p e s m args below meth c s₁ Bd hml0 hP hK
  obtain ⟨rfl, hZ, hh⟩ := hP
  refine Goes.enter (ef m) (body p e s m below meth c s₁ Bd.exec Bd.bytes hml0 (ho ▸ findClass_of_methodNamed Bd.named) (name_of_methodNamed Bd.named Bd.method).1 hZ (Stand.of_body Bd) (by rw [← hh, Bd.state]; rfl) Bd.returns Bd.notSynchronized)
theorem own_lsw {tb : Tables} [Ours tb] {e : Env} {below : List Frame} {T target : State} {m : MethodId} {c : Code} {g : JFrame} (h : At T m c below) (hx : tb.exec = Jvm.exec) (hg : g.method = m) {dflt : Int} {prs : Array (Int × Int)} {len : Nat} {o : Int} {pc0 pc' : Nat} (hpc : g.pc = pc0) (hd : decode c.code g.pc = .ok (.lookupswitch dflt prs, len)) {i : Int32} {rest : List Value} (hs : g.stack = .int i :: rest)
    (hso : ∀ (a b a_1 b_1 : Int), ((a, b), a_1, b_1) ∈ prs.toList.zip prs.toList.tail → a < a_1) (hoff : lookupswitch.offset prs.toList dflt i.toInt = o) (ho : 0 ≤ (pc0 : Int) + o) (hp : ((pc0 : Int) + o).toNat = pc')
    (hr : Steps tb e below (T.setTop { g with pc := pc', stack := rest }) target) : Steps tb e below (T.setTop g) target := by
  subst hg hpc hp
  jvm_step h [h.top, hx, hd, hs, lookupswitch.wp_chain, hoff, ho]
  exact ⟨hso, hr⟩
/-- as Goes, for a walk that may load String constants cold: the end is the wide one, and the constants' book goes on -/
def GoesW (p : Program) (e : Env) (below : List Frame) (s Z : State) (EL : List (String × Nat)) (Q : Vm → Option Value → Heap → List Loc → Prop) (C S : Nat) (U : State) : Prop :=
  ∃ s₂ o, Steps p.tables e below U s₂ ∧ s₂.status = .running ∧ Ended s₂ below o ∧ ∃ v L, o = .returned v ∧ Q s₂.vm v s₂.heap L ∧ CHr Z EL s.vm s.heap s₂.vm s₂.heap ∧ ReturnedEndW s o s₂ L C S
section OwnW
variable {p : Program} {l : Launch} {e : Env} {R : Room} {s Z : State} {m : MethodId} {args a0 : Array Value} {below : List Frame} {meth : Method} {c : Code} {T : State} {locs : List Loc} {cells slots : Nat} {Q : Vm → Option Value → Heap → List Loc → Prop} {C S : Nat} {U U' : State} {EL : List (String × Nat)} {vm0 : Vm} {h : Heap}
theorem GoesW.pre (f : ∀ t, Steps p.tables e below U' t → Steps p.tables e below U t) (g : GoesW p e below s Z EL Q C S U') : GoesW p e below s Z EL Q C S U := by
  obtain ⟨s₂, o, h1, r⟩ := g
  exact ⟨s₂, o, f _ h1, r⟩
theorem GoesW.enter {g g' : JFrame} (q : g = g') (h : GoesW p e below s Z EL Q C S (U.setTop g')) : GoesW p e below s Z EL Q C S (U.setTop g) := q ▸ h
theorem GoesW.ret (X : Stand p l e R (s.setVm vm0) m args below meth c T locs cells slots) {k0 : Nat} (hZ : Z.Warmed39 (s.setVm vm0).vm) (hEL : EW Z a0 EL) (hS : s.Since vm0 k0) (hk : k0 ≤ h.size) (H : CHv Z EL vm0 h) (CR : CHr Z EL s.vm s.heap vm0 h) {v : Option Value} (hv : meth.sig.returnType = none → v = none) (hlocks : meth.locks = false) (hc : cells ≤ C) (hs : slots ≤ S) (eT : T.heap = h)
    (step : ∀ fs, (∀ (f : JFrame) (acts : List Action), f.method = m → f.locked = none → f.entered = [] → (doReturn e (T.setTop f) acts v).1 = T.setFrames fs) → Steps p.tables e below U (T.setFrames fs)) (q : Q T.vm v h locs) : GoesW p e below s Z EL Q C S U := by
  obtain ⟨fs, hr, hrun, hended, hW⟩ := X.leaveW hS (by rw [eT]; exact hk) hv hlocks
  refine ⟨_, _, step fs hr, hrun, hended, _, _, rfl, ?_, ?_, hW.1, hW.2.1, hW.2.2.1, hW.2.2.2.mono hc hs⟩
  · show Q T.vm v T.heap locs
    rw [eT]
    exact q
  · show CHr Z EL s.vm s.heap T.vm T.heap
    rw [eT]
    exact CR.trans (CHv.at X hZ hEL H)
abbrev MetW (l : Launch) (Z : State) (EL : List (String × Nat)) (y : MethodName) (bytes : ByteArray) (maxL : Nat) (ret : Option FieldType) (ws : List Jvm.Cond) (rm : Room) (as' : Array Value) (sf : List Addr) (h0 : Heap) (Q : Vm → Option Value → Heap → List Loc → Prop) : Prop :=
  MetFree l y (head1 (Jvm.Cond.code y bytes maxL ret :: ws) rm) (fun argv U => argv = as' ∧ Z.Warmed39 U.vm ∧ U.heap = h0 ∧ CHv Z EL U.vm h0 ∧ ∀ x ∈ sf, Safe Z EL U.vm h0 x) (fun _ _ _ _ _ => True) (fun _ U o U' => ∃ v L, o = .returned v ∧ Q U'.vm v U'.heap L ∧ CHr Z EL U.vm U.heap U'.vm U'.heap ∧ ReturnedEndW U o U' L rm.cells rm.slots)
theorem metW_of {y : MethodName} {bytes : ByteArray} {maxL : Nat} {ret : Option FieldType} {ws : List Jvm.Cond} {rm : Room} {as' : Array Value} {sf : List Addr} {h0 : Heap} {L0 : Array Slot} {own : String}
    (hp : plainFor y = true) (ho : y.cls = own) (ef : ∀ m, entryFrame m as' maxL = mkF m 0 L0 [])
    (body : ∀ (p : Program) (e : Env) (s : State) (m : MethodId) (below : List Frame) (meth : Method) (c : Code) (s₁ : State), p.tables.exec = Jvm.exec → c.code = bytes → c.maxLocals = maxL → (s.setVm s.vm).vm.findClass own = some m.cls → meth.name = y.name → Z.Warmed39 (s.setVm s.vm).vm → Stand p l e rm (s.setVm s.vm) m as' below meth c s₁ [] 0 0 → s₁.heap = h0 → meth.sig.returnType = ret → meth.locks = false → CHv Z EL s.vm h0 → (∀ x ∈ sf, Safe Z EL s.vm h0 x) → CHr Z EL s.vm s.heap s.vm h0 → s.Since s.vm h0.size → GoesW p e below s Z EL Q rm.cells rm.slots (s₁.setTop (mkF m 0 L0 []))) :
    MetW l Z EL y bytes maxL ret ws rm as' sf h0 Q := by
  refine MetFree.of_bodySF hp hisR ?_
  intro p e s m args below meth c s₁ Bd hml0 hP hK
  obtain ⟨rfl, hZ, hh, H, hSf⟩ := hP
  refine GoesW.enter (ef m) (body p e s m below meth c s₁ Bd.exec Bd.bytes hml0 (ho ▸ findClass_of_methodNamed Bd.named) (name_of_methodNamed Bd.named Bd.method).1 hZ (Stand.of_body Bd) (by rw [← hh, Bd.state]; rfl) Bd.returns Bd.notSynchronized H hSf (by rw [hh]; exact CHr.refl H) ((State.WarmedH.refl s).since _))
theorem own_backSH {y : MethodName} {bytes : ByteArray} {maxL : Nat} {ret : Option FieldType} {rm : Room} {len W : Nat} {as' : Array Value} {sf : List Addr}
    (hM : MetFree l y (head1 [Cond.code y bytes maxL ret] rm) (fun argv U => argv = as' ∧ Z.Warmed39 U.vm ∧ U.heap = h ∧ CHv Z EL U.vm h ∧ ∀ x ∈ sf, Safe Z EL U.vm h x) (fun _ _ _ _ _ => True) (fun _ U o U' => ∃ v L, o = .returned v ∧ Q U'.vm v U'.heap L ∧ CHr Z EL U.vm U.heap U'.vm U'.heap ∧ ReturnedEndW U o U' L rm.cells rm.slots))
    (hZ : Z.Warmed39 (s.setVm vm0).vm) (wc : (Cond.code y bytes maxL ret).before a0 Z = true) (wz : (Cond.initialized y.cls).before a0 Z = true) (hf : rm.frames + 1 ≤ R.frames) (hl : W + (maxL + 11) + rm.locals ≤ R.locals) (hEL : EW Z a0 EL) (H : CHv Z EL vm0 h) (hs : ∀ x ∈ sf, Safe Z EL vm0 h x ∧ x < h.size) :
    BackS l R p e below (s.setVm vm0) args y len W (fun A a => a = as' ∧ A.U.heap = h ∧ A.cells + rm.cells ≤ R.cells ∧ A.slots + rm.slots ≤ R.slots)
      (fun A _ v B => ∃ L, Q B.U.vm v B.U.heap L ∧ B.locs = A.locs ++ L ∧ B.cells = A.cells + rm.cells ∧ B.slots = A.slots + rm.slots ∧ CHr Z EL vm0 h B.U.vm B.U.heap) := by
  refine BackS.of_freeW (bytes := bytes) (maxL := maxL) (ret := ret) (E := fun _ first o t L k n => k = rm.cells ∧ n = rm.slots ∧ (∃ v, o = .returned v ∧ Q t.vm v t.heap L) ∧ CHr Z EL first.vm first.heap t.vm t.heap) hM hf hl ?_ ?_ (fun _ _ _ _ _ _ _ _ _ => trivial) ?_ ?_
  · intro m meth c A a Y hp
    have hU : Z.Warmed39 A.U.vm := wtrans (s := s.setVm vm0) hZ Y.warmed
    exact ⟨by show (Cond.and _ .tt).before a A.U = true; rw [Cond.before_and, mv hU wc]; rfl, mv hU wc, mv hU wz, hp.2.2.1, hp.2.2.2⟩
  · intro m meth c A a g mk Y hp
    have q := CHv.at Y hZ hEL H
    exact ⟨hp.1, wtrans (s := s.setVm vm0) hZ Y.warmed, hp.2.1, q.1, fun x hx => q.safe (hs x hx).2 (hs x hx).1⟩
  · intro _ _ _ _ z
    obtain ⟨v, L, h1, h2, h3, h4⟩ := z
    exact ⟨L, _, _, h4, rfl, rfl, ⟨v, h1, h2⟩, h3⟩
  · intro m meth c A a g mk v t L k n Y hp _ _ z
    obtain ⟨e1, e2, ⟨v', e3, e4⟩, e5⟩ := z
    cases e3
    subst e1 e2
    refine ⟨L, e4, rfl, rfl, rfl, (CHv.at Y hZ hEL H).trans ?_⟩
    rw [← hp.2.1]
    exact e5
theorem own_since (s : State) (n : Nat) : s.Since s.vm n := (State.WarmedH.refl s).since n
theorem own_found {vm1 : Vm} {own : String} {k : ClassId} {n : Nat} (hS : (s.setVm vm0).Since vm1 n) (hown : (s.setVm vm0).vm.findClass own = some k) : (s.setVm vm1).vm.findClass own = some k := by
  show vm1.findClass own = some k
  rw [hS.1.alike.findClass]
  exact hown
end OwnW
abbrev MetL (l : Launch) (Z : State) (y : MethodName) (bytes : ByteArray) (maxL : Nat) (ret : Option FieldType) (ws : List Jvm.Cond) (rm : Room) (as' : Array Value) (h0 : Heap) (lo : String) (li : Nat) (la : Addr) (Q : Option Value → Heap → List Loc → Prop) : Prop :=
  MetFree l y (head1 (Jvm.Cond.code y bytes maxL ret :: ws) rm) (fun argv U => argv = as' ∧ Z.Warmed39 U.vm ∧ U.heap = h0 ∧ Lit U lo li la) (fun _ _ _ _ _ => True) (fun _ U o U' => ∃ v L, o = .returned v ∧ Q v U'.heap L ∧ FrameEnd U o U' L rm.cells rm.slots)
theorem metL_of {l : Launch} {Z : State} {y : MethodName} {bytes : ByteArray} {maxL : Nat} {ret : Option FieldType} {ws : List Jvm.Cond} {rm : Room} {as' : Array Value} {h0 : Heap} {lo : String} {li : Nat} {la : Addr} {Q : Option Value → Heap → List Loc → Prop} {L0 : Array Slot} {own : String}
    (hp : plainFor y = true) (ho : y.cls = own) (ef : ∀ m, entryFrame m as' maxL = mkF m 0 L0 [])
    (body : ∀ (p : Program) (e : Env) (s : State) (m : MethodId) (below : List Frame) (meth : Method) (c : Code) (s₁ : State), p.tables.exec = Jvm.exec → c.code = bytes → c.maxLocals = maxL → s.vm.findClass own = some m.cls → meth.name = y.name → Z.Warmed39 s.vm → Stand p l e rm s m as' below meth c s₁ [] 0 0 → s₁.heap = h0 → meth.sig.returnType = ret → meth.locks = false → Lit s lo li la → Goes p e below s Q rm.cells rm.slots (s₁.setTop (mkF m 0 L0 []))) :
    MetL l Z y bytes maxL ret ws rm as' h0 lo li la Q := by
  refine MetFree.of_bodySF hp hisR ?_
  intro p e s m args below meth c s₁ Bd hml0 hP hK
  obtain ⟨rfl, hZ, hh, hLt⟩ := hP
  refine Goes.enter (ef m) (body p e s m below meth c s₁ Bd.exec Bd.bytes hml0 (ho ▸ findClass_of_methodNamed Bd.named) (name_of_methodNamed Bd.named Bd.method).1 hZ (Stand.of_body Bd) (by rw [← hh, Bd.state]; rfl) Bd.returns Bd.notSynchronized hLt)
theorem own_backL {l : Launch} {R : Room} {p : Program} {e : Env} {below : List Frame} {s Z : State} {args a0 : Array Value} {h : Heap} {y : MethodName} {bytes : ByteArray} {maxL : Nat} {ret : Option FieldType} {rm : Room} {len W : Nat} {as' : Array Value} {lo : String} {li : Nat} {la : Addr} {Q : Option Value → Heap → List Loc → Prop}
    (hM : MetFree l y (head1 [Cond.code y bytes maxL ret] rm) (fun a U => a = as' ∧ Z.Warmed39 U.vm ∧ U.heap = h ∧ Lit U lo li la) (fun _ _ _ _ _ => True) (fun _ U o U' => ∃ v L, o = .returned v ∧ Q v U'.heap L ∧ FrameEnd U o U' L rm.cells rm.slots))
    (hZ : Z.Warmed39 s.vm) (wc : (Cond.code y bytes maxL ret).before a0 Z = true) (wz : (Cond.initialized y.cls).before a0 Z = true) (hf : rm.frames + 1 ≤ R.frames) (hl : W + (maxL + 11) + rm.locals ≤ R.locals) (hL : Lit s lo li la) :
    Back l R p e below s args y len W (fun A a => a = as' ∧ A.U.heap = h ∧ A.cells + rm.cells ≤ R.cells ∧ A.slots + rm.slots ≤ R.slots)
      (fun A _ v B => ∃ L, Q v B.U.heap L ∧ B.locs = A.locs ++ L ∧ B.cells = A.cells + rm.cells ∧ B.slots = A.slots + rm.slots) :=
  Back.of_free (bytes := bytes) (maxL := maxL) (ret := ret) (E := fun _ _ o t L k n => k = rm.cells ∧ n = rm.slots ∧ ∃ v, o = .returned v ∧ Q v t.heap L) hM hf hl
    (fun m meth c A a Y hp => have hU : Z.Warmed39 A.U.vm := wtrans hZ Y.warmed
      ⟨by show (Cond.and _ .tt).before a A.U = true; rw [Cond.before_and, mv hU wc]; rfl, mv hU wc, mv hU wz, hp.2.2.1, hp.2.2.2⟩)
    (fun m meth c A a g mk Y hp => ⟨hp.1, wtrans hZ Y.warmed, hp.2.1, Lit.stays (s := s) (vm0 := s.vm) hL (wtrans (State.Warmed39.refl s) Y.warmed)⟩) (fun _ _ _ _ _ _ _ _ _ => trivial)
    (fun _ _ _ _ ⟨v, L, h1, h2, h3⟩ => ⟨L, _, _, h3, rfl, rfl, v, h1, h2⟩)
    (fun m meth c A a g mk v t L k n Y hp _ _ ⟨e1, e2, v', e3, e4⟩ => by cases e3; subst e1 e2; exact ⟨L, e4, rfl, rfl, rfl⟩)
abbrev own_EL : List (String × Nat) := [("com/example/known_paths/knownpaths/ulid/Ulid", 91), ("com/example/known_paths/knownpaths/ulid/UlidParsePinLaw", 9)]
theorem own_atoms {a0 : Array Value} {Z : State} (hw : ∀ d ∈ tables_1, d.before a0 Z = true) : ∀ a ∈ Bundle.stringAtoms, a.before a0 Z = true := by
  intro a ha
  simp only [Bundle.stringAtoms, Bundle.sN, List.mem_cons, List.not_mem_nil, or_false] at ha
  rcases ha with rfl | rfl | rfl | rfl | rfl | rfl | rfl
  · exact (wq hw 7 rfl)
  · exact (wq hw 8 rfl)
  · exact (wq hw 9 rfl)
  · exact (wq hw 10 rfl)
  · exact (wq hw 11 rfl)
  · exact (wq hw 12 rfl)
  · exact (wq hw 13 rfl)
theorem own_bb (x : Int32) : nar .byte x.toInt8.toInt32 = x.toInt8.toInt32 := by
  show x.toInt8.toInt32.toInt8.toInt32 = x.toInt8.toInt32
  rw [Int8.toInt8_toInt32]
def OwnCh (c : Int32) : Prop := 0 ≤ c.toInt ∧ c.toInt < 65536
def OwnStr (Z : State) (h : Heap) (r b : Addr) (kb : ClassId) (cs : List Int32) : Prop :=
  Exa Z h r "java/lang/String" ∧ Fld Z h r "java/lang/String" "value" "[B" (.ref b) ∧ (∀ c ∈ cs, OwnCh c) ∧
  Fld Z h r "java/lang/String" "coder" "B" (.int (0 : Int32)) ∧ Arv Z h b kb .byte (Int32.ofNat cs.length) (cs.map fun c => .int c.toInt8.toInt32) (.int (0 : Int32)) ∧ ∀ c ∈ cs, ¬ ((255 : Int32) < c)
theorem OwnStr.ext {Z : State} {h h' : Heap} {r b : Addr} {kb : ClassId} {cs : List Int32} (F : OwnStr Z h r b kb cs) (E : Ext h h') : OwnStr Z h' r b kb cs := by
  obtain ⟨e1, f1, g, q1, q2, q3⟩ := F
  exact ⟨e1.ext E, f1.ext E, g, q1.ext E, q2.ext E, q3⟩
theorem OwnStr.keep {Z : State} {h h' : Heap} {r b : Addr} {kb : ClassId} {cs : List Int32} {ws : List Addr} (F : OwnStr Z h r b kb cs) (K : Keep h h' ws) (n1 : r ∉ ws) (n2 : b ∉ ws) : OwnStr Z h' r b kb cs := by
  obtain ⟨e1, f1, g, q1, q2, q3⟩ := F
  exact ⟨e1.keep K, f1.keep K n1, g, q1.keep K n1, q2.keep K n2, q3⟩
theorem OwnStr.lt {Z : State} {h : Heap} {r b : Addr} {kb : ClassId} {cs : List Int32} (F : OwnStr Z h r b kb cs) : r < h.size := F.1.lt
theorem OwnStr.ltb {Z : State} {h : Heap} {r b : Addr} {kb : ClassId} {cs : List Int32} (F : OwnStr Z h r b kb cs) : b < h.size := by
  obtain ⟨e1, f1, g, q1, q2, q3⟩ := F
  exact q2.lt
theorem own_l1 (c : Int32) (h0 : OwnCh c) (h1 : ¬ ((255 : Int32) < c)) : nar .char (c.toInt8.toInt32 &&& (255 : Int32)).toUInt32.toUInt16.toUInt32.toInt32 = c := by
  have k : (255 : Int32).toInt = 255 := by decide
  rw [Int32.lt_iff_toInt_lt, k] at h1
  obtain ⟨h0, -⟩ := h0
  have a1 := c_i2b c
  have a2 := c_mask c.toInt8.toInt32 255 8 (by decide) (by decide)
  have a3 := c_i2c (c.toInt8.toInt32 &&& 255)
  have a4 := c_i2c (c.toInt8.toInt32 &&& (255 : Int32)).toUInt32.toUInt16.toUInt32.toInt32
  apply Int32.toInt_inj.mp
  show ((c.toInt8.toInt32 &&& (255 : Int32)).toUInt32.toUInt16.toUInt32.toInt32.toUInt32.toUInt16.toUInt32.toInt32).toInt = c.toInt
  omega
theorem own_u16 (c : Int32) (h0 : OwnCh c) : nar .char ((((c >>> ((0 : Int32) &&& 31)).toInt8.toInt32 &&& (255 : Int32)) <<< ((0 : Int32) &&& 31)) ||| (((c >>> ((8 : Int32) &&& 31)).toInt8.toInt32 &&& (255 : Int32)) <<< ((8 : Int32) &&& 31))).toUInt32.toUInt16.toUInt32.toInt32 = c := by
  obtain ⟨h0, h1⟩ := h0
  have s0 := c_ishr c 0 0 (by decide)
  have s8 := c_ishr c 8 8 (by decide)
  generalize c >>> ((0 : Int32) &&& 31) = x at *
  generalize c >>> ((8 : Int32) &&& 31) = y at *
  have a1 := c_i2b x
  have b1 := c_i2b y
  have a2 := c_mask x.toInt8.toInt32 255 8 (by decide) (by decide)
  have b2 := c_mask y.toInt8.toInt32 255 8 (by decide) (by decide)
  generalize x.toInt8.toInt32 &&& (255 : Int32) = u at *
  generalize y.toInt8.toInt32 &&& (255 : Int32) = v at *
  have a3 := c_ishl u 0 0 (by decide)
  have b3 := c_ishl v 8 8 (by decide)
  have r1 := rng32 (u <<< ((0 : Int32) &&& 31))
  have r2 := rng32 (v <<< ((8 : Int32) &&& 31))
  generalize u <<< ((0 : Int32) &&& 31) = u' at *
  generalize v <<< ((8 : Int32) &&& 31) = v' at *
  have o := c_or' u' v' 8 (by decide) 256 (by decide) (by omega) (by omega) (by omega)
  have r3 := rng32 (u' ||| v')
  generalize u' ||| v' = t at *
  have a5 := c_i2c t
  have a6 := c_i2c t.toUInt32.toUInt16.toUInt32.toInt32
  apply Int32.toInt_inj.mp
  show (t.toUInt32.toUInt16.toUInt32.toInt32.toUInt32.toUInt16.toUInt32.toInt32).toInt = c.toInt
  omega
theorem own_chr (x : Int32) : nar .char x.toUInt32.toUInt16.toUInt32.toInt32 = x.toUInt32.toUInt16.toUInt32.toInt32 := by
  have a5 := c_i2c x
  have a6 := c_i2c x.toUInt32.toUInt16.toUInt32.toInt32
  apply Int32.toInt_inj.mp
  show (x.toUInt32.toUInt16.toUInt32.toInt32.toUInt32.toUInt16.toUInt32.toInt32).toInt = _
  omega
theorem own_nch (c : Int32) (h : OwnCh c) : nar .char c = c := by
  obtain ⟨h0, h1⟩ := h
  have a5 := c_i2c c
  apply Int32.toInt_inj.mp
  show (c.toUInt32.toUInt16.toUInt32.toInt32).toInt = c.toInt
  omega
theorem own_nat (i : Int32) (h : ¬ (i < (0 : Int32))) : (i.toNatClampNeg : Int) = i.toInt := (nat_of h).symm
theorem own_ofn (n : Nat) (h : n ≤ 8192) : (Int32.ofNat n).toInt = n := len_toInt (by omega)
theorem own_lt (cl : List Int32) (i : Int32) (h1 : ¬ (i < (0 : Int32))) (h2 : i < Int32.ofNat cl.length) (hl : cl.length ≤ 4096) : i.toNatClampNeg < cl.length := by
  have a := own_nat i h1
  have b := own_ofn cl.length (by omega)
  rw [Int32.lt_iff_toInt_lt] at h2
  omega
theorem own_len0 (cl : List Int32) (h : cl.length ≤ 4096) : Int32.ofNat cl.length = (Int32.ofNat cl.length) >>> ((0 : Int32) &&& 31) := by
  have a := c_ishr (Int32.ofNat cl.length) 0 0 (by decide)
  apply Int32.toInt_inj.mp
  omega
theorem own_len1 (cl : List Int32) (h : cl.length ≤ 4096) : Int32.ofNat cl.length = (Int32.ofNat (2 * cl.length)) >>> ((1 : Int32) &&& 31) := by
  have a := c_ishr (Int32.ofNat (2 * cl.length)) 1 1 (by decide)
  have b := own_ofn (2 * cl.length) (by omega)
  have d := own_ofn cl.length (by omega)
  apply Int32.toInt_inj.mp
  omega
theorem own_gD (cl : List Int32) (i : Int32) (h1 : ¬ (i < (0 : Int32))) (h2 : i < Int32.ofNat cl.length) (hl : cl.length ≤ 4096) : cl.getD i.toNatClampNeg 0 ∈ cl := by
  have a := own_lt cl i h1 h2 hl
  rw [List.getD_eq_getElem?_getD, List.getElem?_eq_getElem a]
  exact List.getElem_mem a
theorem own_gch (cl : List Int32) (i : Int32) (h1 : ¬ (i < (0 : Int32))) (h2 : i < Int32.ofNat cl.length) (hl : cl.length ≤ 4096) (hc : ∀ c ∈ cl, OwnCh c) : OwnCh (cl.getD i.toNatClampNeg 0) := hc _ (own_gD cl i h1 h2 hl)
theorem own_gle (cl : List Int32) (i : Int32) (h1 : ¬ (i < (0 : Int32))) (h2 : i < Int32.ofNat cl.length) (hl : cl.length ≤ 4096) (hc : ∀ c ∈ cl, ¬ ((255 : Int32) < c)) : ¬ ((255 : Int32) < cl.getD i.toNatClampNeg 0) := hc _ (own_gD cl i h1 h2 hl)
theorem own_atL (cl : List Int32) (i : Int32) (h1 : ¬ (i < (0 : Int32))) (h2 : i < Int32.ofNat cl.length) (hl : cl.length ≤ 4096) : (cl.map fun c => Value.int c.toInt8.toInt32).getD i.toNatClampNeg (.int (0 : Int32)) = .int (cl.getD i.toNatClampNeg 0).toInt8.toInt32 := by
  have a := own_lt cl i h1 h2 hl
  simp [List.getD_eq_getElem?_getD, a]
theorem own_fm (f g : Int32 → Value) (d : Value) : ∀ (cl : List Int32) (k : Nat), k < cl.length → (cl.flatMap fun c => [f c, g c]).getD (2 * k) d = f (cl.getD k 0) ∧ (cl.flatMap fun c => [f c, g c]).getD (2 * k + 1) d = g (cl.getD k 0)
  | [], k, h => absurd h (Nat.not_lt_zero k)
  | c :: r, 0, _ => ⟨rfl, rfl⟩
  | c :: r, k + 1, h => by
    have q := own_fm f g d r k (Nat.lt_of_succ_lt_succ h)
    have e1 : 2 * (k + 1) = (2 * k + 1) + 1 := by omega
    simp only [List.flatMap_cons, List.cons_append, List.nil_append, e1, List.getD_cons_succ]
    exact q
theorem own_sh2 (i : Int32) (n : Nat) (h1 : ¬ (i < (0 : Int32))) (h2 : i.toInt < n) (hn : n ≤ 4096) : (i <<< ((1 : Int32) &&& 31)).toInt = 2 * i.toInt ∧ ((i <<< ((1 : Int32) &&& 31)) + (1 : Int32)).toInt = 2 * i.toInt + 1 := by
  have a := own_nat i h1
  have b := c_ishl i 1 1 (by decide)
  have r := rng32 (i <<< ((1 : Int32) &&& 31))
  have d := c_iadd (i <<< ((1 : Int32) &&& 31)) 1
  have r2 := rng32 ((i <<< ((1 : Int32) &&& 31)) + (1 : Int32))
  have k : (1 : Int32).toInt = 1 := by decide
  omega
theorem own_in0 (cl : List Int32) (i : Int32) (h1 : ¬ (i < (0 : Int32))) (h2 : i < Int32.ofNat cl.length) (hl : cl.length ≤ 4096) : ¬ ((i <<< ((1 : Int32) &&& 31)) < 0) ∧ (i <<< ((1 : Int32) &&& 31)) < Int32.ofNat (2 * cl.length) := by
  have b := own_ofn cl.length (by omega)
  have b2 := own_ofn (2 * cl.length) (by omega)
  have a := own_nat i h1
  rw [Int32.lt_iff_toInt_lt] at h2
  have q := own_sh2 i cl.length h1 (by omega) hl
  have k0 : (0 : Int32).toInt = 0 := by decide
  rw [Int32.lt_iff_toInt_lt, Int32.lt_iff_toInt_lt]
  omega
theorem own_in1 (cl : List Int32) (i : Int32) (h1 : ¬ (i < (0 : Int32))) (h2 : i < Int32.ofNat cl.length) (hl : cl.length ≤ 4096) : ¬ (((i <<< ((1 : Int32) &&& 31)) + (1 : Int32)) < 0) ∧ ((i <<< ((1 : Int32) &&& 31)) + (1 : Int32)) < Int32.ofNat (2 * cl.length) := by
  have b := own_ofn cl.length (by omega)
  have b2 := own_ofn (2 * cl.length) (by omega)
  have a := own_nat i h1
  rw [Int32.lt_iff_toInt_lt] at h2
  have q := own_sh2 i cl.length h1 (by omega) hl
  have k0 : (0 : Int32).toInt = 0 := by decide
  rw [Int32.lt_iff_toInt_lt, Int32.lt_iff_toInt_lt]
  omega
theorem own_at0 (cl : List Int32) (i : Int32) (h1 : ¬ (i < (0 : Int32))) (h2 : i < Int32.ofNat cl.length) (hl : cl.length ≤ 4096) : (cl.flatMap fun c => [Value.int (c >>> ((0 : Int32) &&& 31)).toInt8.toInt32, Value.int (c >>> ((8 : Int32) &&& 31)).toInt8.toInt32]).getD (i <<< ((1 : Int32) &&& 31)).toNatClampNeg (.int (0 : Int32)) = .int ((cl.getD i.toNatClampNeg 0) >>> ((0 : Int32) &&& 31)).toInt8.toInt32 := by
  have w := own_lt cl i h1 h2 hl
  have q := own_in0 cl i h1 h2 hl
  have b := own_ofn cl.length (by omega)
  have h3 := h2
  rw [Int32.lt_iff_toInt_lt] at h3
  have q2 := own_sh2 i cl.length h1 (by omega) hl
  have e1 := own_nat _ q.1
  have e2 := own_nat i h1
  have e : (i <<< ((1 : Int32) &&& 31)).toNatClampNeg = 2 * i.toNatClampNeg := by omega
  rw [e]
  exact (own_fm (fun c => Value.int (c >>> ((0 : Int32) &&& 31)).toInt8.toInt32) (fun c => Value.int (c >>> ((8 : Int32) &&& 31)).toInt8.toInt32) _ cl _ w).1
theorem own_at1 (cl : List Int32) (i : Int32) (h1 : ¬ (i < (0 : Int32))) (h2 : i < Int32.ofNat cl.length) (hl : cl.length ≤ 4096) : (cl.flatMap fun c => [Value.int (c >>> ((0 : Int32) &&& 31)).toInt8.toInt32, Value.int (c >>> ((8 : Int32) &&& 31)).toInt8.toInt32]).getD ((i <<< ((1 : Int32) &&& 31)) + (1 : Int32)).toNatClampNeg (.int (0 : Int32)) = .int ((cl.getD i.toNatClampNeg 0) >>> ((8 : Int32) &&& 31)).toInt8.toInt32 := by
  have w := own_lt cl i h1 h2 hl
  have q := own_in1 cl i h1 h2 hl
  have b := own_ofn cl.length (by omega)
  have h3 := h2
  rw [Int32.lt_iff_toInt_lt] at h3
  have q2 := own_sh2 i cl.length h1 (by omega) hl
  have e1 := own_nat _ q.1
  have e2 := own_nat i h1
  have e : ((i <<< ((1 : Int32) &&& 31)) + (1 : Int32)).toNatClampNeg = 2 * i.toNatClampNeg + 1 := by omega
  rw [e]
  exact (own_fm (fun c => Value.int (c >>> ((0 : Int32) &&& 31)).toInt8.toInt32) (fun c => Value.int (c >>> ((8 : Int32) &&& 31)).toInt8.toInt32) _ cl _ w).2
theorem own_isch (x : Int32) : OwnCh x.toUInt32.toUInt16.toUInt32.toInt32 := (c_i2c x).2
theorem ef_rm_pcIdx (m : MethodId) (x0 : Int32) (x1 : Int32) (x2 : Value) (hx2 : x2.isRef = true) : entryFrame m #[(.int x0), (.int x1), x2] 3 = mkF m 0 #[.val (.int x0), .val (.int x1), .val x2] [] := by rcases ref_cases hx2 with rfl | ⟨_, rfl⟩ <;> first | (simp [entryFrame, mkF, argsToLocals, Value.category]; done) | rfl
theorem pn_jdk_internal_util_Preconditions : plainName "jdk/internal/util/Preconditions" = true := by first | (simp [plainName, overriddenIn]; done) | decide +kernel
abbrev M6 : MethodName := ⟨"jdk/internal/util/Preconditions", "checkIndex", "(IILjava/util/function/BiFunction;)I"⟩
theorem d6_0 : decode jdk_41_method_11_code 0 = .ok (.iload_n 0, 1) := by decide +kernel
theorem d6_1 : decode jdk_41_method_11_code 1 = .ok (.ifCond .lt 8, 3) := by decide +kernel
theorem d6_4 : decode jdk_41_method_11_code 4 = .ok (.iload_n 0, 1) := by decide +kernel
theorem d6_5 : decode jdk_41_method_11_code 5 = .ok (.iload_n 1, 1) := by decide +kernel
theorem d6_6 : decode jdk_41_method_11_code 6 = .ok (.if_icmp .lt 10, 3) := by decide +kernel
theorem d6_16 : decode jdk_41_method_11_code 16 = .ok (.iload_n 0, 1) := by decide +kernel
theorem d6_17 : decode jdk_41_method_11_code 17 = .ok (.ireturn, 1) := by decide +kernel
def Q_rm_pcIdx (Z : State) (i : Int32) (n : Int32) (sf : Value) (h0 : Heap) (n0 : Nat) (v : Option Value) (h : Heap) (L : List Loc) : Prop := v = some (.int i) ∧ Fr n0 L ∧ h = h0
set_option maxRecDepth 65536 in
set_option maxHeartbeats 40000000 in
theorem rm_pcIdx (l : Launch) (Z : State) (a0 : Array Value) (hw : ∀ d ∈ tables_1, d.before a0 Z = true) (ws : List Jvm.Cond) (i : Int32) (n : Int32) (sf : Value) (h0 : Heap) (n0 : Nat) (Z0 : n0 ≤ h0.size)  (h1 : ¬ (i < (0 : Int32))) (h2 : i < n) (hsf : sf.isRef = true) :
    Met l Z M6 jdk_41_method_11_code 3 (some .int) ws (Rm 0 0 0 0) #[(.int i), (.int n), sf] h0 (Q_rm_pcIdx Z i n sf h0 n0) := by
  refine met_of (plainFor_of_name pn_jdk_internal_util_Preconditions) (own := "jdk/internal/util/Preconditions") rfl (fun m => ef_rm_pcIdx m i n sf hsf) ?_
  intro p e s m below meth c s₁ hx hby hml hown hnm hZ X0 e0 hret hlk
  have N0 := Fr.nil n0
  show Goes p e below s _ _ _ (s₁.setTop (mkF m 0 #[.val (.int i), .val (.int n), .val sf] []))
  refine Goes.pre (U' := s₁.setTop (mkF m 1 #[.val (.int i), .val (.int n), .val sf] [(.int i)])) (fun t k => XS.iloadN X0.here hx rfl (hb hby d6_0) rfl k) ?_
  have hc1 : ¬ (i < (0 : Int32)) := h1
  refine Goes.pre (U' := s₁.setTop (mkF m 6 #[.val (.int i), .val (.int n), .val sf] [(.int n), (.int i)])) (fun t k => XS.ifNo X0.here hx rfl (hb hby d6_1) rfl ((if0 _ _).trans (flt hc1).1) (XS.iloadN X0.here hx rfl (hb hby d6_4) rfl (XS.iloadN X0.here hx rfl (hb hby d6_5) rfl k))) ?_
  have hc6 : i < n := h2
  refine Goes.pre (U' := s₁.setTop (mkF m 17 #[.val (.int i), .val (.int n), .val sf] [(.int i)])) (fun t k => XS.icmpYes X0.here hx rfl (pc0 := 6) (pc' := 16) rfl (hb hby d6_6) rfl (tlt hc6).1 (by decide) (by decide) (XS.iloadN X0.here hx rfl (hb hby d6_16) rfl k)) ?_
  refine Goes.ret X0 (v := (some (.int i))) (fun h => by rw [hret] at h; cases h) hlk (by decide) (by decide) e0 (fun fs hr => retI X0 hx hret (hb hby d6_17) hr) ?_
  exact ⟨rfl, N0, rfl⟩
theorem ef_rm_sIdx (m : MethodId) (x0 : Int32) (x1 : Int32) : entryFrame m #[(.int x0), (.int x1)] 2 = mkF m 0 #[.val (.int x0), .val (.int x1)] [] := by first | (simp [entryFrame, mkF, argsToLocals, Value.category]; done) | rfl
theorem pn_java_lang_String : plainName "java/lang/String" = true := by first | (simp [plainName, overriddenIn]; done) | decide +kernel
abbrev M5 : MethodName := ⟨"java/lang/String", "checkIndex", "(II)V"⟩
theorem d5_0 : decode jdk_42_method_155_code 0 = .ok (.iload_n 0, 1) := by decide +kernel
theorem d5_1 : decode jdk_42_method_155_code 1 = .ok (.iload_n 1, 1) := by decide +kernel
theorem d5_2 : decode jdk_42_method_155_code 2 = .ok (.getstatic 1053, 3) := by decide +kernel
theorem d5_5 : decode jdk_42_method_155_code 5 = .ok (.invokestatic 1059, 3) := by decide +kernel
theorem pd__28IILjava_2futil_2ffunction_2fBiFunction_3b_29I : parseMethodDescriptor "(IILjava/util/function/BiFunction;)I" = some ⟨[.int, .int, (.object "java/util/function/BiFunction")], some .int⟩ := by decide +kernel
theorem d5_8 : decode jdk_42_method_155_code 8 = .ok (.pop, 1) := by decide +kernel
theorem d5_9 : decode jdk_42_method_155_code 9 = .ok (.return_, 1) := by decide +kernel
def Q_rm_sIdx (Z : State) (i : Int32) (n : Int32) (sf : Value) (h0 : Heap) (n0 : Nat) (v : Option Value) (h : Heap) (L : List Loc) : Prop := v = none ∧ Fr n0 L ∧ h = h0
set_option maxRecDepth 65536 in
set_option maxHeartbeats 40000000 in
theorem rm_sIdx (l : Launch) (Z : State) (a0 : Array Value) (hw : ∀ d ∈ tables_1, d.before a0 Z = true) (ws : List Jvm.Cond) (i : Int32) (n : Int32) (sf : Value) (h0 : Heap) (n0 : Nat) (Z0 : n0 ≤ h0.size) (S_SIOOBE_FORMATTER : Sta Z Z.heap "jdk/internal/util/Preconditions" "SIOOBE_FORMATTER" "Ljava/util/function/BiFunction;" sf) (h1 : ¬ (i < (0 : Int32))) (h2 : i < n) (hsf : sf.isRef = true) (O : Old Z n0 h0) :
    Met l Z M5 jdk_42_method_155_code 2 none ws (Rm 1 0 0 14) #[(.int i), (.int n)] h0 (Q_rm_sIdx Z i n sf h0 n0) := by
  refine met_of (plainFor_of_name pn_java_lang_String) (own := "java/lang/String") rfl (fun m => ef_rm_sIdx m i n) ?_
  intro p e s m below meth c s₁ hx hby hml hown hnm hZ X0 e0 hret hlk
  have N0 := Fr.nil n0
  show Goes p e below s _ _ _ (s₁.setTop (mkF m 0 #[.val (.int i), .val (.int n)] []))
  refine Goes.pre (U' := s₁.setTop (mkF m 2 #[.val (.int i), .val (.int n)] [(.int n), (.int i)])) (fun t k => XS.iloadN X0.here hx rfl (hb hby d5_0) rfl (XS.iloadN X0.here hx rfl (hb hby d5_1) rfl k)) ?_
  obtain ⟨T1, X1, e1, st1⟩ := getS2 X0 hx hZ hown (host := "") (Or.inl (wq hw 34 rfl)) Via.refl e0 (S_SIOOBE_FORMATTER.ext O.2) (g := (mkF m 2 #[.val (.int i), .val (.int n)] [(.int n), (.int i)])) rfl (hb hby d5_2)
  refine Goes.pre (U' := T1.setTop (mkF m 5 #[.val (.int i), .val (.int n)] [sf, (.int n), (.int i)])) (fun t k => st1 t k) ?_
  obtain ⟨_, _, ⟨T2, L2, k2, n2⟩, -, X2, ⟨Lc2, hQ2, l2, y2, z2⟩, st2⟩ := Jvm.LawKit.callS X1 hx (y := (⟨"jdk/internal/util/Preconditions", "checkIndex", "(IILjava/util/function/BiFunction;)I"⟩ : MethodName)) hown (mvT hZ (wq hw 36 rfl)) (mvT hZ (wq hw 37 rfl)) (mvT hZ (wq hw 35 rfl)) (mvT hZ (wq hw 38 rfl)) (by decide) (backOf (W := 0) (rm_pcIdx l Z a0 hw [] i n sf h0 n0 Z0  h1 h2 hsf) hZ (wq hw 38 rfl) (wq hw 35 rfl) (by decide) (by decide)) (g := (mkF m 5 #[.val (.int i), .val (.int n)] [sf, (.int n), (.int i)])) rfl (by rw [hml]; rfl) (argsL := [(.int i), (.int n), sf]) (rest := []) (lenOf pd__28IILjava_2futil_2ffunction_2fBiFunction_3b_29I rfl) rfl (by show 2 * 0 + _ ≤ _; exact Nat.le_of_eq rfl) (hb hby d5_5) (fun _ _ => ⟨rfl, e1, (by decide : 0 + 0 ≤ _), (by decide : 0 + 0 ≤ _)⟩)
  dsimp only [Pt.U, Pt.locs, Pt.cells, Pt.slots] at X2 l2 y2 z2 st2 hQ2
  rw [l2, y2, z2] at X2
  obtain ⟨rfl, N2q, HQ2⟩ := hQ2
  have N2 := Fr.app N0 N2q
  refine Goes.pre (U' := T2.setTop (mkF m 9 #[.val (.int i), .val (.int n)] [])) (fun t k => st2 t (XS.pop X2.here hx rfl (hb hby d5_8) rfl rfl k)) ?_
  refine Goes.ret X2 (v := none) (fun _ => rfl) hlk (by decide) (by decide) HQ2 (fun fs hr => X2.returnOut hx hret (hb hby d5_9) hr) ?_
  exact ⟨rfl, N2, rfl⟩
theorem ef_rm_coder0 (m : MethodId) (x0 : Addr) : entryFrame m #[(.ref x0)] 1 = mkF m 0 #[.val (.ref x0)] [] := by first | (simp [entryFrame, mkF, argsToLocals, Value.category]; done) | rfl
abbrev M16 : MethodName := ⟨"java/lang/String", "coder", "()B"⟩
theorem d16_0 : decode jdk_42_method_152_code 0 = .ok (.getstatic 38, 3) := by decide +kernel
theorem d16_3 : decode jdk_42_method_152_code 3 = .ok (.ifCond .eq 10, 3) := by decide +kernel
theorem d16_6 : decode jdk_42_method_152_code 6 = .ok (.aload_n 0, 1) := by decide +kernel
theorem d16_7 : decode jdk_42_method_152_code 7 = .ok (.getfield 15, 3) := by decide +kernel
theorem d16_10 : decode jdk_42_method_152_code 10 = .ok (.goto 4, 3) := by decide +kernel
theorem d16_14 : decode jdk_42_method_152_code 14 = .ok (.ireturn, 1) := by decide +kernel
def Q_rm_coder0 (Z : State) (a : Addr) (cs : Int32) (h0 : Heap) (n0 : Nat) (v : Option Value) (h : Heap) (L : List Loc) : Prop := v = some (.int (0 : Int32)) ∧ Fr n0 L ∧ h = h0
set_option maxRecDepth 65536 in
set_option maxHeartbeats 40000000 in
theorem rm_coder0 (l : Launch) (Z : State) (a0 : Array Value) (hw : ∀ d ∈ tables_1, d.before a0 Z = true) (ws : List Jvm.Cond) (a : Addr) (cs : Int32) (h0 : Heap) (n0 : Nat) (Z0 : n0 ≤ h0.size) (S_COMPACT_STRINGS : Sta Z Z.heap "java/lang/String" "COMPACT_STRINGS" "Z" (.int cs)) (F_coder_a : Fld Z h0 a "java/lang/String" "coder" "B" (.int (0 : Int32))) (hcs : ¬ (cs = (0 : Int32))) (O : Old Z n0 h0) :
    Met l Z M16 jdk_42_method_152_code 1 (some .byte) ws (Rm 0 0 0 0) #[(.ref a)] h0 (Q_rm_coder0 Z a cs h0 n0) := by
  refine met_of (plainFor_of_name pn_java_lang_String) (own := "java/lang/String") rfl (fun m => ef_rm_coder0 m a) ?_
  intro p e s m below meth c s₁ hx hby hml hown hnm hZ X0 e0 hret hlk
  have N0 := Fr.nil n0
  show Goes p e below s _ _ _ (s₁.setTop (mkF m 0 #[.val (.ref a)] []))
  obtain ⟨T1, X1, e1, st1⟩ := getS2 X0 hx hZ hown (host := "") (Or.inl (wq hw 24 rfl)) Via.refl e0 (S_COMPACT_STRINGS.ext O.2) (g := (mkF m 0 #[.val (.ref a)] [])) rfl (hb hby d16_0)
  refine Goes.pre (U' := T1.setTop (mkF m 3 #[.val (.ref a)] [(.int cs)])) (fun t k => st1 t k) ?_
  have hc3 : ¬ (cs = (0 : Int32)) := hcs
  refine Goes.pre (U' := T1.setTop (mkF m 7 #[.val (.ref a)] [(.ref a)])) (fun t k => XS.ifNo X1.here hx rfl (hb hby d16_3) rfl ((if0 _ _).trans (feq hc3).1) (XS.aloadN X1.here hx rfl (hb hby d16_6) rfl rfl k)) ?_
  obtain ⟨T2, X2, e2, st2⟩ := getF X1 hx hZ hown (host := "") (Or.inl (wq hw 25 rfl)) Via.refl e1 F_coder_a (g := (mkF m 7 #[.val (.ref a)] [(.ref a)])) rfl rfl (hb hby d16_7)
  refine Goes.pre (U' := T2.setTop (mkF m 14 #[.val (.ref a)] [(.int (0 : Int32))])) (fun t k => st2 t (XS.goto X2.here hx rfl (pc0 := 10) (pc' := 14) rfl (hb hby d16_10) (by decide) (by decide) k)) ?_
  refine Goes.ret X2 (v := (some (.int (0 : Int32)))) (fun h => by rw [hret] at h; cases h) hlk (by decide) (by decide) e2 (fun fs hr => retN X2 hx (t := .byte) hret (by simp) (hb hby d16_14) hr) ?_
  exact ⟨rfl, N0, rfl⟩
theorem ef_rm_isL0 (m : MethodId) (x0 : Addr) : entryFrame m #[(.ref x0)] 1 = mkF m 0 #[.val (.ref x0)] [] := by first | (simp [entryFrame, mkF, argsToLocals, Value.category]; done) | rfl
abbrev M3 : MethodName := ⟨"java/lang/String", "isLatin1", "()Z"⟩
theorem d3_0 : decode jdk_42_method_154_code 0 = .ok (.getstatic 38, 3) := by decide +kernel
theorem d3_3 : decode jdk_42_method_154_code 3 = .ok (.ifCond .eq 14, 3) := by decide +kernel
theorem d3_6 : decode jdk_42_method_154_code 6 = .ok (.aload_n 0, 1) := by decide +kernel
theorem d3_7 : decode jdk_42_method_154_code 7 = .ok (.getfield 15, 3) := by decide +kernel
theorem d3_10 : decode jdk_42_method_154_code 10 = .ok (.ifCond .ne 7, 3) := by decide +kernel
theorem d3_13 : decode jdk_42_method_154_code 13 = .ok (.iconst 1, 1) := by decide +kernel
theorem d3_14 : decode jdk_42_method_154_code 14 = .ok (.goto 4, 3) := by decide +kernel
theorem d3_18 : decode jdk_42_method_154_code 18 = .ok (.ireturn, 1) := by decide +kernel
def Q_rm_isL0 (Z : State) (a : Addr) (cs : Int32) (h0 : Heap) (n0 : Nat) (v : Option Value) (h : Heap) (L : List Loc) : Prop := v = some (.int (1 : Int32)) ∧ Fr n0 L ∧ h = h0
set_option maxRecDepth 65536 in
set_option maxHeartbeats 40000000 in
theorem rm_isL0 (l : Launch) (Z : State) (a0 : Array Value) (hw : ∀ d ∈ tables_1, d.before a0 Z = true) (ws : List Jvm.Cond) (a : Addr) (cs : Int32) (h0 : Heap) (n0 : Nat) (Z0 : n0 ≤ h0.size) (S_COMPACT_STRINGS : Sta Z Z.heap "java/lang/String" "COMPACT_STRINGS" "Z" (.int cs)) (F_coder_a : Fld Z h0 a "java/lang/String" "coder" "B" (.int (0 : Int32))) (hcs : ¬ (cs = (0 : Int32))) (O : Old Z n0 h0) :
    Met l Z M3 jdk_42_method_154_code 1 (some .boolean) ws (Rm 0 0 0 0) #[(.ref a)] h0 (Q_rm_isL0 Z a cs h0 n0) := by
  refine met_of (plainFor_of_name pn_java_lang_String) (own := "java/lang/String") rfl (fun m => ef_rm_isL0 m a) ?_
  intro p e s m below meth c s₁ hx hby hml hown hnm hZ X0 e0 hret hlk
  have N0 := Fr.nil n0
  show Goes p e below s _ _ _ (s₁.setTop (mkF m 0 #[.val (.ref a)] []))
  obtain ⟨T1, X1, e1, st1⟩ := getS2 X0 hx hZ hown (host := "") (Or.inl (wq hw 24 rfl)) Via.refl e0 (S_COMPACT_STRINGS.ext O.2) (g := (mkF m 0 #[.val (.ref a)] [])) rfl (hb hby d3_0)
  refine Goes.pre (U' := T1.setTop (mkF m 3 #[.val (.ref a)] [(.int cs)])) (fun t k => st1 t k) ?_
  have hc3 : ¬ (cs = (0 : Int32)) := hcs
  refine Goes.pre (U' := T1.setTop (mkF m 7 #[.val (.ref a)] [(.ref a)])) (fun t k => XS.ifNo X1.here hx rfl (hb hby d3_3) rfl ((if0 _ _).trans (feq hc3).1) (XS.aloadN X1.here hx rfl (hb hby d3_6) rfl rfl k)) ?_
  obtain ⟨T2, X2, e2, st2⟩ := getF X1 hx hZ hown (host := "") (Or.inl (wq hw 25 rfl)) Via.refl e1 F_coder_a (g := (mkF m 7 #[.val (.ref a)] [(.ref a)])) rfl rfl (hb hby d3_7)
  refine Goes.pre (U' := T2.setTop (mkF m 10 #[.val (.ref a)] [(.int (0 : Int32))])) (fun t k => st2 t k) ?_
  have hc10 : (0 : Int32) = (0 : Int32) := rfl
  refine Goes.pre (U' := T2.setTop (mkF m 18 #[.val (.ref a)] [(.int (1 : Int32))])) (fun t k => XS.ifNo X2.here hx rfl (hb hby d3_10) rfl ((if0 _ _).trans (teq hc10).2) (XS.iconst X2.here hx rfl (hb hby d3_13) (XS.goto X2.here hx rfl (pc0 := 14) (pc' := 18) rfl (hb hby d3_14) (by decide) (by decide) k))) ?_
  refine Goes.ret X2 (v := (some (.int (1 : Int32)))) (fun h => by rw [hret] at h; cases h) hlk (by decide) (by decide) e2 (fun fs hr => retN X2 hx (t := .boolean) hret (by simp) (hb hby d3_18) hr) ?_
  exact ⟨rfl, N0, rfl⟩
theorem ef_rm_len (m : MethodId) (x0 : Addr) : entryFrame m #[(.ref x0)] 1 = mkF m 0 #[.val (.ref x0)] [] := by first | (simp [entryFrame, mkF, argsToLocals, Value.category]; done) | rfl
abbrev M15 : MethodName := ⟨"java/lang/String", "length", "()I"⟩
theorem d15_0 : decode jdk_42_method_54_code 0 = .ok (.aload_n 0, 1) := by decide +kernel
theorem d15_1 : decode jdk_42_method_54_code 1 = .ok (.getfield 9, 3) := by decide +kernel
theorem d15_4 : decode jdk_42_method_54_code 4 = .ok (.arraylength, 1) := by decide +kernel
theorem d15_5 : decode jdk_42_method_54_code 5 = .ok (.aload_n 0, 1) := by decide +kernel
theorem d15_6 : decode jdk_42_method_54_code 6 = .ok (.invokevirtual 335, 3) := by decide +kernel
theorem pd__28_29B : parseMethodDescriptor "()B" = some ⟨[], some .byte⟩ := by decide +kernel
theorem d15_9 : decode jdk_42_method_54_code 9 = .ok (.ishr, 1) := by decide +kernel
theorem d15_10 : decode jdk_42_method_54_code 10 = .ok (.ireturn, 1) := by decide +kernel
def Q_rm_len (Z : State) (a : Addr) (b : Addr) (kb : ClassId) (cl : List Int32) (cs : Int32) (h0 : Heap) (n0 : Nat) (v : Option Value) (h : Heap) (L : List Loc) : Prop := v = some (.int (Int32.ofNat cl.length)) ∧ Fr n0 L ∧ h = h0
set_option maxRecDepth 65536 in
set_option maxHeartbeats 40000000 in
theorem rm_len (l : Launch) (Z : State) (a0 : Array Value) (hw : ∀ d ∈ tables_1, d.before a0 Z = true) (ws : List Jvm.Cond) (a : Addr) (b : Addr) (kb : ClassId) (cl : List Int32) (cs : Int32) (h0 : Heap) (n0 : Nat) (Z0 : n0 ≤ h0.size) (S_a : OwnStr Z h0 a b kb cl) (S_COMPACT_STRINGS : Sta Z Z.heap "java/lang/String" "COMPACT_STRINGS" "Z" (.int cs)) (hcs : ¬ (cs = (0 : Int32))) (hlen : cl.length ≤ 4096) (O : Old Z n0 h0) :
    Met l Z M15 jdk_42_method_54_code 1 (some .int) ws (Rm 1 0 0 13) #[(.ref a)] h0 (Q_rm_len Z a b kb cl cs h0 n0) := by
  refine met_of (plainFor_of_name pn_java_lang_String) (own := "java/lang/String") rfl (fun m => ef_rm_len m a) ?_
  intro p e s m below meth c s₁ hx hby hml hown hnm hZ X0 e0 hret hlk
  have N0 := Fr.nil n0
  show Goes p e below s _ _ _ (s₁.setTop (mkF m 0 #[.val (.ref a)] []))
  obtain ⟨E_a, F_value_a, hcA, hSt⟩ := S_a
  obtain ⟨F_coder_a, V_b, hleA⟩ := hSt
  refine Goes.pre (U' := s₁.setTop (mkF m 1 #[.val (.ref a)] [(.ref a)])) (fun t k => XS.aloadN X0.here hx rfl (hb hby d15_0) rfl rfl k) ?_
  obtain ⟨T1, X1, e1, st1⟩ := getF X0 hx hZ hown (host := "") (Or.inl (wq hw 26 rfl)) Via.refl e0 F_value_a (g := (mkF m 1 #[.val (.ref a)] [(.ref a)])) rfl rfl (hb hby d15_1)
  refine Goes.pre (U' := T1.setTop (mkF m 4 #[.val (.ref a)] [(.ref b)])) (fun t k => st1 t k) ?_
  obtain ⟨cl2, Ar2, q2, Sz2, Ng2, -, -⟩ := id V_b
  have ln2 := len_of Sz2 Ng2
  refine Goes.pre (U' := T1.setTop (mkF m 6 #[.val (.ref a)] [(.ref a), (.int (Int32.ofNat cl.length))])) (fun t k => X1.arraylength hx (by rw [e1]; exact Ar2.1) (State.isArrayOf_alike hZ.alike Ar2.2.1) (g := (mkF m 4 #[.val (.ref a)] [(.ref b)])) rfl rfl (hb hby d15_4) _ (by rw [ln2]; exact (XS.aloadN X1.here hx rfl (hb hby d15_5) rfl rfl k))) ?_
  obtain ⟨cq3, kq3, q3a, q3b, q3c⟩ := isOf hZ e1 E_a
  obtain ⟨_, _, ⟨T3, L3, k3, n3⟩, -, X3, ⟨Lc3, hQ3, l3, y3, z3⟩, st3⟩ := X1.virtualBack hx (y := (⟨"java/lang/String", "coder", "()B"⟩ : MethodName)) (z := (⟨"java/lang/String", "coder", "()B"⟩ : MethodName)) hown (mvT hZ (wq hw 73 rfl)) (mvT hZ (wq hw 74 rfl)) (notFace_of_selects (args := #[]) (mvT hZ (wq hw 76 rfl))) (mvT hZ (wq hw 76 rfl)) (mvT hZ (wq hw 75 rfl)) (by decide) (backOf (W := 1) (rm_coder0 l Z a0 hw [] a cs h0 n0 Z0 S_COMPACT_STRINGS F_coder_a hcs O) hZ (wq hw 77 rfl) (wq hw 7 rfl) (by decide) (by decide)) q3a q3c (g := (mkF m 6 #[.val (.ref a)] [(.ref a), (.int (Int32.ofNat cl.length))])) rfl (by rw [hml]; rfl) (Steps.refl _) (argsL := []) (rest := [(.int (Int32.ofNat cl.length))]) (lenOf pd__28_29B rfl) rfl (by show 2 * 0 + _ ≤ _; exact Nat.le_of_eq rfl) (hb hby d15_6) (fun _ _ => ⟨rfl, e1, (by decide : 0 + 0 ≤ _), (by decide : 0 + 0 ≤ _)⟩)
  dsimp only [Pt.U, Pt.locs, Pt.cells, Pt.slots] at X3 l3 y3 z3 st3 hQ3
  rw [l3, y3, z3] at X3
  obtain ⟨rfl, N3q, HQ3⟩ := hQ3
  have N3 := Fr.app N0 N3q
  refine Goes.pre (U' := T3.setTop (mkF m 10 #[.val (.ref a)] [(.int ((Int32.ofNat cl.length) >>> ((0 : Int32) &&& 31)))])) (fun t k => st3.trans (XS.ishr X3.here hx rfl (hb hby d15_9) rfl k)) ?_
  refine Goes.ret X3 (v := (some (.int ((Int32.ofNat cl.length) >>> ((0 : Int32) &&& 31))))) (fun h => by rw [hret] at h; cases h) hlk (by decide) (by decide) HQ3 (fun fs hr => retI X3 hx hret (hb hby d15_10) hr) ?_
  exact ⟨congrArg (fun z => some (Value.int z)) (own_len0 cl hlen).symm, N3, rfl⟩
theorem ef_rm_l1chG (m : MethodId) (x0 : Addr) (x1 : Int32) : entryFrame m #[(.ref x0), (.int x1)] 2 = mkF m 0 #[.val (.ref x0), .val (.int x1)] [] := by first | (simp [entryFrame, mkF, argsToLocals, Value.category]; done) | rfl
theorem pn_java_lang_StringLatin1 : plainName "java/lang/StringLatin1" = true := by first | (simp [plainName, overriddenIn]; done) | decide +kernel
abbrev M4 : MethodName := ⟨"java/lang/StringLatin1", "charAt", "([BI)C"⟩
theorem d4_0 : decode jdk_43_method_2_code 0 = .ok (.iload_n 1, 1) := by decide +kernel
theorem d4_1 : decode jdk_43_method_2_code 1 = .ok (.aload_n 0, 1) := by decide +kernel
theorem d4_2 : decode jdk_43_method_2_code 2 = .ok (.arraylength, 1) := by decide +kernel
theorem d4_3 : decode jdk_43_method_2_code 3 = .ok (.invokestatic 9, 3) := by decide +kernel
theorem pd__28II_29V : parseMethodDescriptor "(II)V" = some ⟨[.int, .int], none⟩ := by decide +kernel
theorem d4_6 : decode jdk_43_method_2_code 6 = .ok (.aload_n 0, 1) := by decide +kernel
theorem d4_7 : decode jdk_43_method_2_code 7 = .ok (.iload_n 1, 1) := by decide +kernel
theorem d4_8 : decode jdk_43_method_2_code 8 = .ok (.baload, 1) := by decide +kernel
theorem d4_9 : decode jdk_43_method_2_code 9 = .ok (.sipush 255, 3) := by decide +kernel
theorem d4_12 : decode jdk_43_method_2_code 12 = .ok (.iand, 1) := by decide +kernel
theorem d4_13 : decode jdk_43_method_2_code 13 = .ok (.i2c, 1) := by decide +kernel
theorem d4_14 : decode jdk_43_method_2_code 14 = .ok (.ireturn, 1) := by decide +kernel
def Q_rm_l1chG (Z : State) (b : Addr) (kb : ClassId) (cl : List Int32) (i : Int32) (sf : Value) (h0 : Heap) (n0 : Nat) (v : Option Value) (h : Heap) (L : List Loc) : Prop := v = some (.int (cl.getD i.toNatClampNeg 0)) ∧ Fr n0 L ∧ h = h0
set_option maxRecDepth 65536 in
set_option maxHeartbeats 40000000 in
theorem rm_l1chG (l : Launch) (Z : State) (a0 : Array Value) (hw : ∀ d ∈ tables_1, d.before a0 Z = true) (ws : List Jvm.Cond) (b : Addr) (kb : ClassId) (cl : List Int32) (i : Int32) (sf : Value) (h0 : Heap) (n0 : Nat) (Z0 : n0 ≤ h0.size) (V_b : Arv Z h0 b kb .byte (Int32.ofNat cl.length) (cl.map fun c => .int c.toInt8.toInt32) (.int (0 : Int32))) (S_SIOOBE_FORMATTER : Sta Z Z.heap "jdk/internal/util/Preconditions" "SIOOBE_FORMATTER" "Ljava/util/function/BiFunction;" sf) (h1 : ¬ (i < (0 : Int32))) (h2 : i < Int32.ofNat cl.length) (hlen : cl.length ≤ 4096) (hcA : ∀ c ∈ cl, OwnCh c) (hleA : ∀ c ∈ cl, ¬ ((255 : Int32) < c)) (hsf : sf.isRef = true) (O : Old Z n0 h0) :
    Met l Z M4 jdk_43_method_2_code 2 (some .char) ws (Rm 2 0 0 27) #[(.ref b), (.int i)] h0 (Q_rm_l1chG Z b kb cl i sf h0 n0) := by
  refine met_of (plainFor_of_name pn_java_lang_StringLatin1) (own := "java/lang/StringLatin1") rfl (fun m => ef_rm_l1chG m b i) ?_
  intro p e s m below meth c s₁ hx hby hml hown hnm hZ X0 e0 hret hlk
  have N0 := Fr.nil n0
  show Goes p e below s _ _ _ (s₁.setTop (mkF m 0 #[.val (.ref b), .val (.int i)] []))
  refine Goes.pre (U' := s₁.setTop (mkF m 2 #[.val (.ref b), .val (.int i)] [(.ref b), (.int i)])) (fun t k => XS.iloadN X0.here hx rfl (hb hby d4_0) rfl (XS.aloadN X0.here hx rfl (hb hby d4_1) rfl rfl k)) ?_
  obtain ⟨cl1, Ar1, q1, Sz1, Ng1, -, -⟩ := id V_b
  have ln1 := len_of Sz1 Ng1
  refine Goes.pre (U' := s₁.setTop (mkF m 3 #[.val (.ref b), .val (.int i)] [(.int (Int32.ofNat cl.length)), (.int i)])) (fun t k => X0.arraylength hx (by rw [e0]; exact Ar1.1) (State.isArrayOf_alike hZ.alike Ar1.2.1) (g := (mkF m 2 #[.val (.ref b), .val (.int i)] [(.ref b), (.int i)])) rfl rfl (hb hby d4_2) _ (by rw [ln1]; exact k)) ?_
  obtain ⟨_, _, ⟨T2, L2, k2, n2⟩, -, X2, ⟨Lc2, hQ2, l2, y2, z2⟩, st2⟩ := Jvm.LawKit.callS X0 hx (y := (⟨"java/lang/String", "checkIndex", "(II)V"⟩ : MethodName)) hown (mvT hZ (wq hw 31 rfl)) (mvT hZ (wq hw 32 rfl)) (mvT hZ (wq hw 7 rfl)) (mvT hZ (wq hw 33 rfl)) (by decide) (backOf (W := 0) (rm_sIdx l Z a0 hw [] i (Int32.ofNat cl.length) sf h0 n0 Z0 S_SIOOBE_FORMATTER h1 h2 hsf O) hZ (wq hw 33 rfl) (wq hw 7 rfl) (by decide) (by decide)) (g := (mkF m 3 #[.val (.ref b), .val (.int i)] [(.int (Int32.ofNat cl.length)), (.int i)])) rfl (by rw [hml]; rfl) (argsL := [(.int i), (.int (Int32.ofNat cl.length))]) (rest := []) (lenOf pd__28II_29V rfl) rfl (by show 2 * 0 + _ ≤ _; exact Nat.le_of_eq rfl) (hb hby d4_3) (fun _ _ => ⟨rfl, e0, (by decide : 0 + 0 ≤ _), (by decide : 0 + 0 ≤ _)⟩)
  dsimp only [Pt.U, Pt.locs, Pt.cells, Pt.slots] at X2 l2 y2 z2 st2 hQ2
  rw [l2, y2, z2] at X2
  obtain ⟨rfl, N2q, HQ2⟩ := hQ2
  have N2 := Fr.app N0 N2q
  refine Goes.pre (U' := T2.setTop (mkF m 8 #[.val (.ref b), .val (.int i)] [(.int i), (.ref b)])) (fun t k => st2 t (XS.aloadN X2.here hx rfl (hb hby d4_6) rfl rfl (XS.iloadN X2.here hx rfl (hb hby d4_7) rfl k))) ?_
  obtain ⟨cl3, Ar3, q3, Sz3, Ng3, Hs3, Ft3⟩ := id V_b
  have hin3 := inb_of (j := i) Sz3 ⟨h1, h2⟩
  refine Goes.pre (U' := T2.setTop (mkF m 14 #[.val (.ref b), .val (.int i)] [(.int (((cl.getD i.toNatClampNeg 0).toInt8.toInt32 &&& (255 : Int32)).toUInt32.toUInt16.toUInt32.toInt32))])) (fun t k => X2.baloadBytes hx (j := i) (v := (.int (cl.getD i.toNatClampNeg 0).toInt8.toInt32)) (by rw [HQ2]; exact Ar3.1) (State.isArrayOf_alike hZ.alike Ar3.2.1) Ar3.2.2 hin3 (Has.at Hs3 hin3 (own_atL cl i h1 h2 hlen)) (g := (mkF m 8 #[.val (.ref b), .val (.int i)] [(.int i), (.ref b)])) rfl rfl (hb hby d4_8) _ (XS.sipush X2.here hx rfl (hb hby d4_9) (XS.iand X2.here hx rfl (hb hby d4_12) rfl (XS.i2c X2.here hx rfl (hb hby d4_13) rfl k)))) ?_
  refine Goes.ret X2 (v := (some (.int (cl.getD i.toNatClampNeg 0)))) (fun h => by rw [hret] at h; cases h) hlk (by decide) (by decide) HQ2 (fun fs hr => retN X2 hx (t := .char) hret (by simp) (hb hby d4_14) (by rw [show nar .char (((cl.getD i.toNatClampNeg 0).toInt8.toInt32 &&& (255 : Int32)).toUInt32.toUInt16.toUInt32.toInt32) = (cl.getD i.toNatClampNeg 0) from own_l1 _ (own_gch cl i h1 h2 hlen hcA) (own_gle cl i h1 h2 hlen hleA)]; exact hr)) ?_
  exact ⟨rfl, N2, rfl⟩
theorem ef_rm_chG (m : MethodId) (x0 : Addr) (x1 : Int32) : entryFrame m #[(.ref x0), (.int x1)] 2 = mkF m 0 #[.val (.ref x0), .val (.int x1)] [] := by first | (simp [entryFrame, mkF, argsToLocals, Value.category]; done) | rfl
abbrev M2 : MethodName := ⟨"java/lang/String", "charAt", "(I)C"⟩
theorem d2_0 : decode jdk_42_method_56_code 0 = .ok (.aload_n 0, 1) := by decide +kernel
theorem d2_1 : decode jdk_42_method_56_code 1 = .ok (.invokevirtual 492, 3) := by decide +kernel
theorem pd__28_29Z : parseMethodDescriptor "()Z" = some ⟨[], some .boolean⟩ := by decide +kernel
theorem d2_4 : decode jdk_42_method_56_code 4 = .ok (.ifCond .eq 12, 3) := by decide +kernel
theorem d2_7 : decode jdk_42_method_56_code 7 = .ok (.aload_n 0, 1) := by decide +kernel
theorem d2_8 : decode jdk_42_method_56_code 8 = .ok (.getfield 9, 3) := by decide +kernel
theorem d2_11 : decode jdk_42_method_56_code 11 = .ok (.iload_n 1, 1) := by decide +kernel
theorem d2_12 : decode jdk_42_method_56_code 12 = .ok (.invokestatic 495, 3) := by decide +kernel
theorem pd__28_5bBI_29C : parseMethodDescriptor "([BI)C" = some ⟨[(.array .byte), .int], some .char⟩ := by decide +kernel
theorem d2_15 : decode jdk_42_method_56_code 15 = .ok (.ireturn, 1) := by decide +kernel
def Q_rm_chG (Z : State) (a : Addr) (b : Addr) (kb : ClassId) (cl : List Int32) (i : Int32) (cs : Int32) (sf : Value) (h0 : Heap) (n0 : Nat) (v : Option Value) (h : Heap) (L : List Loc) : Prop := v = some (.int (cl.getD i.toNatClampNeg 0)) ∧ Fr n0 L ∧ h = h0
set_option maxRecDepth 65536 in
set_option maxHeartbeats 40000000 in
theorem rm_chG (l : Launch) (Z : State) (a0 : Array Value) (hw : ∀ d ∈ tables_1, d.before a0 Z = true) (ws : List Jvm.Cond) (a : Addr) (b : Addr) (kb : ClassId) (cl : List Int32) (i : Int32) (cs : Int32) (sf : Value) (h0 : Heap) (n0 : Nat) (Z0 : n0 ≤ h0.size) (S_a : OwnStr Z h0 a b kb cl) (S_COMPACT_STRINGS : Sta Z Z.heap "java/lang/String" "COMPACT_STRINGS" "Z" (.int cs)) (S_SIOOBE_FORMATTER : Sta Z Z.heap "jdk/internal/util/Preconditions" "SIOOBE_FORMATTER" "Ljava/util/function/BiFunction;" sf) (h1 : ¬ (i < (0 : Int32))) (h2 : i < Int32.ofNat cl.length) (hlen : cl.length ≤ 4096) (hcs : ¬ (cs = (0 : Int32))) (hsf : sf.isRef = true) (O : Old Z n0 h0) :
    Met l Z M2 jdk_42_method_56_code 2 (some .char) ws (Rm 3 0 0 40) #[(.ref a), (.int i)] h0 (Q_rm_chG Z a b kb cl i cs sf h0 n0) := by
  refine met_of (plainFor_of_name pn_java_lang_String) (own := "java/lang/String") rfl (fun m => ef_rm_chG m a i) ?_
  intro p e s m below meth c s₁ hx hby hml hown hnm hZ X0 e0 hret hlk
  have N0 := Fr.nil n0
  show Goes p e below s _ _ _ (s₁.setTop (mkF m 0 #[.val (.ref a), .val (.int i)] []))
  obtain ⟨E_a, F_value_a, hcA, hSt⟩ := S_a
  obtain ⟨F_coder_a, V_b, hleA⟩ := hSt
  refine Goes.pre (U' := s₁.setTop (mkF m 1 #[.val (.ref a), .val (.int i)] [(.ref a)])) (fun t k => XS.aloadN X0.here hx rfl (hb hby d2_0) rfl rfl k) ?_
  obtain ⟨cq1, kq1, q1a, q1b, q1c⟩ := isOf hZ e0 E_a
  obtain ⟨_, _, ⟨T1, L1, k1, n1⟩, -, X1, ⟨Lc1, hQ1, l1, y1, z1⟩, st1⟩ := X0.virtualBack hx (y := (⟨"java/lang/String", "isLatin1", "()Z"⟩ : MethodName)) (z := (⟨"java/lang/String", "isLatin1", "()Z"⟩ : MethodName)) hown (mvT hZ (wq hw 19 rfl)) (mvT hZ (wq hw 20 rfl)) (notFace_of_selects (args := #[]) (mvT hZ (wq hw 22 rfl))) (mvT hZ (wq hw 22 rfl)) (mvT hZ (wq hw 21 rfl)) (by decide) (backOf (W := 0) (rm_isL0 l Z a0 hw [] a cs h0 n0 Z0 S_COMPACT_STRINGS F_coder_a hcs O) hZ (wq hw 23 rfl) (wq hw 7 rfl) (by decide) (by decide)) q1a q1c (g := (mkF m 1 #[.val (.ref a), .val (.int i)] [(.ref a)])) rfl (by rw [hml]; rfl) (Steps.refl _) (argsL := []) (rest := []) (lenOf pd__28_29Z rfl) rfl (by show 2 * 0 + _ ≤ _; exact Nat.le_of_eq rfl) (hb hby d2_1) (fun _ _ => ⟨rfl, e0, (by decide : 0 + 0 ≤ _), (by decide : 0 + 0 ≤ _)⟩)
  dsimp only [Pt.U, Pt.locs, Pt.cells, Pt.slots] at X1 l1 y1 z1 st1 hQ1
  rw [l1, y1, z1] at X1
  obtain ⟨rfl, N1q, HQ1⟩ := hQ1
  have N1 := Fr.app N0 N1q
  refine Goes.pre (U' := T1.setTop (mkF m 4 #[.val (.ref a), .val (.int i)] [(.int (1 : Int32))])) (fun t k => st1.trans k) ?_
  have hc4 : ¬ ((1 : Int32) = (0 : Int32)) := by decide
  refine Goes.pre (U' := T1.setTop (mkF m 8 #[.val (.ref a), .val (.int i)] [(.ref a)])) (fun t k => XS.ifNo X1.here hx rfl (hb hby d2_4) rfl ((if0 _ _).trans (feq hc4).1) (XS.aloadN X1.here hx rfl (hb hby d2_7) rfl rfl k)) ?_
  obtain ⟨T2, X2, e2, st2⟩ := getF X1 hx hZ hown (host := "") (Or.inl (wq hw 26 rfl)) Via.refl HQ1 F_value_a (g := (mkF m 8 #[.val (.ref a), .val (.int i)] [(.ref a)])) rfl rfl (hb hby d2_8)
  refine Goes.pre (U' := T2.setTop (mkF m 12 #[.val (.ref a), .val (.int i)] [(.int i), (.ref b)])) (fun t k => st2 t (XS.iloadN X2.here hx rfl (hb hby d2_11) rfl k)) ?_
  obtain ⟨_, _, ⟨T3, L3, k3, n3⟩, -, X3, ⟨Lc3, hQ3, l3, y3, z3⟩, st3⟩ := Jvm.LawKit.callS X2 hx (y := (⟨"java/lang/StringLatin1", "charAt", "([BI)C"⟩ : MethodName)) hown (mvT hZ (wq hw 27 rfl)) (mvT hZ (wq hw 28 rfl)) (mvT hZ (wq hw 29 rfl)) (mvT hZ (wq hw 30 rfl)) (by decide) (backOf (W := 0) (rm_l1chG l Z a0 hw [] b kb cl i sf h0 n0 Z0 V_b S_SIOOBE_FORMATTER h1 h2 hlen hcA hleA hsf O) hZ (wq hw 30 rfl) (wq hw 29 rfl) (by decide) (by decide)) (g := (mkF m 12 #[.val (.ref a), .val (.int i)] [(.int i), (.ref b)])) rfl (by rw [hml]; rfl) (argsL := [(.ref b), (.int i)]) (rest := []) (lenOf pd__28_5bBI_29C rfl) rfl (by show 2 * 0 + _ ≤ _; exact Nat.le_of_eq rfl) (hb hby d2_12) (fun _ _ => ⟨rfl, e2, (by decide : 0 + 0 ≤ _), (by decide : 0 + 0 ≤ _)⟩)
  dsimp only [Pt.U, Pt.locs, Pt.cells, Pt.slots] at X3 l3 y3 z3 st3 hQ3
  rw [l3, y3, z3] at X3
  obtain ⟨rfl, N3q, HQ3⟩ := hQ3
  have N3 := Fr.app N1 N3q
  refine Goes.pre (U' := T3.setTop (mkF m 15 #[.val (.ref a), .val (.int i)] [(.int (cl.getD i.toNatClampNeg 0))])) (fun t k => st3 t k) ?_
  refine Goes.ret X3 (v := (some (.int (cl.getD i.toNatClampNeg 0)))) (fun h => by rw [hret] at h; cases h) hlk (by decide) (by decide) HQ3 (fun fs hr => retN X3 hx (t := .char) hret (by simp) (hb hby d2_15) (by rw [show nar .char (cl.getD i.toNatClampNeg 0) = (cl.getD i.toNatClampNeg 0) from own_nch _ (own_gch cl i h1 h2 hlen hcA)]; exact hr)) ?_
  exact ⟨rfl, N3, rfl⟩
theorem own_push {Z : State} {h h' : Heap} {a : Addr} {k : ClassId} {ty : FieldType} {z j : Int32} {vs : List Value} {v dv : Value} {c : Cell} (A : Arr Z h a c ty) (q1 : c.cls = k) (S : c.slots.size = z.toNatClampNeg) (q3 : ¬ z < 0) (H : Has c vs dv) (G : ∀ i, i < c.slots.size → fits ty (vs.getD i dv) = true) (hv : fits ty v = true) (W : Wr h h' a j.toNatClampNeg v) (hj : j.toNatClampNeg = vs.length) : Arv Z h' a k ty z (vs ++ [v]) dv := by
  obtain ⟨c', A', p1, p2, p3, p4, p5⟩ := (show Arv Z h a k ty z vs dv from ⟨c, A, q1, S, q3, H, G⟩).pad (pad_rep vs dv 1)
  obtain rfl : c = c' := Option.some.inj (A.1.symm.trans A'.1)
  have q := Arv.set A' p1 p2 p3 p4 p5 hv W vs.length hj (by simp)
  have e : (vs ++ List.replicate 1 dv).set vs.length v = vs ++ [v] := by simp
  rw [e] at q
  exact q
theorem own_inc (i : Nat) : Int32.ofNat i + (1 : Int32) = Int32.ofNat (i + 1) := (Int32.ofNat_add i 1).symm
theorem own_ixn (i : Nat) (h : i ≤ 8192) : (Int32.ofNat i).toNatClampNeg = i := by
  have a := own_ofn i h
  have b := nat_of (j := Int32.ofNat i) (by rw [Int32.lt_iff_toInt_lt, a, show (0 : Int32).toInt = 0 from by decide]; omega)
  omega
theorem own_ix (i n : Nat) (h : i < n) (hn : n ≤ 8192) : ¬ (Int32.ofNat i < (0 : Int32)) ∧ Int32.ofNat i < Int32.ofNat n := by
  have a := own_ofn i (by omega)
  have b := own_ofn n hn
  rw [Int32.lt_iff_toInt_lt, Int32.lt_iff_toInt_lt, a, b, show (0 : Int32).toInt = 0 from by decide]
  omega
theorem own_neg (n : Nat) (hn : n ≤ 8192) : ¬ (Int32.ofNat n < (0 : Int32)) := by
  have b := own_ofn n hn
  rw [Int32.lt_iff_toInt_lt, b, show (0 : Int32).toInt = 0 from by decide]
  omega
theorem own_lti (i n : Nat) (h : Int32.ofNat i < Int32.ofNat n) (hi : i ≤ n) (hn : n ≤ 8192) : i < n := by
  have a := own_ofn i (by omega)
  have b := own_ofn n hn
  rw [Int32.lt_iff_toInt_lt, a, b] at h
  omega
theorem own_nlti (i n : Nat) (h : ¬ (Int32.ofNat i < Int32.ofNat n)) (hi : i ≤ n) (hn : n ≤ 8192) : i = n := by
  have a := own_ofn i (by omega)
  have b := own_ofn n hn
  rw [Int32.lt_iff_toInt_lt, a, b] at h
  omega
theorem own_nei (i n : Nat) (h : i < n) (hn : n ≤ 8192) : ¬ (Int32.ofNat i = Int32.ofNat n) := fun q => by
  have a := own_ofn i (by omega)
  have b := own_ofn n hn
  rw [q] at a
  omega
theorem own_ne0 (cl : List Int32) (h : cl ≠ []) (hn : cl.length ≤ 8192) : ¬ (Int32.ofNat cl.length = (0 : Int32)) := fun q => by
  have b := own_ofn cl.length hn
  rw [q, show (0 : Int32).toInt = 0 from by decide] at b
  exact h (List.length_eq_zero_iff.mp (by omega))
theorem own_getm (cl : List Int32) (i : Nat) (h : i < cl.length) (hn : cl.length ≤ 8192) : (cl.map Value.int).getD (Int32.ofNat i).toNatClampNeg (.int (0 : Int32)) = .int (cl.getD i 0) := by
  rw [own_ixn i (by omega)]
  simp [List.getD_eq_getElem?_getD, h]
theorem own_tks (cl : List Int32) (i : Nat) (h : i < cl.length) : cl.take i ++ [cl.getD i 0] = cl.take (i + 1) := by
  rw [List.take_add_one, List.getD_eq_getElem?_getD, List.getElem?_eq_getElem h]
  rfl
theorem own_tkm (f : Int32 → Value) (cl : List Int32) (i : Nat) (h : i < cl.length) : (cl.take i).map f ++ [f (cl.getD i 0)] = (cl.take (i + 1)).map f := by
  rw [← own_tks cl i h, List.map_append]
  rfl
theorem own_tkf (f g : Int32 → Value) (cl : List Int32) (i : Nat) (h : i < cl.length) : ((cl.take i).flatMap fun c => [f c, g c]) ++ [f (cl.getD i 0)] ++ [g (cl.getD i 0)] = (cl.take (i + 1)).flatMap fun c => [f c, g c] := by
  rw [← own_tks cl i h, List.flatMap_append]
  simp
theorem own_fml (f g : Int32 → Value) (cl : List Int32) (i : Nat) (h : i ≤ cl.length) : ((cl.take i).flatMap fun c => [f c, g c]).length = 2 * i := by
  have q : ∀ l : List Int32, (l.flatMap fun c => [f c, g c]).length = 2 * l.length := fun l => by
    induction l with
    | nil => rfl
    | cons a l ih => simp only [List.flatMap_cons, List.length_append, ih, List.length_cons, List.length_nil]; omega
  rw [q, List.length_take]
  omega
theorem own_tkl (cl : List Int32) (i : Nat) (h : i < cl.length) (q : ∀ c ∈ cl.take i, ¬ ((255 : Int32) < c)) (r : ¬ ((255 : Int32) < cl.getD i 0)) : ∀ c ∈ cl.take (i + 1), ¬ ((255 : Int32) < c) := by
  rw [← own_tks cl i h]
  intro c hc
  rcases List.mem_append.mp hc with k | k
  · exact q c k
  · rw [List.mem_singleton.mp k]
    exact r
theorem own_gmem (cl : List Int32) (i : Nat) (h : i < cl.length) : cl.getD i 0 ∈ cl := by
  rw [List.getD_eq_getElem?_getD, List.getElem?_eq_getElem h]
  exact List.getElem_mem h
theorem own_shl (n : Nat) (hn : n ≤ 4096) : Int32.ofNat (2 * n) = Int32.ofNat n <<< ((1 : Int32) &&& 31) := by
  have a := c_ishl (Int32.ofNat n) 1 1 (by decide)
  have b := own_ofn n (by omega)
  have d := own_ofn (2 * n) (by omega)
  have r := rng32 (Int32.ofNat n <<< ((1 : Int32) &&& 31))
  apply Int32.toInt_inj.mp
  omega
theorem own_sh1 (i : Nat) (hi : i ≤ 4095) : (Int32.ofNat i <<< ((1 : Int32) &&& 31)) = Int32.ofNat (2 * i) ∧ (Int32.ofNat i <<< ((1 : Int32) &&& 31)) + (1 : Int32) = Int32.ofNat (2 * i + 1) := by
  rw [← own_shl i (by omega)]
  exact ⟨rfl, own_inc _⟩
theorem own_p0 (i n : Nat) (h : 2 * i + 1 < n) (hn : n ≤ 8192) : ¬ ((Int32.ofNat i <<< ((1 : Int32) &&& 31)) < 0) ∧ (Int32.ofNat i <<< ((1 : Int32) &&& 31)) < Int32.ofNat n := by
  rw [(own_sh1 i (by omega)).1]
  exact own_ix _ _ (by omega) hn
theorem own_p1 (i n : Nat) (h : 2 * i + 1 < n) (hn : n ≤ 8192) : ¬ (((Int32.ofNat i <<< ((1 : Int32) &&& 31)) + (1 : Int32)) < 0) ∧ ((Int32.ofNat i <<< ((1 : Int32) &&& 31)) + (1 : Int32)) < Int32.ofNat n := by
  rw [(own_sh1 i (by omega)).2]
  exact own_ix _ _ (by omega) hn
theorem own_c0 : nar .byte ((((Int32.ofNat n - Int32.ofNat n).toUInt32 >>> ((31 : Int32) &&& 31).toUInt32).toInt32).toInt8.toInt32) = (0 : Int32) := by
  rw [Int32.sub_self]
  decide
theorem own_c1 (n : Nat) (h : 0 < n) (hn : n ≤ 4096) : nar .byte ((((Int32.ofNat n - Int32.ofNat (2 * n)).toUInt32 >>> ((31 : Int32) &&& 31).toUInt32).toInt32).toInt8.toInt32) = (1 : Int32) := by
  have a := c_isub (Int32.ofNat n) (Int32.ofNat (2 * n))
  have b := own_ofn n (by omega)
  have d := own_ofn (2 * n) (by omega)
  have r := rng32 (Int32.ofNat n - Int32.ofNat (2 * n))
  have q := c_iushr (Int32.ofNat n - Int32.ofNat (2 * n)) 31 31 (by decide) (by decide)
  have e : ((Int32.ofNat n - Int32.ofNat (2 * n)).toUInt32 >>> ((31 : Int32) &&& 31).toUInt32).toInt32 = (1 : Int32) := by
    apply Int32.toInt_inj.mp
    have k : (1 : Int32).toInt = 1 := by decide
    omega
  rw [e]
  decide
theorem own_cA {c : Int32} {cs : List Int32} (h : OwnCh c) (hs : ∀ x ∈ cs, OwnCh x) : ∀ x ∈ c :: cs, OwnCh x := by
  intro x hx
  rcases List.mem_cons.mp hx with q | q
  · rw [q]; exact h
  · exact hs x q
theorem own_cN : ∀ x ∈ ([] : List Int32), OwnCh x := fun x hx => by cases hx
theorem own_eA {c : Int32} {cs : List Int32} (h : ¬ ((255 : Int32) < c)) (hs : ∀ x ∈ cs, ¬ ((255 : Int32) < x)) : ∀ x ∈ c :: cs, ¬ ((255 : Int32) < x) := by
  intro x hx
  rcases List.mem_cons.mp hx with q | q
  · rw [q]; exact h
  · exact hs x q
theorem own_eN : ∀ x ∈ ([] : List Int32), ¬ ((255 : Int32) < x) := fun x hx => by cases hx
theorem ef_rm_cmpIG (m : MethodId) (x0 : Addr) (x1 : Int32) (x2 : Addr) (x3 : Int32) (x4 : Int32) : entryFrame m #[(.ref x0), (.int x1), (.ref x2), (.int x3), (.int x4)] 7 = mkF m 0 #[.val (.ref x0), .val (.int x1), .val (.ref x2), .val (.int x3), .val (.int x4), .unset, .unset] [] := by first | (simp [entryFrame, mkF, argsToLocals, Value.category]; done) | rfl
theorem pn_java_lang_StringUTF16 : plainName "java/lang/StringUTF16" = true := by first | (simp [plainName, overriddenIn]; done) | decide +kernel
abbrev M12 : MethodName := ⟨"java/lang/StringUTF16", "compress", "([CI[BII)I"⟩
theorem d12_0 : decode jdk_52_method_21_code 0 = .ok (.iconst 0, 1) := by decide +kernel
theorem d12_1 : decode jdk_52_method_21_code 1 = .ok (.istore 5, 2) := by decide +kernel
theorem d12_3 : decode jdk_52_method_21_code 3 = .ok (.iload 5, 2) := by decide +kernel
theorem d12_5 : decode jdk_52_method_21_code 5 = .ok (.iload 4, 2) := by decide +kernel
theorem d12_7 : decode jdk_52_method_21_code 7 = .ok (.if_icmp .ge 37, 3) := by decide +kernel
theorem d12_10 : decode jdk_52_method_21_code 10 = .ok (.aload_n 0, 1) := by decide +kernel
theorem d12_11 : decode jdk_52_method_21_code 11 = .ok (.iload_n 1, 1) := by decide +kernel
theorem d12_12 : decode jdk_52_method_21_code 12 = .ok (.caload, 1) := by decide +kernel
theorem d12_13 : decode jdk_52_method_21_code 13 = .ok (.istore 6, 2) := by decide +kernel
theorem d12_15 : decode jdk_52_method_21_code 15 = .ok (.iload 6, 2) := by decide +kernel
theorem d12_17 : decode jdk_52_method_21_code 17 = .ok (.sipush 255, 3) := by decide +kernel
theorem d12_20 : decode jdk_52_method_21_code 20 = .ok (.if_icmp .le 6, 3) := by decide +kernel
theorem d12_26 : decode jdk_52_method_21_code 26 = .ok (.aload_n 2, 1) := by decide +kernel
theorem d12_27 : decode jdk_52_method_21_code 27 = .ok (.iload_n 3, 1) := by decide +kernel
theorem d12_28 : decode jdk_52_method_21_code 28 = .ok (.iload 6, 2) := by decide +kernel
theorem d12_30 : decode jdk_52_method_21_code 30 = .ok (.i2b, 1) := by decide +kernel
theorem d12_31 : decode jdk_52_method_21_code 31 = .ok (.bastore, 1) := by decide +kernel
theorem d12_32 : decode jdk_52_method_21_code 32 = .ok (.iinc 1 1, 3) := by decide +kernel
theorem d12_35 : decode jdk_52_method_21_code 35 = .ok (.iinc 3 1, 3) := by decide +kernel
theorem d12_38 : decode jdk_52_method_21_code 38 = .ok (.iinc 5 1, 3) := by decide +kernel
theorem d12_41 : decode jdk_52_method_21_code 41 = .ok (.goto (-38), 3) := by decide +kernel
theorem d12_44 : decode jdk_52_method_21_code 44 = .ok (.iload 4, 2) := by decide +kernel
theorem d12_46 : decode jdk_52_method_21_code 46 = .ok (.ireturn, 1) := by decide +kernel
def Q_rm_cmpIG (Z : State) (d : Addr) (kd : ClassId) (b : Addr) (kb : ClassId) (cl : List Int32) (h0 : Heap) (n0 : Nat) (v : Option Value) (h : Heap) (L : List Loc) : Prop := v = some (.int (Int32.ofNat cl.length)) ∧ Fr n0 L ∧ Keep h0 h [b] ∧ Arv Z h b kb .byte (Int32.ofNat cl.length) (cl.map fun c => .int c.toInt8.toInt32) (.int (0 : Int32))
set_option maxRecDepth 65536 in
set_option maxHeartbeats 40000000 in
theorem rm_cmpIG (l : Launch) (Z : State) (a0 : Array Value) (hw : ∀ d ∈ tables_1, d.before a0 Z = true) (ws : List Jvm.Cond) (d : Addr) (kd : ClassId) (b : Addr) (kb : ClassId) (cl : List Int32) (h0 : Heap) (n0 : Nat) (Z0 : n0 ≤ h0.size) (V_d : Arv Z h0 d kd .char (Int32.ofNat cl.length) (cl.map Value.int) (.int (0 : Int32))) (V_b : Arv Z h0 b kb .byte (Int32.ofNat cl.length) [] (.int (0 : Int32))) (hlen : cl.length ≤ 26) (hleA : ∀ c ∈ cl, ¬ ((255 : Int32) < c)) (ne_d_b : d ≠ b) (g_b : n0 ≤ b) :
    Met l Z M12 jdk_52_method_21_code 7 (some .int) ws (Rm 0 0 0 0) #[(.ref d), (.int (0 : Int32)), (.ref b), (.int (0 : Int32)), (.int (Int32.ofNat cl.length))] h0 (Q_rm_cmpIG Z d kd b kb cl h0 n0) := by
  refine met_of (plainFor_of_name pn_java_lang_StringUTF16) (own := "java/lang/StringUTF16") rfl (fun m => ef_rm_cmpIG m d (0 : Int32) b (0 : Int32) (Int32.ofNat cl.length)) ?_
  intro p e s m below meth c s₁ hx hby hml hown hnm hZ X0 e0 hret hlk
  have N0 := Fr.nil n0
  have K0 := Keep.refl h0 [b]
  show Goes p e below s _ _ _ (s₁.setTop (mkF m 0 #[.val (.ref d), .val (.int (0 : Int32)), .val (.ref b), .val (.int (0 : Int32)), .val (.int (Int32.ofNat cl.length)), .unset, .unset] []))
  refine Goes.pre (U' := s₁.setTop (mkF m 3 #[.val (.ref d), .val (.int (0 : Int32)), .val (.ref b), .val (.int (0 : Int32)), .val (.int (Int32.ofNat cl.length)), .val (.int (0 : Int32)), .unset] [])) (fun t k => XS.iconst X0.here hx rfl (hb hby d12_0) (XS.istore X0.here hx rfl (hb hby d12_1) rfl (l' := #[.val (.ref d), .val (.int (0 : Int32)), .val (.ref b), .val (.int (0 : Int32)), .val (.int (Int32.ofNat cl.length)), .val (.int (0 : Int32)), .unset]) rfl k)) ?_
  have J3_1 : ∀ (kk : Nat) (i : Nat) (sl : Slot) (hs : sl = .unset ∨ ∃ z, sl = .val (.int z)) (hi : i ≤ cl.length) (hm : cl.length - i = kk) (T1 : State) (h1 : Heap) (lc1 : List Loc), Stand p l e (Rm 0 0 0 0) s m #[(.ref d), (.int (0 : Int32)), (.ref b), (.int (0 : Int32)), (.int (Int32.ofNat cl.length))] below meth c T1 lc1 0 0 → T1.heap = h1 → Fr n0 lc1 → n0 ≤ h1.size → Keep h0 h1 [b] → Arv Z h1 d kd .char (Int32.ofNat cl.length) (cl.map Value.int) (.int (0 : Int32)) → Arv Z h1 b kb .byte (Int32.ofNat cl.length) ((cl.take i).map fun c => .int c.toInt8.toInt32) (.int (0 : Int32)) → Goes p e below s (Q_rm_cmpIG Z d kd b kb cl h0 n0) (Rm 0 0 0 0).cells (Rm 0 0 0 0).slots (T1.setTop (mkF m 3 #[.val (.ref d), .val (.int (Int32.ofNat i)), .val (.ref b), .val (.int (Int32.ofNat i)), .val (.int (Int32.ofNat cl.length)), .val (.int (Int32.ofNat i)), sl] [])) := by
    intro kk
    induction kk using Nat.strongRecOn with
    | ind kk ih =>
      intro i sl hs hi hm T1 h1 lc1 X1 e1 N1 Z1 K1 V_d V_b
      rcases hs with rfl | ⟨z6, rfl⟩
      ·
        refine Goes.pre (U' := T1.setTop (mkF m 7 #[.val (.ref d), .val (.int (Int32.ofNat i)), .val (.ref b), .val (.int (Int32.ofNat i)), .val (.int (Int32.ofNat cl.length)), .val (.int (Int32.ofNat i)), .unset] [(.int (Int32.ofNat cl.length)), (.int (Int32.ofNat i))])) (fun t k => XS.iload X1.here hx rfl (hb hby d12_3) rfl (XS.iload X1.here hx rfl (hb hby d12_5) rfl k)) ?_
        by_cases hc7 : (Int32.ofNat i) < (Int32.ofNat cl.length)
        ·
          refine Goes.pre (U' := T1.setTop (mkF m 12 #[.val (.ref d), .val (.int (Int32.ofNat i)), .val (.ref b), .val (.int (Int32.ofNat i)), .val (.int (Int32.ofNat cl.length)), .val (.int (Int32.ofNat i)), .unset] [(.int (Int32.ofNat i)), (.ref d)])) (fun t k => XS.icmpNo X1.here hx rfl (hb hby d12_7) rfl (tlt hc7).2.1 (XS.aloadN X1.here hx rfl (hb hby d12_10) rfl rfl (XS.iloadN X1.here hx rfl (hb hby d12_11) rfl k))) ?_
          obtain ⟨cl2, Ar2, q2, Sz2, Ng2, Hs2, Ft2⟩ := id V_d
          have hin2 := inb_of (j := (Int32.ofNat i)) Sz2 (own_ix i _ (own_lti _ _ hc7 hi (Nat.le_trans hlen (by decide))) (Nat.le_trans hlen (by decide)))
          refine Goes.pre (U' := T1.setTop (mkF m 20 #[.val (.ref d), .val (.int (Int32.ofNat i)), .val (.ref b), .val (.int (Int32.ofNat i)), .val (.int (Int32.ofNat cl.length)), .val (.int (Int32.ofNat i)), .val (.int (cl.getD i 0))] [(.int (255 : Int32)), (.int (cl.getD i 0))])) (fun t k => X1.caload hx (j := (Int32.ofNat i)) (v := (.int (cl.getD i 0))) (by rw [e1]; exact Ar2.1) (State.isArrayOf_alike hZ.alike Ar2.2.1) Ar2.2.2 hin2 (Has.at Hs2 hin2 (own_getm cl i (own_lti _ _ hc7 hi (Nat.le_trans hlen (by decide))) (Nat.le_trans hlen (by decide)))) (g := (mkF m 12 #[.val (.ref d), .val (.int (Int32.ofNat i)), .val (.ref b), .val (.int (Int32.ofNat i)), .val (.int (Int32.ofNat cl.length)), .val (.int (Int32.ofNat i)), .unset] [(.int (Int32.ofNat i)), (.ref d)])) rfl rfl (hb hby d12_12) _ (XS.istore X1.here hx rfl (hb hby d12_13) rfl (l' := #[.val (.ref d), .val (.int (Int32.ofNat i)), .val (.ref b), .val (.int (Int32.ofNat i)), .val (.int (Int32.ofNat cl.length)), .val (.int (Int32.ofNat i)), .val (.int (cl.getD i 0))]) rfl (XS.iload X1.here hx rfl (hb hby d12_15) rfl (XS.sipush X1.here hx rfl (hb hby d12_17) k)))) ?_
          have hc20 : ¬ ((255 : Int32) < (cl.getD i 0)) := hleA _ (own_gmem cl i (own_lti _ _ hc7 hi (Nat.le_trans hlen (by decide))))
          refine Goes.pre (U' := T1.setTop (mkF m 31 #[.val (.ref d), .val (.int (Int32.ofNat i)), .val (.ref b), .val (.int (Int32.ofNat i)), .val (.int (Int32.ofNat cl.length)), .val (.int (Int32.ofNat i)), .val (.int (cl.getD i 0))] [(.int ((cl.getD i 0).toInt8.toInt32)), (.int (Int32.ofNat i)), (.ref b)])) (fun t k => XS.icmpYes X1.here hx rfl (pc0 := 20) (pc' := 26) rfl (hb hby d12_20) rfl (flt hc20).2.2.2 (by decide) (by decide) (XS.aloadN X1.here hx rfl (hb hby d12_26) rfl rfl (XS.iloadN X1.here hx rfl (hb hby d12_27) rfl (XS.iload X1.here hx rfl (hb hby d12_28) rfl (XS.i2b X1.here hx rfl (hb hby d12_30) rfl k))))) ?_
          obtain ⟨cl3, Ar3, q3, Sz3, Ng3, Hs3, Ft3⟩ := id V_b
          obtain ⟨T3, h3, X3, e3, W3, st3⟩ := stB X1 hx hZ e1 Ar3 (j := (Int32.ofNat i)) (inb_of Sz3 (own_ix i _ (own_lti _ _ hc7 hi (Nat.le_trans hlen (by decide))) (Nat.le_trans hlen (by decide)))) (g := (mkF m 31 #[.val (.ref d), .val (.int (Int32.ofNat i)), .val (.ref b), .val (.int (Int32.ofNat i)), .val (.int (Int32.ofNat cl.length)), .val (.int (Int32.ofNat i)), .val (.int (cl.getD i 0))] [(.int ((cl.getD i 0).toInt8.toInt32)), (.int (Int32.ofNat i)), (.ref b)])) rfl rfl (hb hby d12_31)
          have nr3 : nar .byte ((cl.getD i 0).toInt8.toInt32) = ((cl.getD i 0).toInt8.toInt32) := own_bb _
          have ft3 : fits .byte (.int ((cl.getD i 0).toInt8.toInt32)) = true := nr3 ▸ (fits_nar_byte ((cl.getD i 0).toInt8.toInt32) : fits .byte (.int (nar .byte ((cl.getD i 0).toInt8.toInt32))) = true)
          rw [nr3] at W3
          have V_d := V_d.other W3 ne_d_b
          have Z3 : n0 ≤ h3.size := Nat.le_trans Z1 (Keep.of_wr W3).1
          have V_b : Arv Z h3 b kb .byte (Int32.ofNat cl.length) (((cl.take i).map fun c => .int c.toInt8.toInt32) ++ [.int ((cl.getD i 0).toInt8.toInt32)]) (.int (0 : Int32)) := own_push Ar3 q3 Sz3 Ng3 Hs3 Ft3 ft3 W3 (by rw [own_ixn i (Nat.le_trans hi (Nat.le_trans hlen (by decide))), List.length_map, List.length_take, Nat.min_eq_left hi])
          have K3 := K1.wr W3 (Or.inl (List.mem_of_getElem? (i := 0) rfl))
          have N3 := Fr.snoc X3 N1 g_b
          refine Goes.pre (U' := T3.setTop (mkF m 41 #[.val (.ref d), .val (.int ((Int32.ofNat i) + (1 : Int32))), .val (.ref b), .val (.int ((Int32.ofNat i) + (1 : Int32))), .val (.int (Int32.ofNat cl.length)), .val (.int ((Int32.ofNat i) + (1 : Int32))), .val (.int (cl.getD i 0))] [])) (fun t k => st3 t (XT.iincV X3.here hx rfl (1 : Int32) (hb hby d12_32) (by decide) rfl (l' := #[.val (.ref d), .val (.int ((Int32.ofNat i) + (1 : Int32))), .val (.ref b), .val (.int (Int32.ofNat i)), .val (.int (Int32.ofNat cl.length)), .val (.int (Int32.ofNat i)), .val (.int (cl.getD i 0))]) rfl (XT.iincV X3.here hx rfl (1 : Int32) (hb hby d12_35) (by decide) rfl (l' := #[.val (.ref d), .val (.int ((Int32.ofNat i) + (1 : Int32))), .val (.ref b), .val (.int ((Int32.ofNat i) + (1 : Int32))), .val (.int (Int32.ofNat cl.length)), .val (.int (Int32.ofNat i)), .val (.int (cl.getD i 0))]) rfl (XT.iincV X3.here hx rfl (1 : Int32) (hb hby d12_38) (by decide) rfl (l' := #[.val (.ref d), .val (.int ((Int32.ofNat i) + (1 : Int32))), .val (.ref b), .val (.int ((Int32.ofNat i) + (1 : Int32))), .val (.int (Int32.ofNat cl.length)), .val (.int ((Int32.ofNat i) + (1 : Int32))), .val (.int (cl.getD i 0))]) rfl k)))) ?_
          rw [own_inc]
          have V_b : Arv Z h3 b kb .byte (Int32.ofNat cl.length) ((cl.take (i + 1)).map fun c => .int c.toInt8.toInt32) (.int (0 : Int32)) := own_tkm (fun c => .int c.toInt8.toInt32) cl i (own_lti _ _ hc7 hi (Nat.le_trans hlen (by decide))) ▸ V_b
          refine Goes.pre (U' := T3.setTop (mkF m 3 #[.val (.ref d), .val (.int (Int32.ofNat (i + 1))), .val (.ref b), .val (.int (Int32.ofNat (i + 1))), .val (.int (Int32.ofNat cl.length)), .val (.int (Int32.ofNat (i + 1))), .val (.int (cl.getD i 0))] [])) (fun t k => XS.goto X3.here hx rfl (pc0 := 41) (pc' := 3) rfl (hb hby d12_41) (by decide) (by decide) k) ?_
          exact ih _ (by have := own_lti _ _ hc7 hi (Nat.le_trans hlen (by decide)); omega) (i + 1) _ (Or.inr ⟨_, rfl⟩) (own_lti _ _ hc7 hi (Nat.le_trans hlen (by decide))) rfl _ _ _ X3 e3 N3 Z3 K3 V_d V_b
        ·
          refine Goes.pre (U' := T1.setTop (mkF m 46 #[.val (.ref d), .val (.int (Int32.ofNat i)), .val (.ref b), .val (.int (Int32.ofNat i)), .val (.int (Int32.ofNat cl.length)), .val (.int (Int32.ofNat i)), .unset] [(.int (Int32.ofNat cl.length))])) (fun t k => XS.icmpYes X1.here hx rfl (pc0 := 7) (pc' := 44) rfl (hb hby d12_7) rfl (flt hc7).2.1 (by decide) (by decide) (XS.iload X1.here hx rfl (hb hby d12_44) rfl k)) ?_
          refine Goes.ret X1 (v := (some (.int (Int32.ofNat cl.length)))) (fun h => by rw [hret] at h; cases h) hlk (by decide) (by decide) e1 (fun fs hr => retI X1 hx hret (hb hby d12_46) hr) ?_
          obtain rfl := own_nlti _ _ hc7 hi (Nat.le_trans hlen (by decide))
          rw [List.take_length] at V_b
          exact ⟨rfl, N1, K1, V_b⟩
      ·
        refine Goes.pre (U' := T1.setTop (mkF m 7 #[.val (.ref d), .val (.int (Int32.ofNat i)), .val (.ref b), .val (.int (Int32.ofNat i)), .val (.int (Int32.ofNat cl.length)), .val (.int (Int32.ofNat i)), .val (.int z6)] [(.int (Int32.ofNat cl.length)), (.int (Int32.ofNat i))])) (fun t k => XS.iload X1.here hx rfl (hb hby d12_3) rfl (XS.iload X1.here hx rfl (hb hby d12_5) rfl k)) ?_
        by_cases hc7 : (Int32.ofNat i) < (Int32.ofNat cl.length)
        ·
          refine Goes.pre (U' := T1.setTop (mkF m 12 #[.val (.ref d), .val (.int (Int32.ofNat i)), .val (.ref b), .val (.int (Int32.ofNat i)), .val (.int (Int32.ofNat cl.length)), .val (.int (Int32.ofNat i)), .val (.int z6)] [(.int (Int32.ofNat i)), (.ref d)])) (fun t k => XS.icmpNo X1.here hx rfl (hb hby d12_7) rfl (tlt hc7).2.1 (XS.aloadN X1.here hx rfl (hb hby d12_10) rfl rfl (XS.iloadN X1.here hx rfl (hb hby d12_11) rfl k))) ?_
          obtain ⟨cl4, Ar4, q4, Sz4, Ng4, Hs4, Ft4⟩ := id V_d
          have hin4 := inb_of (j := (Int32.ofNat i)) Sz4 (own_ix i _ (own_lti _ _ hc7 hi (Nat.le_trans hlen (by decide))) (Nat.le_trans hlen (by decide)))
          refine Goes.pre (U' := T1.setTop (mkF m 20 #[.val (.ref d), .val (.int (Int32.ofNat i)), .val (.ref b), .val (.int (Int32.ofNat i)), .val (.int (Int32.ofNat cl.length)), .val (.int (Int32.ofNat i)), .val (.int (cl.getD i 0))] [(.int (255 : Int32)), (.int (cl.getD i 0))])) (fun t k => X1.caload hx (j := (Int32.ofNat i)) (v := (.int (cl.getD i 0))) (by rw [e1]; exact Ar4.1) (State.isArrayOf_alike hZ.alike Ar4.2.1) Ar4.2.2 hin4 (Has.at Hs4 hin4 (own_getm cl i (own_lti _ _ hc7 hi (Nat.le_trans hlen (by decide))) (Nat.le_trans hlen (by decide)))) (g := (mkF m 12 #[.val (.ref d), .val (.int (Int32.ofNat i)), .val (.ref b), .val (.int (Int32.ofNat i)), .val (.int (Int32.ofNat cl.length)), .val (.int (Int32.ofNat i)), .val (.int z6)] [(.int (Int32.ofNat i)), (.ref d)])) rfl rfl (hb hby d12_12) _ (XS.istore X1.here hx rfl (hb hby d12_13) rfl (l' := #[.val (.ref d), .val (.int (Int32.ofNat i)), .val (.ref b), .val (.int (Int32.ofNat i)), .val (.int (Int32.ofNat cl.length)), .val (.int (Int32.ofNat i)), .val (.int (cl.getD i 0))]) rfl (XS.iload X1.here hx rfl (hb hby d12_15) rfl (XS.sipush X1.here hx rfl (hb hby d12_17) k)))) ?_
          have hc20 : ¬ ((255 : Int32) < (cl.getD i 0)) := hleA _ (own_gmem cl i (own_lti _ _ hc7 hi (Nat.le_trans hlen (by decide))))
          refine Goes.pre (U' := T1.setTop (mkF m 31 #[.val (.ref d), .val (.int (Int32.ofNat i)), .val (.ref b), .val (.int (Int32.ofNat i)), .val (.int (Int32.ofNat cl.length)), .val (.int (Int32.ofNat i)), .val (.int (cl.getD i 0))] [(.int ((cl.getD i 0).toInt8.toInt32)), (.int (Int32.ofNat i)), (.ref b)])) (fun t k => XS.icmpYes X1.here hx rfl (pc0 := 20) (pc' := 26) rfl (hb hby d12_20) rfl (flt hc20).2.2.2 (by decide) (by decide) (XS.aloadN X1.here hx rfl (hb hby d12_26) rfl rfl (XS.iloadN X1.here hx rfl (hb hby d12_27) rfl (XS.iload X1.here hx rfl (hb hby d12_28) rfl (XS.i2b X1.here hx rfl (hb hby d12_30) rfl k))))) ?_
          obtain ⟨cl5, Ar5, q5, Sz5, Ng5, Hs5, Ft5⟩ := id V_b
          obtain ⟨T5, h5, X5, e5, W5, st5⟩ := stB X1 hx hZ e1 Ar5 (j := (Int32.ofNat i)) (inb_of Sz5 (own_ix i _ (own_lti _ _ hc7 hi (Nat.le_trans hlen (by decide))) (Nat.le_trans hlen (by decide)))) (g := (mkF m 31 #[.val (.ref d), .val (.int (Int32.ofNat i)), .val (.ref b), .val (.int (Int32.ofNat i)), .val (.int (Int32.ofNat cl.length)), .val (.int (Int32.ofNat i)), .val (.int (cl.getD i 0))] [(.int ((cl.getD i 0).toInt8.toInt32)), (.int (Int32.ofNat i)), (.ref b)])) rfl rfl (hb hby d12_31)
          have nr5 : nar .byte ((cl.getD i 0).toInt8.toInt32) = ((cl.getD i 0).toInt8.toInt32) := own_bb _
          have ft5 : fits .byte (.int ((cl.getD i 0).toInt8.toInt32)) = true := nr5 ▸ (fits_nar_byte ((cl.getD i 0).toInt8.toInt32) : fits .byte (.int (nar .byte ((cl.getD i 0).toInt8.toInt32))) = true)
          rw [nr5] at W5
          have V_d := V_d.other W5 ne_d_b
          have Z5 : n0 ≤ h5.size := Nat.le_trans Z1 (Keep.of_wr W5).1
          have V_b : Arv Z h5 b kb .byte (Int32.ofNat cl.length) (((cl.take i).map fun c => .int c.toInt8.toInt32) ++ [.int ((cl.getD i 0).toInt8.toInt32)]) (.int (0 : Int32)) := own_push Ar5 q5 Sz5 Ng5 Hs5 Ft5 ft5 W5 (by rw [own_ixn i (Nat.le_trans hi (Nat.le_trans hlen (by decide))), List.length_map, List.length_take, Nat.min_eq_left hi])
          have K5 := K1.wr W5 (Or.inl (List.mem_of_getElem? (i := 0) rfl))
          have N5 := Fr.snoc X5 N1 g_b
          refine Goes.pre (U' := T5.setTop (mkF m 41 #[.val (.ref d), .val (.int ((Int32.ofNat i) + (1 : Int32))), .val (.ref b), .val (.int ((Int32.ofNat i) + (1 : Int32))), .val (.int (Int32.ofNat cl.length)), .val (.int ((Int32.ofNat i) + (1 : Int32))), .val (.int (cl.getD i 0))] [])) (fun t k => st5 t (XT.iincV X5.here hx rfl (1 : Int32) (hb hby d12_32) (by decide) rfl (l' := #[.val (.ref d), .val (.int ((Int32.ofNat i) + (1 : Int32))), .val (.ref b), .val (.int (Int32.ofNat i)), .val (.int (Int32.ofNat cl.length)), .val (.int (Int32.ofNat i)), .val (.int (cl.getD i 0))]) rfl (XT.iincV X5.here hx rfl (1 : Int32) (hb hby d12_35) (by decide) rfl (l' := #[.val (.ref d), .val (.int ((Int32.ofNat i) + (1 : Int32))), .val (.ref b), .val (.int ((Int32.ofNat i) + (1 : Int32))), .val (.int (Int32.ofNat cl.length)), .val (.int (Int32.ofNat i)), .val (.int (cl.getD i 0))]) rfl (XT.iincV X5.here hx rfl (1 : Int32) (hb hby d12_38) (by decide) rfl (l' := #[.val (.ref d), .val (.int ((Int32.ofNat i) + (1 : Int32))), .val (.ref b), .val (.int ((Int32.ofNat i) + (1 : Int32))), .val (.int (Int32.ofNat cl.length)), .val (.int ((Int32.ofNat i) + (1 : Int32))), .val (.int (cl.getD i 0))]) rfl k)))) ?_
          rw [own_inc]
          have V_b : Arv Z h5 b kb .byte (Int32.ofNat cl.length) ((cl.take (i + 1)).map fun c => .int c.toInt8.toInt32) (.int (0 : Int32)) := own_tkm (fun c => .int c.toInt8.toInt32) cl i (own_lti _ _ hc7 hi (Nat.le_trans hlen (by decide))) ▸ V_b
          refine Goes.pre (U' := T5.setTop (mkF m 3 #[.val (.ref d), .val (.int (Int32.ofNat (i + 1))), .val (.ref b), .val (.int (Int32.ofNat (i + 1))), .val (.int (Int32.ofNat cl.length)), .val (.int (Int32.ofNat (i + 1))), .val (.int (cl.getD i 0))] [])) (fun t k => XS.goto X5.here hx rfl (pc0 := 41) (pc' := 3) rfl (hb hby d12_41) (by decide) (by decide) k) ?_
          exact ih _ (by have := own_lti _ _ hc7 hi (Nat.le_trans hlen (by decide)); omega) (i + 1) _ (Or.inr ⟨_, rfl⟩) (own_lti _ _ hc7 hi (Nat.le_trans hlen (by decide))) rfl _ _ _ X5 e5 N5 Z5 K5 V_d V_b
        ·
          refine Goes.pre (U' := T1.setTop (mkF m 46 #[.val (.ref d), .val (.int (Int32.ofNat i)), .val (.ref b), .val (.int (Int32.ofNat i)), .val (.int (Int32.ofNat cl.length)), .val (.int (Int32.ofNat i)), .val (.int z6)] [(.int (Int32.ofNat cl.length))])) (fun t k => XS.icmpYes X1.here hx rfl (pc0 := 7) (pc' := 44) rfl (hb hby d12_7) rfl (flt hc7).2.1 (by decide) (by decide) (XS.iload X1.here hx rfl (hb hby d12_44) rfl k)) ?_
          refine Goes.ret X1 (v := (some (.int (Int32.ofNat cl.length)))) (fun h => by rw [hret] at h; cases h) hlk (by decide) (by decide) e1 (fun fs hr => retI X1 hx hret (hb hby d12_46) hr) ?_
          obtain rfl := own_nlti _ _ hc7 hi (Nat.le_trans hlen (by decide))
          rw [List.take_length] at V_b
          exact ⟨rfl, N1, K1, V_b⟩
  exact J3_1 _ 0 _ (Or.inl rfl) (Nat.zero_le _) rfl _ _ _ X0 e0 N0 Z0 K0 V_d V_b
theorem own_cap (n N : Nat) (hn : n ≤ 8192) (h : n ≤ N) : (Int32.ofNat n).toNatClampNeg ≤ N := by rw [own_ixn n hn]; exact h
theorem ef_rm_cmpG (m : MethodId) (x0 : Addr) (x1 : Int32) (x2 : Int32) : entryFrame m #[(.ref x0), (.int x1), (.int x2)] 6 = mkF m 0 #[.val (.ref x0), .val (.int x1), .val (.int x2), .unset, .unset, .unset] [] := by first | (simp [entryFrame, mkF, argsToLocals, Value.category]; done) | rfl
abbrev M11 : MethodName := ⟨"java/lang/StringUTF16", "compress", "([CII)[B"⟩
theorem d11_0 : decode jdk_52_method_16_code 0 = .ok (.iload_n 2, 1) := by decide +kernel
theorem d11_1 : decode jdk_52_method_16_code 1 = .ok (.newarray .byte, 2) := by decide +kernel
theorem d11_3 : decode jdk_52_method_16_code 3 = .ok (.astore_n 3, 1) := by decide +kernel
theorem d11_4 : decode jdk_52_method_16_code 4 = .ok (.aload_n 0, 1) := by decide +kernel
theorem d11_5 : decode jdk_52_method_16_code 5 = .ok (.iload_n 1, 1) := by decide +kernel
theorem d11_6 : decode jdk_52_method_16_code 6 = .ok (.aload_n 3, 1) := by decide +kernel
theorem d11_7 : decode jdk_52_method_16_code 7 = .ok (.iconst 0, 1) := by decide +kernel
theorem d11_8 : decode jdk_52_method_16_code 8 = .ok (.iload_n 2, 1) := by decide +kernel
theorem d11_9 : decode jdk_52_method_16_code 9 = .ok (.invokestatic 115, 3) := by decide +kernel
theorem pd__28_5bCI_5bBII_29I : parseMethodDescriptor "([CI[BII)I" = some ⟨[(.array .char), .int, (.array .byte), .int, .int], some .int⟩ := by decide +kernel
theorem d11_12 : decode jdk_52_method_16_code 12 = .ok (.istore 4, 2) := by decide +kernel
theorem d11_14 : decode jdk_52_method_16_code 14 = .ok (.iload 4, 2) := by decide +kernel
theorem d11_16 : decode jdk_52_method_16_code 16 = .ok (.iload_n 2, 1) := by decide +kernel
theorem d11_17 : decode jdk_52_method_16_code 17 = .ok (.if_icmp .eq 40, 3) := by decide +kernel
theorem d11_57 : decode jdk_52_method_16_code 57 = .ok (.aload_n 3, 1) := by decide +kernel
theorem d11_58 : decode jdk_52_method_16_code 58 = .ok (.areturn, 1) := by decide +kernel
def Q_rm_cmpG (Z : State) (d : Addr) (kd : ClassId) (cl : List Int32) (h0 : Heap) (n0 : Nat) (v : Option Value) (h : Heap) (L : List Loc) : Prop := ∃ (r : Addr) (kr : ClassId), v = some (.ref r) ∧ Fr n0 L ∧ Keep h0 h [] ∧ Arv Z h r kr .byte (Int32.ofNat cl.length) (cl.map fun c => .int c.toInt8.toInt32) (.int (0 : Int32)) ∧ n0 ≤ r ∧ h0.size ≤ r
set_option maxRecDepth 65536 in
set_option maxHeartbeats 40000000 in
theorem rm_cmpG (l : Launch) (Z : State) (a0 : Array Value) (hw : ∀ d ∈ tables_1, d.before a0 Z = true) (ws : List Jvm.Cond) (d : Addr) (kd : ClassId) (cl : List Int32) (h0 : Heap) (n0 : Nat) (Z0 : n0 ≤ h0.size) (V_d : Arv Z h0 d kd .char (Int32.ofNat cl.length) (cl.map Value.int) (.int (0 : Int32))) (hlen : cl.length ≤ 26) (hleA : ∀ c ∈ cl, ¬ ((255 : Int32) < c)) :
    Met l Z M11 jdk_52_method_16_code 6 (some (.array .byte)) ws (Rm 1 1 26 18) #[(.ref d), (.int (0 : Int32)), (.int (Int32.ofNat cl.length))] h0 (Q_rm_cmpG Z d kd cl h0 n0) := by
  refine met_of (plainFor_of_name pn_java_lang_StringUTF16) (own := "java/lang/StringUTF16") rfl (fun m => ef_rm_cmpG m d (0 : Int32) (Int32.ofNat cl.length)) ?_
  intro p e s m below meth c s₁ hx hby hml hown hnm hZ X0 e0 hret hlk
  have N0 := Fr.nil n0
  have K0 := Keep.refl h0 []
  show Goes p e below s _ _ _ (s₁.setTop (mkF m 0 #[.val (.ref d), .val (.int (0 : Int32)), .val (.int (Int32.ofNat cl.length)), .unset, .unset, .unset] []))
  refine Goes.pre (U' := s₁.setTop (mkF m 1 #[.val (.ref d), .val (.int (0 : Int32)), .val (.int (Int32.ofNat cl.length)), .unset, .unset, .unset] [(.int (Int32.ofNat cl.length))])) (fun t k => XS.iloadN X0.here hx rfl (hb hby d11_0) rfl k) ?_
  obtain ⟨T1, h1, k1, X1, e1, E1, A1, B1, st1⟩ := newPE X0 hx hZ (wq hw 9 rfl) e0 (g := (mkF m 1 #[.val (.ref d), .val (.int (0 : Int32)), .val (.int (Int32.ofNat cl.length)), .unset, .unset, .unset] [(.int (Int32.ofNat cl.length))])) rfl (hb hby d11_1) rfl (own_neg _ (Nat.le_trans hlen (by decide))) (cap := 26) (own_cap _ _ (Nat.le_trans hlen (by decide)) hlen) (by decide) (by decide) (by decide) (ad := "[B") (by decide)
  obtain ⟨nb1, g1⟩ : ∃ z, z = h0.size := ⟨_, rfl⟩
  rw [← g1] at A1 B1 st1
  have ne_d_nb1 : d ≠ nb1 := Nat.ne_of_lt (Nat.lt_of_lt_of_le V_d.lt (Nat.le_of_eq g1.symm))
  have ne_nb1_d := ne_d_nb1.symm
  have g_nb1 : n0 ≤ nb1 := Nat.le_trans Z0 (Nat.le_of_eq g1.symm)
  have sz_nb1 : h0.size ≤ nb1 := Nat.le_trans K0.1 (Nat.le_of_eq g1.symm)
  have V_d := V_d.ext E1
  have Z1 : n0 ≤ h1.size := Nat.le_trans Z0 E1.1
  have K1 := K0.ext E1
  have E_nb1 := B1
  have V_nb1 : Arv Z h1 nb1 k1 .byte (Int32.ofNat cl.length) [] (.int (0 : Int32)) := Arv.new A1 (own_neg _ (Nat.le_trans hlen (by decide)))
  refine Goes.pre (U' := T1.setTop (mkF m 9 #[.val (.ref d), .val (.int (0 : Int32)), .val (.int (Int32.ofNat cl.length)), .val (.ref nb1), .unset, .unset] [(.int (Int32.ofNat cl.length)), (.int (0 : Int32)), (.ref nb1), (.int (0 : Int32)), (.ref d)])) (fun t k => st1 t (XS.astoreN X1.here hx rfl (hb hby d11_3) rfl rfl (l' := #[.val (.ref d), .val (.int (0 : Int32)), .val (.int (Int32.ofNat cl.length)), .val (.ref nb1), .unset, .unset]) rfl (XS.aloadN X1.here hx rfl (hb hby d11_4) rfl rfl (XS.iloadN X1.here hx rfl (hb hby d11_5) rfl (XS.aloadN X1.here hx rfl (hb hby d11_6) rfl rfl (XS.iconst X1.here hx rfl (hb hby d11_7) (XS.iloadN X1.here hx rfl (hb hby d11_8) rfl k))))))) ?_
  obtain ⟨_, _, ⟨T2, L2, k2, n2⟩, -, X2, ⟨Lc2, hQ2, l2, y2, z2⟩, st2⟩ := Jvm.LawKit.callS X1 hx (y := (⟨"java/lang/StringUTF16", "compress", "([CI[BII)I"⟩ : MethodName)) hown (mvT hZ (wq hw 58 rfl)) (mvT hZ (wq hw 59 rfl)) (mvT hZ (wq hw 56 rfl)) (mvT hZ (wq hw 60 rfl)) (by decide) (backOf (W := 0) (rm_cmpIG l Z a0 hw [] d kd nb1 k1 cl h1 n0 Z1 V_d V_nb1 hlen hleA ne_d_nb1 g_nb1) hZ (wq hw 60 rfl) (wq hw 56 rfl) (by decide) (by decide)) (g := (mkF m 9 #[.val (.ref d), .val (.int (0 : Int32)), .val (.int (Int32.ofNat cl.length)), .val (.ref nb1), .unset, .unset] [(.int (Int32.ofNat cl.length)), (.int (0 : Int32)), (.ref nb1), (.int (0 : Int32)), (.ref d)])) rfl (by rw [hml]; rfl) (argsL := [(.ref d), (.int (0 : Int32)), (.ref nb1), (.int (0 : Int32)), (.int (Int32.ofNat cl.length))]) (rest := []) (lenOf pd__28_5bCI_5bBII_29I rfl) rfl (by show 2 * 0 + _ ≤ _; exact Nat.le_of_eq rfl) (hb hby d11_9) (fun _ _ => ⟨rfl, e1, (by decide : 1 + 0 ≤ _), (by decide : 26 + 0 ≤ _)⟩)
  dsimp only [Pt.U, Pt.locs, Pt.cells, Pt.slots] at X2 l2 y2 z2 st2 hQ2
  rw [l2, y2, z2] at X2
  obtain ⟨rfl, N2q, KQ2, fo0_2⟩ := hQ2
  have N2 := Fr.app N0 N2q
  have V_d := V_d.keep KQ2 (ninS ne_d_nb1 nin0)
  have E_nb1 := E_nb1.keep KQ2
  have Z3 : n0 ≤ T2.heap.size := Nat.le_trans Z1 KQ2.1
  have K3 := K1.trans KQ2 (allS (P := fun x => x ∈ [] ∨ h0.size ≤ x) (Or.inr sz_nb1) all0)
  have V_nb1 := fo0_2
  refine Goes.pre (U' := T2.setTop (mkF m 17 #[.val (.ref d), .val (.int (0 : Int32)), .val (.int (Int32.ofNat cl.length)), .val (.ref nb1), .val (.int (Int32.ofNat cl.length)), .unset] [(.int (Int32.ofNat cl.length)), (.int (Int32.ofNat cl.length))])) (fun t k => st2 t (XS.istore X2.here hx rfl (hb hby d11_12) rfl (l' := #[.val (.ref d), .val (.int (0 : Int32)), .val (.int (Int32.ofNat cl.length)), .val (.ref nb1), .val (.int (Int32.ofNat cl.length)), .unset]) rfl (XS.iload X2.here hx rfl (hb hby d11_14) rfl (XS.iloadN X2.here hx rfl (hb hby d11_16) rfl k)))) ?_
  have hc17 : (Int32.ofNat cl.length) = (Int32.ofNat cl.length) := rfl
  refine Goes.pre (U' := T2.setTop (mkF m 58 #[.val (.ref d), .val (.int (0 : Int32)), .val (.int (Int32.ofNat cl.length)), .val (.ref nb1), .val (.int (Int32.ofNat cl.length)), .unset] [(.ref nb1)])) (fun t k => XS.icmpYes X2.here hx rfl (pc0 := 17) (pc' := 57) rfl (hb hby d11_17) rfl (teq hc17).1 (by decide) (by decide) (XS.aloadN X2.here hx rfl (hb hby d11_57) rfl rfl k)) ?_
  refine Goes.ret X2 (v := (some (.ref nb1))) (fun h => by rw [hret] at h; cases h) hlk (by decide) (by decide) rfl (fun fs hr => retOut X2 hx hret rfl (Or.inr (Or.inr (Or.inr (Or.inr ⟨rfl, rfl, rfl⟩)))) (hb hby d11_58) hr) ?_
  exact ⟨nb1, k1, rfl, N2, K3, V_nb1, g_nb1, sz_nb1⟩
theorem ef_rm_cflG0 (m : MethodId) (x0 : Addr) (x1 : Int32) : entryFrame m #[(.ref x0), (.int x1)] 2 = mkF m 0 #[.val (.ref x0), .val (.int x1)] [] := by first | (simp [entryFrame, mkF, argsToLocals, Value.category]; done) | rfl
abbrev M13 : MethodName := ⟨"java/lang/StringUTF16", "coderFromArrayLen", "([BI)B"⟩
theorem d13_0 : decode jdk_52_method_15_code 0 = .ok (.iload_n 1, 1) := by decide +kernel
theorem d13_1 : decode jdk_52_method_15_code 1 = .ok (.aload_n 0, 1) := by decide +kernel
theorem d13_2 : decode jdk_52_method_15_code 2 = .ok (.arraylength, 1) := by decide +kernel
theorem d13_3 : decode jdk_52_method_15_code 3 = .ok (.isub, 1) := by decide +kernel
theorem d13_4 : decode jdk_52_method_15_code 4 = .ok (.bipush 31, 2) := by decide +kernel
theorem d13_6 : decode jdk_52_method_15_code 6 = .ok (.iushr, 1) := by decide +kernel
theorem d13_7 : decode jdk_52_method_15_code 7 = .ok (.i2b, 1) := by decide +kernel
theorem d13_8 : decode jdk_52_method_15_code 8 = .ok (.ireturn, 1) := by decide +kernel
def Q_rm_cflG0 (Z : State) (b : Addr) (kb : ClassId) (cl : List Int32) (h0 : Heap) (n0 : Nat) (v : Option Value) (h : Heap) (L : List Loc) : Prop := v = some (.int (0 : Int32)) ∧ Fr n0 L ∧ h = h0
set_option maxRecDepth 65536 in
set_option maxHeartbeats 40000000 in
theorem rm_cflG0 (l : Launch) (Z : State) (a0 : Array Value) (hw : ∀ d ∈ tables_1, d.before a0 Z = true) (ws : List Jvm.Cond) (b : Addr) (kb : ClassId) (cl : List Int32) (h0 : Heap) (n0 : Nat) (Z0 : n0 ≤ h0.size) (V_b : Arv Z h0 b kb .byte (Int32.ofNat cl.length) (cl.map fun c => .int c.toInt8.toInt32) (.int (0 : Int32))) :
    Met l Z M13 jdk_52_method_15_code 2 (some .byte) ws (Rm 0 0 0 0) #[(.ref b), (.int (Int32.ofNat cl.length))] h0 (Q_rm_cflG0 Z b kb cl h0 n0) := by
  refine met_of (plainFor_of_name pn_java_lang_StringUTF16) (own := "java/lang/StringUTF16") rfl (fun m => ef_rm_cflG0 m b (Int32.ofNat cl.length)) ?_
  intro p e s m below meth c s₁ hx hby hml hown hnm hZ X0 e0 hret hlk
  have N0 := Fr.nil n0
  show Goes p e below s _ _ _ (s₁.setTop (mkF m 0 #[.val (.ref b), .val (.int (Int32.ofNat cl.length))] []))
  refine Goes.pre (U' := s₁.setTop (mkF m 2 #[.val (.ref b), .val (.int (Int32.ofNat cl.length))] [(.ref b), (.int (Int32.ofNat cl.length))])) (fun t k => XS.iloadN X0.here hx rfl (hb hby d13_0) rfl (XS.aloadN X0.here hx rfl (hb hby d13_1) rfl rfl k)) ?_
  obtain ⟨cl1, Ar1, q1, Sz1, Ng1, -, -⟩ := id V_b
  have ln1 := len_of Sz1 Ng1
  refine Goes.pre (U' := s₁.setTop (mkF m 8 #[.val (.ref b), .val (.int (Int32.ofNat cl.length))] [(.int (((((Int32.ofNat cl.length) - (Int32.ofNat cl.length)).toUInt32 >>> ((31 : Int32) &&& 31).toUInt32).toInt32).toInt8.toInt32))])) (fun t k => X0.arraylength hx (by rw [e0]; exact Ar1.1) (State.isArrayOf_alike hZ.alike Ar1.2.1) (g := (mkF m 2 #[.val (.ref b), .val (.int (Int32.ofNat cl.length))] [(.ref b), (.int (Int32.ofNat cl.length))])) rfl rfl (hb hby d13_2) _ (by rw [ln1]; exact (XS.isub X0.here hx rfl (hb hby d13_3) rfl (XS.bipush X0.here hx rfl (hb hby d13_4) (XS.iushr X0.here hx rfl (hb hby d13_6) rfl (XS.i2b X0.here hx rfl (hb hby d13_7) rfl k)))))) ?_
  refine Goes.ret X0 (v := (some (.int (0 : Int32)))) (fun h => by rw [hret] at h; cases h) hlk (by decide) (by decide) e0 (fun fs hr => retN X0 hx (t := .byte) hret (by simp) (hb hby d13_8) (by rw [show nar .byte (((((Int32.ofNat cl.length) - (Int32.ofNat cl.length)).toUInt32 >>> ((31 : Int32) &&& 31).toUInt32).toInt32).toInt8.toInt32) = (0 : Int32) from own_c0]; exact hr)) ?_
  exact ⟨rfl, N0, rfl⟩
theorem ef_rm_init4G (m : MethodId) (x0 : Addr) (x1 : Addr) (x2 : Int32) (x3 : Int32) : entryFrame m #[(.ref x0), (.ref x1), (.int x2), (.int x3), .null] 6 = mkF m 0 #[.val (.ref x0), .val (.ref x1), .val (.int x2), .val (.int x3), .val .null, .unset] [] := by first | (simp [entryFrame, mkF, argsToLocals, Value.category]; done) | rfl
abbrev M9 : MethodName := ⟨"java/lang/String", "<init>", "([CIILjava/lang/Void;)V"⟩
theorem d9_0 : decode jdk_42_method_149_code 0 = .ok (.aload_n 0, 1) := by decide +kernel
theorem d9_1 : decode jdk_42_method_149_code 1 = .ok (.invokespecial 1, 3) := by decide +kernel
theorem d9_4 : decode jdk_42_method_149_code 4 = .ok (.iload_n 3, 1) := by decide +kernel
theorem d9_5 : decode jdk_42_method_149_code 5 = .ok (.ifCond .ne 22, 3) := by decide +kernel
theorem d9_27 : decode jdk_42_method_149_code 27 = .ok (.getstatic 38, 3) := by decide +kernel
theorem d9_30 : decode jdk_42_method_149_code 30 = .ok (.ifCond .eq 28, 3) := by decide +kernel
theorem d9_33 : decode jdk_42_method_149_code 33 = .ok (.aload_n 1, 1) := by decide +kernel
theorem d9_34 : decode jdk_42_method_149_code 34 = .ok (.iload_n 2, 1) := by decide +kernel
theorem d9_35 : decode jdk_42_method_149_code 35 = .ok (.iload_n 3, 1) := by decide +kernel
theorem d9_36 : decode jdk_42_method_149_code 36 = .ok (.invokestatic 177, 3) := by decide +kernel
theorem pd__28_5bCII_29_5bB : parseMethodDescriptor "([CII)[B" = some ⟨[(.array .char), .int, .int], some (.array .byte)⟩ := by decide +kernel
theorem d9_39 : decode jdk_42_method_149_code 39 = .ok (.astore 5, 2) := by decide +kernel
theorem d9_41 : decode jdk_42_method_149_code 41 = .ok (.aload_n 0, 1) := by decide +kernel
theorem d9_42 : decode jdk_42_method_149_code 42 = .ok (.aload 5, 2) := by decide +kernel
theorem d9_44 : decode jdk_42_method_149_code 44 = .ok (.iload_n 3, 1) := by decide +kernel
theorem d9_45 : decode jdk_42_method_149_code 45 = .ok (.invokestatic 47, 3) := by decide +kernel
theorem pd__28_5bBI_29B : parseMethodDescriptor "([BI)B" = some ⟨[(.array .byte), .int], some .byte⟩ := by decide +kernel
theorem d9_48 : decode jdk_42_method_149_code 48 = .ok (.putfield 15, 3) := by decide +kernel
theorem d9_51 : decode jdk_42_method_149_code 51 = .ok (.aload_n 0, 1) := by decide +kernel
theorem d9_52 : decode jdk_42_method_149_code 52 = .ok (.aload 5, 2) := by decide +kernel
theorem d9_54 : decode jdk_42_method_149_code 54 = .ok (.putfield 9, 3) := by decide +kernel
theorem d9_57 : decode jdk_42_method_149_code 57 = .ok (.return_, 1) := by decide +kernel
def Q_rm_init4G (Z : State) (a : Addr) (d : Addr) (kd : ClassId) (cl : List Int32) (cs : Int32) (h0 : Heap) (n0 : Nat) (v : Option Value) (h : Heap) (L : List Loc) : Prop := ∃ (b : Addr) (kb : ClassId), v = none ∧ Fr n0 L ∧ Keep h0 h [a] ∧ OwnStr Z h a b kb cl ∧ n0 ≤ b ∧ h0.size ≤ b
set_option maxRecDepth 65536 in
set_option maxHeartbeats 40000000 in
theorem rm_init4G (l : Launch) (Z : State) (a0 : Array Value) (hw : ∀ d ∈ tables_1, d.before a0 Z = true) (ws : List Jvm.Cond) (a : Addr) (d : Addr) (kd : ClassId) (cl : List Int32) (cs : Int32) (h0 : Heap) (n0 : Nat) (Z0 : n0 ≤ h0.size) (E_a : Exa Z h0 a "java/lang/String") (F_value_a : Fld Z h0 a "java/lang/String" "value" "[B" .null) (F_coder_a : Fld Z h0 a "java/lang/String" "coder" "B" (.int (0 : Int32))) (V_d : Arv Z h0 d kd .char (Int32.ofNat cl.length) (cl.map Value.int) (.int (0 : Int32))) (S_COMPACT_STRINGS : Sta Z Z.heap "java/lang/String" "COMPACT_STRINGS" "Z" (.int cs)) (hlen : cl.length ≤ 26) (hcA : ∀ c ∈ cl, OwnCh c) (hleA : ∀ c ∈ cl, ¬ ((255 : Int32) < c)) (hne : cl ≠ []) (hcs : ¬ (cs = (0 : Int32))) (ne_d_a : d ≠ a) (g_a : n0 ≤ a) (O : Old Z n0 h0) :
    Met l Z M9 jdk_42_method_149_code 6 none ws (Rm 2 1 26 35) #[(.ref a), (.ref d), (.int (0 : Int32)), (.int (Int32.ofNat cl.length)), .null] h0 (Q_rm_init4G Z a d kd cl cs h0 n0) := by
  refine met_of (plainFor_of_name pn_java_lang_String) (own := "java/lang/String") rfl (fun m => ef_rm_init4G m a d (0 : Int32) (Int32.ofNat cl.length)) ?_
  intro p e s m below meth c s₁ hx hby hml hown hnm hZ X0 e0 hret hlk
  have N0 := Fr.nil n0
  have K0 := Keep.refl h0 [a]
  show Goes p e below s _ _ _ (s₁.setTop (mkF m 0 #[.val (.ref a), .val (.ref d), .val (.int (0 : Int32)), .val (.int (Int32.ofNat cl.length)), .val .null, .unset] []))
  refine Goes.pre (U' := s₁.setTop (mkF m 1 #[.val (.ref a), .val (.ref d), .val (.int (0 : Int32)), .val (.int (Int32.ofNat cl.length)), .val .null, .unset] [(.ref a)])) (fun t k => XS.aloadN X0.here hx rfl (hb hby d9_0) rfl rfl k) ?_
  obtain ⟨T1, X1, e1, st1⟩ := initO X0 hx hZ hown (wq hw 51 rfl) (wq hw 52 rfl) (wq hw 53 rfl) e0 (g := (mkF m 1 #[.val (.ref a), .val (.ref d), .val (.int (0 : Int32)), .val (.int (Int32.ofNat cl.length)), .val .null, .unset] [(.ref a)])) rfl (by rw [hml]; rfl) rfl (hb hby d9_1) (by decide) (W := 0) (by show 2 * 0 + _ ≤ _; exact Nat.le_of_eq rfl) (by decide)
  refine Goes.pre (U' := T1.setTop (mkF m 5 #[.val (.ref a), .val (.ref d), .val (.int (0 : Int32)), .val (.int (Int32.ofNat cl.length)), .val .null, .unset] [(.int (Int32.ofNat cl.length))])) (fun t k => st1 t (XS.iloadN X1.here hx rfl (hb hby d9_4) rfl k)) ?_
  have hc5 : ¬ ((Int32.ofNat cl.length) = (0 : Int32)) := own_ne0 cl hne (Nat.le_trans hlen (by decide))
  refine Goes.pre (U' := T1.setTop (mkF m 27 #[.val (.ref a), .val (.ref d), .val (.int (0 : Int32)), .val (.int (Int32.ofNat cl.length)), .val .null, .unset] [])) (fun t k => XS.ifYes X1.here hx rfl (pc0 := 5) (pc' := 27) rfl (hb hby d9_5) rfl ((if0 _ _).trans (feq hc5).2) (by decide) (by decide) k) ?_
  obtain ⟨T2, X2, e2, st2⟩ := getS2 X1 hx hZ hown (host := "") (Or.inl (wq hw 24 rfl)) Via.refl e1 (S_COMPACT_STRINGS.ext O.2) (g := (mkF m 27 #[.val (.ref a), .val (.ref d), .val (.int (0 : Int32)), .val (.int (Int32.ofNat cl.length)), .val .null, .unset] [])) rfl (hb hby d9_27)
  refine Goes.pre (U' := T2.setTop (mkF m 30 #[.val (.ref a), .val (.ref d), .val (.int (0 : Int32)), .val (.int (Int32.ofNat cl.length)), .val .null, .unset] [(.int cs)])) (fun t k => st2 t k) ?_
  have hc30 : ¬ (cs = (0 : Int32)) := hcs
  refine Goes.pre (U' := T2.setTop (mkF m 36 #[.val (.ref a), .val (.ref d), .val (.int (0 : Int32)), .val (.int (Int32.ofNat cl.length)), .val .null, .unset] [(.int (Int32.ofNat cl.length)), (.int (0 : Int32)), (.ref d)])) (fun t k => XS.ifNo X2.here hx rfl (hb hby d9_30) rfl ((if0 _ _).trans (feq hc30).1) (XS.aloadN X2.here hx rfl (hb hby d9_33) rfl rfl (XS.iloadN X2.here hx rfl (hb hby d9_34) rfl (XS.iloadN X2.here hx rfl (hb hby d9_35) rfl k)))) ?_
  have lt_a := E_a.lt
  have lt_d := V_d.lt
  obtain ⟨_, _, ⟨T3, L3, k3, n3⟩, -, X3, ⟨Lc3, hQ3, l3, y3, z3⟩, st3⟩ := Jvm.LawKit.callS X2 hx (y := (⟨"java/lang/StringUTF16", "compress", "([CII)[B"⟩ : MethodName)) hown (mvT hZ (wq hw 54 rfl)) (mvT hZ (wq hw 55 rfl)) (mvT hZ (wq hw 56 rfl)) (mvT hZ (wq hw 57 rfl)) (by decide) (backOf (W := 0) (rm_cmpG l Z a0 hw [] d kd cl h0 n0 Z0 V_d hlen hleA) hZ (wq hw 57 rfl) (wq hw 56 rfl) (by decide) (by decide)) (g := (mkF m 36 #[.val (.ref a), .val (.ref d), .val (.int (0 : Int32)), .val (.int (Int32.ofNat cl.length)), .val .null, .unset] [(.int (Int32.ofNat cl.length)), (.int (0 : Int32)), (.ref d)])) rfl (by rw [hml]; rfl) (argsL := [(.ref d), (.int (0 : Int32)), (.int (Int32.ofNat cl.length))]) (rest := []) (lenOf pd__28_5bCII_29_5bB rfl) rfl (by show 2 * 0 + _ ≤ _; exact Nat.le_of_eq rfl) (hb hby d9_36) (fun _ _ => ⟨rfl, e2, (by decide : 0 + 1 ≤ _), (by decide : 0 + 26 ≤ _)⟩)
  dsimp only [Pt.U, Pt.locs, Pt.cells, Pt.slots] at X3 l3 y3 z3 st3 hQ3
  rw [l3, y3, z3] at X3
  obtain ⟨r3, kr3, rfl, N3q, KQ3, fo0_3, g_r3, sl_r3⟩ := hQ3
  have N3 := Fr.app N0 N3q
  have E_a := E_a.keep KQ3
  have F_value_a := F_value_a.keep KQ3 nin0
  have F_coder_a := F_coder_a.keep KQ3 nin0
  have V_d := V_d.keep KQ3 nin0
  have Z4 : n0 ≤ T3.heap.size := Nat.le_trans Z0 KQ3.1
  have O := O.keep KQ3 all0
  have K4 := K0.trans KQ3 all0
  have ne_a_r3 : a ≠ r3 := Nat.ne_of_lt (Nat.lt_of_lt_of_le lt_a sl_r3)
  have ne_r3_a := ne_a_r3.symm
  have ne_d_r3 : d ≠ r3 := Nat.ne_of_lt (Nat.lt_of_lt_of_le lt_d sl_r3)
  have ne_r3_d := ne_d_r3.symm
  have sz_r3 : h0.size ≤ r3 := Nat.le_trans K0.1 sl_r3
  have V_r3 := fo0_3
  refine Goes.pre (U' := T3.setTop (mkF m 45 #[.val (.ref a), .val (.ref d), .val (.int (0 : Int32)), .val (.int (Int32.ofNat cl.length)), .val .null, .val (.ref r3)] [(.int (Int32.ofNat cl.length)), (.ref r3), (.ref a)])) (fun t k => st3 t (XS.astore X3.here hx rfl (hb hby d9_39) rfl rfl (l' := #[.val (.ref a), .val (.ref d), .val (.int (0 : Int32)), .val (.int (Int32.ofNat cl.length)), .val .null, .val (.ref r3)]) rfl (XS.aloadN X3.here hx rfl (hb hby d9_41) rfl rfl (XS.aload X3.here hx rfl (hb hby d9_42) rfl rfl (XS.iloadN X3.here hx rfl (hb hby d9_44) rfl k))))) ?_
  obtain ⟨_, _, ⟨T5, L5, k5, n5⟩, -, X5, ⟨Lc5, hQ5, l5, y5, z5⟩, st5⟩ := Jvm.LawKit.callS X3 hx (y := (⟨"java/lang/StringUTF16", "coderFromArrayLen", "([BI)B"⟩ : MethodName)) hown (mvT hZ (wq hw 61 rfl)) (mvT hZ (wq hw 62 rfl)) (mvT hZ (wq hw 56 rfl)) (mvT hZ (wq hw 63 rfl)) (by decide) (backOf (W := 1) (rm_cflG0 l Z a0 hw [] r3 kr3 cl T3.heap n0 Z4 V_r3) hZ (wq hw 63 rfl) (wq hw 56 rfl) (by decide) (by decide)) (g := (mkF m 45 #[.val (.ref a), .val (.ref d), .val (.int (0 : Int32)), .val (.int (Int32.ofNat cl.length)), .val .null, .val (.ref r3)] [(.int (Int32.ofNat cl.length)), (.ref r3), (.ref a)])) rfl (by rw [hml]; rfl) (argsL := [(.ref r3), (.int (Int32.ofNat cl.length))]) (rest := [(.ref a)]) (lenOf pd__28_5bBI_29B rfl) rfl (by show 2 * 0 + _ ≤ _; exact Nat.le_of_eq rfl) (hb hby d9_45) (fun _ _ => ⟨rfl, rfl, (by decide : 1 + 0 ≤ _), (by decide : 26 + 0 ≤ _)⟩)
  dsimp only [Pt.U, Pt.locs, Pt.cells, Pt.slots] at X5 l5 y5 z5 st5 hQ5
  rw [l5, y5, z5] at X5
  obtain ⟨rfl, N5q, HQ5⟩ := hQ5
  have N5 := Fr.app N3 N5q
  refine Goes.pre (U' := T5.setTop (mkF m 48 #[.val (.ref a), .val (.ref d), .val (.int (0 : Int32)), .val (.int (Int32.ofNat cl.length)), .val .null, .val (.ref r3)] [(.int (0 : Int32)), (.ref a)])) (fun t k => st5 t k) ?_
  obtain ⟨T6, h6, X6, e6, W6, st6⟩ := putFN X5 hx hZ hown (wq hw 25 rfl) Via.refl HQ5 F_coder_a E_a (Or.inr ⟨(wq hw 11 rfl), rfl, hnm⟩) (wq hw 8 rfl) (ty := .byte) (v' := (.int (0 : Int32))) (by decide) rfl (by decide) (g := (mkF m 48 #[.val (.ref a), .val (.ref d), .val (.int (0 : Int32)), .val (.int (Int32.ofNat cl.length)), .val .null, .val (.ref r3)] [(.int (0 : Int32)), (.ref a)])) rfl rfl (hb hby d9_48)
  have E_a := E_a.wr W6
  have F_value_a := F_value_a.other W6 (Or.inr (slot_ne (Or.inr (wq hw 10 rfl)) (Or.inr (wq hw 11 rfl)) (by decide) (t := (.array .byte)) (t' := .byte) (by decide) (by decide)))
  have V_d := V_d.other W6 ne_d_a
  have V_r3 := V_r3.other W6 ne_r3_a
  have Z6 : n0 ≤ h6.size := Nat.le_trans Z4 (Keep.of_wr W6).1
  have O := O.wr W6 g_a
  have F_coder_a := F_coder_a.same W6
  have K6 := K4.wr W6 (Or.inl (List.mem_of_getElem? (i := 0) rfl))
  have N6 := Fr.snoc X6 N5 g_a
  refine Goes.pre (U' := T6.setTop (mkF m 54 #[.val (.ref a), .val (.ref d), .val (.int (0 : Int32)), .val (.int (Int32.ofNat cl.length)), .val .null, .val (.ref r3)] [(.ref r3), (.ref a)])) (fun t k => st6 t (XS.aloadN X6.here hx rfl (hb hby d9_51) rfl rfl (XS.aload X6.here hx rfl (hb hby d9_52) rfl rfl k))) ?_
  obtain ⟨T7, h7, X7, e7, W7, st7⟩ := putF X6 hx hZ hown (host := "") (Or.inl (wq hw 26 rfl)) Via.refl e6 F_value_a E_a (Or.inr ⟨(wq hw 10 rfl), rfl, hnm⟩) (wq hw 8 rfl) (ty := (.array .byte)) (by decide) rfl rfl (g := (mkF m 54 #[.val (.ref a), .val (.ref d), .val (.int (0 : Int32)), .val (.int (Int32.ofNat cl.length)), .val .null, .val (.ref r3)] [(.ref r3), (.ref a)])) rfl rfl (hb hby d9_54)
  have E_a := E_a.wr W7
  have F_coder_a := F_coder_a.other W7 (Or.inr (slot_ne (Or.inr (wq hw 11 rfl)) (Or.inr (wq hw 10 rfl)) (by decide) (t := .byte) (t' := (.array .byte)) (by decide) (by decide)))
  have V_d := V_d.other W7 ne_d_a
  have V_r3 := V_r3.other W7 ne_r3_a
  have Z7 : n0 ≤ h7.size := Nat.le_trans Z6 (Keep.of_wr W7).1
  have O := O.wr W7 g_a
  have F_value_a := F_value_a.same W7
  have K7 := K6.wr W7 (Or.inl (List.mem_of_getElem? (i := 0) rfl))
  have N7 := Fr.snoc X7 N6 g_a
  refine Goes.pre (U' := T7.setTop (mkF m 57 #[.val (.ref a), .val (.ref d), .val (.int (0 : Int32)), .val (.int (Int32.ofNat cl.length)), .val .null, .val (.ref r3)] [])) (fun t k => st7 t k) ?_
  refine Goes.ret X7 (v := none) (fun _ => rfl) hlk (by decide) (by decide) e7 (fun fs hr => X7.returnOut hx hret (hb hby d9_57) hr) ?_
  exact ⟨r3, kr3, rfl, N7, K7, ⟨E_a, F_value_a, hcA, F_coder_a, V_r3, hleA⟩, g_r3, sz_r3⟩
theorem ef_rm_init1G (m : MethodId) (x0 : Addr) (x1 : Addr) : entryFrame m #[(.ref x0), (.ref x1)] 2 = mkF m 0 #[.val (.ref x0), .val (.ref x1)] [] := by first | (simp [entryFrame, mkF, argsToLocals, Value.category]; done) | rfl
abbrev M8 : MethodName := ⟨"java/lang/String", "<init>", "([C)V"⟩
theorem d8_0 : decode jdk_42_method_3_code 0 = .ok (.aload_n 0, 1) := by decide +kernel
theorem d8_1 : decode jdk_42_method_3_code 1 = .ok (.aload_n 1, 1) := by decide +kernel
theorem d8_2 : decode jdk_42_method_3_code 2 = .ok (.iconst 0, 1) := by decide +kernel
theorem d8_3 : decode jdk_42_method_3_code 3 = .ok (.aload_n 1, 1) := by decide +kernel
theorem d8_4 : decode jdk_42_method_3_code 4 = .ok (.arraylength, 1) := by decide +kernel
theorem d8_5 : decode jdk_42_method_3_code 5 = .ok (.aconst_null, 1) := by decide +kernel
theorem d8_6 : decode jdk_42_method_3_code 6 = .ok (.invokespecial 27, 3) := by decide +kernel
theorem pd__28_5bCIILjava_2flang_2fVoid_3b_29V : parseMethodDescriptor "([CIILjava/lang/Void;)V" = some ⟨[(.array .char), .int, .int, (.object "java/lang/Void")], none⟩ := by decide +kernel
theorem d8_9 : decode jdk_42_method_3_code 9 = .ok (.return_, 1) := by decide +kernel
def Q_rm_init1G (Z : State) (a : Addr) (d : Addr) (kd : ClassId) (cl : List Int32) (cs : Int32) (h0 : Heap) (n0 : Nat) (v : Option Value) (h : Heap) (L : List Loc) : Prop := ∃ (b : Addr) (kb : ClassId), v = none ∧ Fr n0 L ∧ Keep h0 h [a] ∧ OwnStr Z h a b kb cl ∧ n0 ≤ b ∧ h0.size ≤ b
set_option maxRecDepth 65536 in
set_option maxHeartbeats 40000000 in
theorem rm_init1G (l : Launch) (Z : State) (a0 : Array Value) (hw : ∀ d ∈ tables_1, d.before a0 Z = true) (ws : List Jvm.Cond) (a : Addr) (d : Addr) (kd : ClassId) (cl : List Int32) (cs : Int32) (h0 : Heap) (n0 : Nat) (Z0 : n0 ≤ h0.size) (E_a : Exa Z h0 a "java/lang/String") (F_value_a : Fld Z h0 a "java/lang/String" "value" "[B" .null) (F_coder_a : Fld Z h0 a "java/lang/String" "coder" "B" (.int (0 : Int32))) (V_d : Arv Z h0 d kd .char (Int32.ofNat cl.length) (cl.map Value.int) (.int (0 : Int32))) (S_COMPACT_STRINGS : Sta Z Z.heap "java/lang/String" "COMPACT_STRINGS" "Z" (.int cs)) (hlen : cl.length ≤ 26) (hcA : ∀ c ∈ cl, OwnCh c) (hleA : ∀ c ∈ cl, ¬ ((255 : Int32) < c)) (hne : cl ≠ []) (hcs : ¬ (cs = (0 : Int32))) (ne_d_a : d ≠ a) (g_a : n0 ≤ a) (O : Old Z n0 h0) :
    Met l Z M8 jdk_42_method_3_code 2 none ws (Rm 3 1 26 52) #[(.ref a), (.ref d)] h0 (Q_rm_init1G Z a d kd cl cs h0 n0) := by
  refine met_of (plainFor_of_name pn_java_lang_String) (own := "java/lang/String") rfl (fun m => ef_rm_init1G m a d) ?_
  intro p e s m below meth c s₁ hx hby hml hown hnm hZ X0 e0 hret hlk
  have N0 := Fr.nil n0
  have K0 := Keep.refl h0 [a]
  show Goes p e below s _ _ _ (s₁.setTop (mkF m 0 #[.val (.ref a), .val (.ref d)] []))
  refine Goes.pre (U' := s₁.setTop (mkF m 4 #[.val (.ref a), .val (.ref d)] [(.ref d), (.int (0 : Int32)), (.ref d), (.ref a)])) (fun t k => XS.aloadN X0.here hx rfl (hb hby d8_0) rfl rfl (XS.aloadN X0.here hx rfl (hb hby d8_1) rfl rfl (XS.iconst X0.here hx rfl (hb hby d8_2) (XS.aloadN X0.here hx rfl (hb hby d8_3) rfl rfl k)))) ?_
  obtain ⟨cl1, Ar1, q1, Sz1, Ng1, -, -⟩ := id V_d
  have ln1 := len_of Sz1 Ng1
  refine Goes.pre (U' := s₁.setTop (mkF m 6 #[.val (.ref a), .val (.ref d)] [.null, (.int (Int32.ofNat cl.length)), (.int (0 : Int32)), (.ref d), (.ref a)])) (fun t k => X0.arraylength hx (by rw [e0]; exact Ar1.1) (State.isArrayOf_alike hZ.alike Ar1.2.1) (g := (mkF m 4 #[.val (.ref a), .val (.ref d)] [(.ref d), (.int (0 : Int32)), (.ref d), (.ref a)])) rfl rfl (hb hby d8_4) _ (by rw [ln1]; exact (XS.aconstNull X0.here hx rfl (hb hby d8_5) k))) ?_
  have lt_a := E_a.lt
  have lt_d := V_d.lt
  obtain ⟨_, _, ⟨T2, L2, k2, n2⟩, -, X2, ⟨Lc2, hQ2, l2, y2, z2⟩, st2⟩ := X0.specialBack hx (y := (⟨"java/lang/String", "<init>", "([CIILjava/lang/Void;)V"⟩ : MethodName)) rfl hown (mvT hZ (wq hw 47 rfl)) (mvT hZ (wq hw 48 rfl)) (mvT hZ (wq hw 50 rfl)) (by decide) (backOf (W := 0) (rm_init4G l Z a0 hw [] a d kd cl cs h0 n0 Z0 E_a F_value_a F_coder_a V_d S_COMPACT_STRINGS hlen hcA hleA hne hcs ne_d_a g_a O) hZ (wq hw 50 rfl) (wq hw 7 rfl) (by decide) (by decide)) (g := (mkF m 6 #[.val (.ref a), .val (.ref d)] [.null, (.int (Int32.ofNat cl.length)), (.int (0 : Int32)), (.ref d), (.ref a)])) rfl (by rw [hml]; rfl) (Steps.refl _) (a := a) (argsL := [(.ref d), (.int (0 : Int32)), (.int (Int32.ofNat cl.length)), .null]) (rest := []) (lenOf pd__28_5bCIILjava_2flang_2fVoid_3b_29V rfl) rfl (by show 2 * 0 + _ ≤ _; exact Nat.le_of_eq rfl) (hb hby d8_6) (fun _ _ => ⟨rfl, e0, (by decide : 0 + 1 ≤ _), (by decide : 0 + 26 ≤ _)⟩)
  dsimp only [Pt.U, Pt.locs, Pt.cells, Pt.slots] at X2 l2 y2 z2 st2 hQ2
  rw [l2, y2, z2] at X2
  obtain ⟨b2, kb2, rfl, N2q, KQ2, fo0_2, g_b2, sl_b2⟩ := hQ2
  have N2 := Fr.app N0 N2q
  have E_a := E_a.keep KQ2
  have V_d := V_d.keep KQ2 (ninS ne_d_a nin0)
  have Z3 : n0 ≤ T2.heap.size := Nat.le_trans Z0 KQ2.1
  have O := O.keep KQ2 (allS (P := fun x => n0 ≤ x) g_a all0)
  have K3 := K0.trans KQ2 (allS (P := fun x => x ∈ [a] ∨ h0.size ≤ x) (Or.inl (List.mem_of_getElem? (i := 0) rfl)) all0)
  have ne_a_b2 : a ≠ b2 := Nat.ne_of_lt (Nat.lt_of_lt_of_le lt_a sl_b2)
  have ne_b2_a := ne_a_b2.symm
  have ne_d_b2 : d ≠ b2 := Nat.ne_of_lt (Nat.lt_of_lt_of_le lt_d sl_b2)
  have ne_b2_d := ne_d_b2.symm
  have sz_b2 : h0.size ≤ b2 := Nat.le_trans K0.1 sl_b2
  have S_a := fo0_2
  refine Goes.pre (U' := T2.setTop (mkF m 9 #[.val (.ref a), .val (.ref d)] [])) (fun t k => st2.trans k) ?_
  refine Goes.ret X2 (v := none) (fun _ => rfl) hlk (by decide) (by decide) rfl (fun fs hr => X2.returnOut hx hret (hb hby d8_9) hr) ?_
  exact ⟨b2, kb2, rfl, N2, K3, S_a, g_b2, sz_b2⟩
theorem own_fldinj {Z : State} {h : Heap} {a : Addr} {C n d : String} {v w : Value} (F : Fld Z h a C n d v) (G : Fld Z h a C n d w) : v = w := by
  obtain ⟨c1, cf1, k1, i1, f1, p1, p2, p3, p4, p5, p6, p7⟩ := F
  obtain ⟨c2, cf2, k2, i2, f2, q1, q2, q3, q4, q5, q6, q7⟩ := G
  obtain rfl := Option.some.inj (p1.symm.trans q1)
  have e := Option.some.inj (p2.symm.trans q2)
  simp only [Prod.mk.injEq] at e
  obtain ⟨-, -, -, rfl⟩ := e
  exact Option.some.inj (p7.symm.trans q7)
theorem own_arvinj {Z : State} {h : Heap} {a : Addr} {k k' : ClassId} {ty : FieldType} {n n' : Int32} {vs ws : List Value} {dv : Value} (F : Arv Z h a k ty n vs dv) (G : Arv Z h a k' ty n' ws dv) : n.toNatClampNeg = n'.toNatClampNeg ∧ ∀ i, i < n.toNatClampNeg → vs.getD i dv = ws.getD i dv := by
  obtain ⟨c1, A1, -, S1, -, H1, -⟩ := F
  obtain ⟨c2, A2, -, S2, -, H2, -⟩ := G
  obtain rfl := Option.some.inj (A1.1.symm.trans A2.1)
  refine ⟨S1.symm.trans S2, fun i hi => ?_⟩
  exact Option.some.inj ((H1 i (by rw [S1]; exact hi)).symm.trans (H2 i (by rw [S1]; exact hi)))
def own_l8 (c : Int32) : Int32 := c.toInt8.toInt32
theorem own_cvL {Z : State} {h : Heap} {b : Addr} {k : ClassId} {cl : List Int32} {d : Value} (F : Arv Z h b k .byte (Int32.ofNat cl.length) (cl.map fun c => .int c.toInt8.toInt32) d) : Arv Z h b k .byte (Int32.ofNat (cl.map own_l8).length) ((cl.map own_l8).map Value.int) d := by
  rw [List.length_map, List.map_map]
  exact F
theorem own_leq (us vs : List Int32) (hl : us.length = vs.length) (h : ∀ j, j < us.length → us.getD j 0 = vs.getD j 0) : us = vs := by
  apply List.ext_getElem hl
  intro i h1 h2
  have q := h i h1
  simpa [List.getD_eq_getElem?_getD, h1, h2] using q
theorem own_injL : ∀ (cl dl : List Int32), (∀ c ∈ cl, OwnCh c) → (∀ c ∈ dl, OwnCh c) → (∀ c ∈ cl, ¬ ((255 : Int32) < c)) → (∀ c ∈ dl, ¬ ((255 : Int32) < c)) → cl.map own_l8 = dl.map own_l8 → cl = dl
  | [], [], _, _, _, _, _ => rfl
  | [], _ :: _, _, _, _, _, q => by cases q
  | _ :: _, [], _, _, _, _, q => by cases q
  | c :: r, d :: t, h1, h2, h3, h4, q => by
    simp only [List.map_cons, List.cons.injEq] at q
    have e1 := own_l1 c (h1 c (List.mem_cons_self ..)) (h3 c (List.mem_cons_self ..))
    have e2 := own_l1 d (h2 d (List.mem_cons_self ..)) (h4 d (List.mem_cons_self ..))
    have e3 : c.toInt8.toInt32 = d.toInt8.toInt32 := q.1
    rw [e3] at e1
    rw [← e1, e2, own_injL r t (fun x hx => h1 x (List.mem_cons_of_mem _ hx)) (fun x hx => h2 x (List.mem_cons_of_mem _ hx)) (fun x hx => h3 x (List.mem_cons_of_mem _ hx)) (fun x hx => h4 x (List.mem_cons_of_mem _ hx)) q.2]
theorem own_arvL {Z : State} {h : Heap} {b : Addr} {k k' : ClassId} {us vs : List Int32} (F : Arv Z h b k .byte (Int32.ofNat us.length) (us.map Value.int) (.int (0 : Int32))) (G : Arv Z h b k' .byte (Int32.ofNat vs.length) (vs.map Value.int) (.int (0 : Int32))) (h1 : us.length ≤ 8192) (h2 : vs.length ≤ 8192) : us = vs := by
  obtain ⟨e, f⟩ := own_arvinj F G
  rw [own_ixn _ h1, own_ixn _ h2] at e
  rw [own_ixn _ h1] at f
  apply own_leq us vs e
  intro j hj
  have q := f j hj
  simp only [List.getD_eq_getElem?_getD, List.getElem?_map, List.getElem?_eq_getElem hj, List.getElem?_eq_getElem (e ▸ hj), Option.map_some, Option.getD_some, Value.int.injEq] at q ⊢
  exact q
theorem own_strinj {Z : State} {h : Heap} {a b f : Addr} {kb kf : ClassId} {cl dl : List Int32} (F : OwnStr Z h a b kb cl) (G : OwnStr Z h a f kf dl) (h1 : cl.length ≤ 4096) (h2 : dl.length ≤ 4096) : cl = dl := by
  obtain ⟨-, f1, f2, a1, a2, a3⟩ := F
  obtain ⟨-, g1, g2, b1, b2, b3⟩ := G
  have e := own_fldinj f1 g1
  cases e
  exact own_injL cl dl f2 g2 a3 b3 (own_arvL (own_cvL a2) (own_cvL b2) (by rw [List.length_map]; omega) (by rw [List.length_map]; omega))
def own_eqv (cl dl : List Int32) : Int32 := if cl = dl then (1 : Int32) else (0 : Int32)
theorem own_oinj (i n : Nat) (h : Int32.ofNat i = Int32.ofNat n) (hi : i ≤ 8192) (hn : n ≤ 8192) : i = n := by
  have a := own_ofn i hi
  have b := own_ofn n hn
  rw [h] at a
  omega
theorem own_len8 (cl : List Int32) (h : cl.length ≤ 26) : (cl.map own_l8).length ≤ 8192 := by rw [List.length_map]; omega
theorem own_eqm (cl dl : List Int32) (h1 : ∀ c ∈ cl, OwnCh c) (h2 : ∀ c ∈ dl, OwnCh c) (h3 : ∀ c ∈ cl, ¬ ((255 : Int32) < c)) (h4 : ∀ c ∈ dl, ¬ ((255 : Int32) < c)) : own_eqv (cl.map own_l8) (dl.map own_l8) = own_eqv cl dl := by
  unfold own_eqv
  by_cases q : cl = dl
  · rw [if_pos q, if_pos (q ▸ rfl)]
  · rw [if_neg q, if_neg fun r => q (own_injL cl dl h1 h2 h3 h4 r)]
theorem ef_rm_leq (m : MethodId) (x0 : Addr) (x1 : Addr) : entryFrame m #[(.ref x0), (.ref x1)] 3 = mkF m 0 #[.val (.ref x0), .val (.ref x1), .unset] [] := by first | (simp [entryFrame, mkF, argsToLocals, Value.category]; done) | rfl
abbrev M21 : MethodName := ⟨"java/lang/StringLatin1", "equals", "([B[B)Z"⟩
theorem d21_0 : decode jdk_43_method_13_code 0 = .ok (.aload_n 0, 1) := by decide +kernel
theorem d21_1 : decode jdk_43_method_13_code 1 = .ok (.arraylength, 1) := by decide +kernel
theorem d21_2 : decode jdk_43_method_13_code 2 = .ok (.aload_n 1, 1) := by decide +kernel
theorem d21_3 : decode jdk_43_method_13_code 3 = .ok (.arraylength, 1) := by decide +kernel
theorem d21_4 : decode jdk_43_method_13_code 4 = .ok (.if_icmp .ne 30, 3) := by decide +kernel
theorem d21_7 : decode jdk_43_method_13_code 7 = .ok (.iconst 0, 1) := by decide +kernel
theorem d21_8 : decode jdk_43_method_13_code 8 = .ok (.istore_n 2, 1) := by decide +kernel
theorem d21_9 : decode jdk_43_method_13_code 9 = .ok (.iload_n 2, 1) := by decide +kernel
theorem d21_10 : decode jdk_43_method_13_code 10 = .ok (.aload_n 0, 1) := by decide +kernel
theorem d21_11 : decode jdk_43_method_13_code 11 = .ok (.arraylength, 1) := by decide +kernel
theorem d21_12 : decode jdk_43_method_13_code 12 = .ok (.if_icmp .ge 20, 3) := by decide +kernel
theorem d21_15 : decode jdk_43_method_13_code 15 = .ok (.aload_n 0, 1) := by decide +kernel
theorem d21_16 : decode jdk_43_method_13_code 16 = .ok (.iload_n 2, 1) := by decide +kernel
theorem d21_17 : decode jdk_43_method_13_code 17 = .ok (.baload, 1) := by decide +kernel
theorem d21_18 : decode jdk_43_method_13_code 18 = .ok (.aload_n 1, 1) := by decide +kernel
theorem d21_19 : decode jdk_43_method_13_code 19 = .ok (.iload_n 2, 1) := by decide +kernel
theorem d21_20 : decode jdk_43_method_13_code 20 = .ok (.baload, 1) := by decide +kernel
theorem d21_21 : decode jdk_43_method_13_code 21 = .ok (.if_icmp .eq 5, 3) := by decide +kernel
theorem d21_26 : decode jdk_43_method_13_code 26 = .ok (.iinc 2 1, 3) := by decide +kernel
theorem d21_29 : decode jdk_43_method_13_code 29 = .ok (.goto (-20), 3) := by decide +kernel
theorem d21_24 : decode jdk_43_method_13_code 24 = .ok (.iconst 0, 1) := by decide +kernel
theorem d21_25 : decode jdk_43_method_13_code 25 = .ok (.ireturn, 1) := by decide +kernel
theorem d21_32 : decode jdk_43_method_13_code 32 = .ok (.iconst 1, 1) := by decide +kernel
theorem d21_33 : decode jdk_43_method_13_code 33 = .ok (.ireturn, 1) := by decide +kernel
theorem d21_34 : decode jdk_43_method_13_code 34 = .ok (.iconst 0, 1) := by decide +kernel
theorem d21_35 : decode jdk_43_method_13_code 35 = .ok (.ireturn, 1) := by decide +kernel
def Q_rm_leq (Z : State) (bu : Addr) (ku : ClassId) (us : List Int32) (bv : Addr) (kv : ClassId) (vs : List Int32) (h0 : Heap) (n0 : Nat) (v : Option Value) (h : Heap) (L : List Loc) : Prop := v = some (.int (own_eqv us vs)) ∧ Fr n0 L ∧ h = h0
set_option maxRecDepth 65536 in
set_option maxHeartbeats 40000000 in
theorem rm_leq (l : Launch) (Z : State) (a0 : Array Value) (hw : ∀ d ∈ tables_1, d.before a0 Z = true) (ws : List Jvm.Cond) (bu : Addr) (ku : ClassId) (us : List Int32) (bv : Addr) (kv : ClassId) (vs : List Int32) (h0 : Heap) (n0 : Nat) (Z0 : n0 ≤ h0.size) (V_bu : Arv Z h0 bu ku .byte (Int32.ofNat us.length) (us.map Value.int) (.int (0 : Int32))) (V_bv : Arv Z h0 bv kv .byte (Int32.ofNat vs.length) (vs.map Value.int) (.int (0 : Int32))) (hlu : us.length ≤ 8192) (hlw : vs.length ≤ 8192) :
    Met l Z M21 jdk_43_method_13_code 3 (some .boolean) ws (Rm 0 0 0 0) #[(.ref bu), (.ref bv)] h0 (Q_rm_leq Z bu ku us bv kv vs h0 n0) := by
  refine met_of (plainFor_of_name pn_java_lang_StringLatin1) (own := "java/lang/StringLatin1") rfl (fun m => ef_rm_leq m bu bv) ?_
  intro p e s m below meth c s₁ hx hby hml hown hnm hZ X0 e0 hret hlk
  have N0 := Fr.nil n0
  show Goes p e below s _ _ _ (s₁.setTop (mkF m 0 #[.val (.ref bu), .val (.ref bv), .unset] []))
  refine Goes.pre (U' := s₁.setTop (mkF m 1 #[.val (.ref bu), .val (.ref bv), .unset] [(.ref bu)])) (fun t k => XS.aloadN X0.here hx rfl (hb hby d21_0) rfl rfl k) ?_
  obtain ⟨cl1, Ar1, q1, Sz1, Ng1, -, -⟩ := id V_bu
  have ln1 := len_of Sz1 Ng1
  refine Goes.pre (U' := s₁.setTop (mkF m 3 #[.val (.ref bu), .val (.ref bv), .unset] [(.ref bv), (.int (Int32.ofNat us.length))])) (fun t k => X0.arraylength hx (by rw [e0]; exact Ar1.1) (State.isArrayOf_alike hZ.alike Ar1.2.1) (g := (mkF m 1 #[.val (.ref bu), .val (.ref bv), .unset] [(.ref bu)])) rfl rfl (hb hby d21_1) _ (by rw [ln1]; exact (XS.aloadN X0.here hx rfl (hb hby d21_2) rfl rfl k))) ?_
  obtain ⟨cl2, Ar2, q2, Sz2, Ng2, -, -⟩ := id V_bv
  have ln2 := len_of Sz2 Ng2
  refine Goes.pre (U' := s₁.setTop (mkF m 4 #[.val (.ref bu), .val (.ref bv), .unset] [(.int (Int32.ofNat vs.length)), (.int (Int32.ofNat us.length))])) (fun t k => X0.arraylength hx (by rw [e0]; exact Ar2.1) (State.isArrayOf_alike hZ.alike Ar2.2.1) (g := (mkF m 3 #[.val (.ref bu), .val (.ref bv), .unset] [(.ref bv), (.int (Int32.ofNat us.length))])) rfl rfl (hb hby d21_3) _ (by rw [ln2]; exact k)) ?_
  by_cases hc4 : (Int32.ofNat us.length) = (Int32.ofNat vs.length)
  ·
    refine Goes.pre (U' := s₁.setTop (mkF m 9 #[.val (.ref bu), .val (.ref bv), .val (.int (0 : Int32))] [])) (fun t k => XS.icmpNo X0.here hx rfl (hb hby d21_4) rfl (teq hc4).2 (XS.iconst X0.here hx rfl (hb hby d21_7) (XS.istoreN X0.here hx rfl (hb hby d21_8) rfl (l' := #[.val (.ref bu), .val (.ref bv), .val (.int (0 : Int32))]) rfl k))) ?_
    have hlv : us.length = vs.length := own_oinj _ _ hc4 hlu hlw
    have J9_3 : ∀ (kk : Nat) (i : Nat) (hi : i ≤ us.length) (hj : ∀ j, j < i → us.getD j 0 = vs.getD j 0) (hm : us.length - i = kk) (T3 : State) (lc3 : List Loc), Stand p l e (Rm 0 0 0 0) s m #[(.ref bu), (.ref bv)] below meth c T3 lc3 0 0 → T3.heap = h0 → Fr n0 lc3 → Goes p e below s (Q_rm_leq Z bu ku us bv kv vs h0 n0) (Rm 0 0 0 0).cells (Rm 0 0 0 0).slots (T3.setTop (mkF m 9 #[.val (.ref bu), .val (.ref bv), .val (.int (Int32.ofNat i))] [])) := by
      intro kk
      induction kk using Nat.strongRecOn with
      | ind kk ih =>
        intro i hi hj hm T3 lc3 X3 e3 N3
        refine Goes.pre (U' := T3.setTop (mkF m 11 #[.val (.ref bu), .val (.ref bv), .val (.int (Int32.ofNat i))] [(.ref bu), (.int (Int32.ofNat i))])) (fun t k => XS.iloadN X3.here hx rfl (hb hby d21_9) rfl (XS.aloadN X3.here hx rfl (hb hby d21_10) rfl rfl k)) ?_
        obtain ⟨cl4, Ar4, q4, Sz4, Ng4, -, -⟩ := id V_bu
        have ln4 := len_of Sz4 Ng4
        refine Goes.pre (U' := T3.setTop (mkF m 12 #[.val (.ref bu), .val (.ref bv), .val (.int (Int32.ofNat i))] [(.int (Int32.ofNat us.length)), (.int (Int32.ofNat i))])) (fun t k => X3.arraylength hx (by rw [e3]; exact Ar4.1) (State.isArrayOf_alike hZ.alike Ar4.2.1) (g := (mkF m 11 #[.val (.ref bu), .val (.ref bv), .val (.int (Int32.ofNat i))] [(.ref bu), (.int (Int32.ofNat i))])) rfl rfl (hb hby d21_11) _ (by rw [ln4]; exact k)) ?_
        by_cases hc12 : (Int32.ofNat i) < (Int32.ofNat us.length)
        ·
          refine Goes.pre (U' := T3.setTop (mkF m 17 #[.val (.ref bu), .val (.ref bv), .val (.int (Int32.ofNat i))] [(.int (Int32.ofNat i)), (.ref bu)])) (fun t k => XS.icmpNo X3.here hx rfl (hb hby d21_12) rfl (tlt hc12).2.1 (XS.aloadN X3.here hx rfl (hb hby d21_15) rfl rfl (XS.iloadN X3.here hx rfl (hb hby d21_16) rfl k))) ?_
          obtain ⟨cl5, Ar5, q5, Sz5, Ng5, Hs5, Ft5⟩ := id V_bu
          have hin5 := inb_of (j := (Int32.ofNat i)) Sz5 (own_ix i _ (own_lti _ _ hc12 hi hlu) hlu)
          refine Goes.pre (U' := T3.setTop (mkF m 20 #[.val (.ref bu), .val (.ref bv), .val (.int (Int32.ofNat i))] [(.int (Int32.ofNat i)), (.ref bv), (.int (us.getD i 0))])) (fun t k => X3.baloadBytes hx (j := (Int32.ofNat i)) (v := (.int (us.getD i 0))) (by rw [e3]; exact Ar5.1) (State.isArrayOf_alike hZ.alike Ar5.2.1) Ar5.2.2 hin5 (Has.at Hs5 hin5 (own_getm us i (own_lti _ _ hc12 hi hlu) hlu)) (g := (mkF m 17 #[.val (.ref bu), .val (.ref bv), .val (.int (Int32.ofNat i))] [(.int (Int32.ofNat i)), (.ref bu)])) rfl rfl (hb hby d21_17) _ (XS.aloadN X3.here hx rfl (hb hby d21_18) rfl rfl (XS.iloadN X3.here hx rfl (hb hby d21_19) rfl k))) ?_
          obtain ⟨cl6, Ar6, q6, Sz6, Ng6, Hs6, Ft6⟩ := id V_bv
          have hin6 := inb_of (j := (Int32.ofNat i)) Sz6 (own_ix i _ (hlv ▸ (own_lti _ _ hc12 hi hlu)) hlw)
          refine Goes.pre (U' := T3.setTop (mkF m 21 #[.val (.ref bu), .val (.ref bv), .val (.int (Int32.ofNat i))] [(.int (vs.getD i 0)), (.int (us.getD i 0))])) (fun t k => X3.baloadBytes hx (j := (Int32.ofNat i)) (v := (.int (vs.getD i 0))) (by rw [e3]; exact Ar6.1) (State.isArrayOf_alike hZ.alike Ar6.2.1) Ar6.2.2 hin6 (Has.at Hs6 hin6 (own_getm vs i (hlv ▸ (own_lti _ _ hc12 hi hlu)) hlw)) (g := (mkF m 20 #[.val (.ref bu), .val (.ref bv), .val (.int (Int32.ofNat i))] [(.int (Int32.ofNat i)), (.ref bv), (.int (us.getD i 0))])) rfl rfl (hb hby d21_20) _ k) ?_
          by_cases hc21 : (us.getD i 0) = (vs.getD i 0)
          ·
            refine Goes.pre (U' := T3.setTop (mkF m 29 #[.val (.ref bu), .val (.ref bv), .val (.int ((Int32.ofNat i) + (1 : Int32)))] [])) (fun t k => XS.icmpYes X3.here hx rfl (pc0 := 21) (pc' := 26) rfl (hb hby d21_21) rfl (teq hc21).1 (by decide) (by decide) (XT.iincV X3.here hx rfl (1 : Int32) (hb hby d21_26) (by decide) rfl (l' := #[.val (.ref bu), .val (.ref bv), .val (.int ((Int32.ofNat i) + (1 : Int32)))]) rfl k)) ?_
            rw [own_inc]
            refine Goes.pre (U' := T3.setTop (mkF m 9 #[.val (.ref bu), .val (.ref bv), .val (.int (Int32.ofNat (i + 1)))] [])) (fun t k => XS.goto X3.here hx rfl (pc0 := 29) (pc' := 9) rfl (hb hby d21_29) (by decide) (by decide) k) ?_
            exact ih _ (by have := own_lti _ _ hc12 hi hlu; omega) (i + 1) (own_lti _ _ hc12 hi hlu) (fun j q => (Nat.lt_succ_iff_lt_or_eq.mp q).elim (hj j) (fun e => e ▸ hc21)) rfl _ _ X3 e3 N3
          ·
            refine Goes.pre (U' := T3.setTop (mkF m 25 #[.val (.ref bu), .val (.ref bv), .val (.int (Int32.ofNat i))] [(.int (0 : Int32))])) (fun t k => XS.icmpNo X3.here hx rfl (hb hby d21_21) rfl (feq hc21).1 (XS.iconst X3.here hx rfl (hb hby d21_24) k)) ?_
            refine Goes.ret X3 (v := (some (.int (0 : Int32)))) (fun h => by rw [hret] at h; cases h) hlk (by decide) (by decide) e3 (fun fs hr => retN X3 hx (t := .boolean) hret (by simp) (hb hby d21_25) hr) ?_
            exact ⟨congrArg (fun z => some (Value.int z)) (show _ = own_eqv us vs from (if_neg (fun q => hc21 (by rw [q]))).symm), N3, rfl⟩
        ·
          refine Goes.pre (U' := T3.setTop (mkF m 33 #[.val (.ref bu), .val (.ref bv), .val (.int (Int32.ofNat i))] [(.int (1 : Int32))])) (fun t k => XS.icmpYes X3.here hx rfl (pc0 := 12) (pc' := 32) rfl (hb hby d21_12) rfl (flt hc12).2.1 (by decide) (by decide) (XS.iconst X3.here hx rfl (hb hby d21_32) k)) ?_
          refine Goes.ret X3 (v := (some (.int (1 : Int32)))) (fun h => by rw [hret] at h; cases h) hlk (by decide) (by decide) e3 (fun fs hr => retN X3 hx (t := .boolean) hret (by simp) (hb hby d21_33) hr) ?_
          exact ⟨congrArg (fun z => some (Value.int z)) (show _ = own_eqv us vs from (if_pos (own_leq us vs hlv (own_nlti _ _ hc12 hi hlu ▸ hj))).symm), N3, rfl⟩
    exact J9_3 _ 0 (Nat.zero_le _) (fun j q => absurd q (Nat.not_lt_zero j)) rfl _ _ X0 e0 N0
  ·
    refine Goes.pre (U' := s₁.setTop (mkF m 35 #[.val (.ref bu), .val (.ref bv), .unset] [(.int (0 : Int32))])) (fun t k => XS.icmpYes X0.here hx rfl (pc0 := 4) (pc' := 34) rfl (hb hby d21_4) rfl (feq hc4).2 (by decide) (by decide) (XS.iconst X0.here hx rfl (hb hby d21_34) k)) ?_
    refine Goes.ret X0 (v := (some (.int (0 : Int32)))) (fun h => by rw [hret] at h; cases h) hlk (by decide) (by decide) e0 (fun fs hr => retN X0 hx (t := .boolean) hret (by simp) (hb hby d21_35) hr) ?_
    exact ⟨congrArg (fun z => some (Value.int z)) (show _ = own_eqv us vs from (if_neg (fun q => hc4 (by rw [q]))).symm), N0, rfl⟩
theorem own_eq1 (cl dl : List Int32) (h : ¬ (own_eqv cl dl = (0 : Int32))) : own_eqv cl dl = (1 : Int32) := by
  unfold own_eqv at *
  split
  · rfl
  · rename_i q
    exact absurd (if_neg q) h
theorem ef_rm_eqS (m : MethodId) (x0 : Addr) (x1 : Addr) : entryFrame m #[(.ref x0), (.ref x1)] 3 = mkF m 0 #[.val (.ref x0), .val (.ref x1), .unset] [] := by first | (simp [entryFrame, mkF, argsToLocals, Value.category]; done) | rfl
abbrev M20 : MethodName := ⟨"java/lang/String", "equals", "(Ljava/lang/Object;)Z"⟩
theorem d20_0 : decode jdk_42_method_66_code 0 = .ok (.aload_n 0, 1) := by decide +kernel
theorem d20_1 : decode jdk_42_method_66_code 1 = .ok (.aload_n 1, 1) := by decide +kernel
theorem d20_2 : decode jdk_42_method_66_code 2 = .ok (.if_acmp .ne 5, 3) := by decide +kernel
theorem d20_5 : decode jdk_42_method_66_code 5 = .ok (.iconst 1, 1) := by decide +kernel
theorem d20_6 : decode jdk_42_method_66_code 6 = .ok (.ireturn, 1) := by decide +kernel
theorem d20_7 : decode jdk_42_method_66_code 7 = .ok (.aload_n 1, 1) := by decide +kernel
theorem d20_8 : decode jdk_42_method_66_code 8 = .ok (.instanceof 10, 3) := by decide +kernel
theorem d20_11 : decode jdk_42_method_66_code 11 = .ok (.ifCond .eq 43, 3) := by decide +kernel
theorem d20_14 : decode jdk_42_method_66_code 14 = .ok (.aload_n 1, 1) := by decide +kernel
theorem d20_15 : decode jdk_42_method_66_code 15 = .ok (.checkcast 10, 3) := by decide +kernel
theorem d20_18 : decode jdk_42_method_66_code 18 = .ok (.astore_n 2, 1) := by decide +kernel
theorem d20_19 : decode jdk_42_method_66_code 19 = .ok (.getstatic 38, 3) := by decide +kernel
theorem d20_22 : decode jdk_42_method_66_code 22 = .ok (.ifCond .eq 14, 3) := by decide +kernel
theorem d20_25 : decode jdk_42_method_66_code 25 = .ok (.aload_n 0, 1) := by decide +kernel
theorem d20_26 : decode jdk_42_method_66_code 26 = .ok (.getfield 15, 3) := by decide +kernel
theorem d20_29 : decode jdk_42_method_66_code 29 = .ok (.aload_n 2, 1) := by decide +kernel
theorem d20_30 : decode jdk_42_method_66_code 30 = .ok (.getfield 15, 3) := by decide +kernel
theorem d20_33 : decode jdk_42_method_66_code 33 = .ok (.if_icmp .ne 21, 3) := by decide +kernel
theorem d20_36 : decode jdk_42_method_66_code 36 = .ok (.aload_n 0, 1) := by decide +kernel
theorem d20_37 : decode jdk_42_method_66_code 37 = .ok (.getfield 9, 3) := by decide +kernel
theorem d20_40 : decode jdk_42_method_66_code 40 = .ok (.aload_n 2, 1) := by decide +kernel
theorem d20_41 : decode jdk_42_method_66_code 41 = .ok (.getfield 9, 3) := by decide +kernel
theorem d20_44 : decode jdk_42_method_66_code 44 = .ok (.invokestatic 541, 3) := by decide +kernel
theorem pd__28_5bB_5bB_29Z : parseMethodDescriptor "([B[B)Z" = some ⟨[(.array .byte), (.array .byte)], some .boolean⟩ := by decide +kernel
theorem d20_47 : decode jdk_42_method_66_code 47 = .ok (.ifCond .eq 7, 3) := by decide +kernel
theorem d20_54 : decode jdk_42_method_66_code 54 = .ok (.iconst 0, 1) := by decide +kernel
theorem d20_55 : decode jdk_42_method_66_code 55 = .ok (.ireturn, 1) := by decide +kernel
theorem d20_50 : decode jdk_42_method_66_code 50 = .ok (.iconst 1, 1) := by decide +kernel
theorem d20_51 : decode jdk_42_method_66_code 51 = .ok (.goto 4, 3) := by decide +kernel
def Q_rm_eqS (Z : State) (a : Addr) (b : Addr) (ka : ClassId) (cl : List Int32) (d : Addr) (f : Addr) (kf : ClassId) (dl : List Int32) (cs : Int32) (h0 : Heap) (n0 : Nat) (v : Option Value) (h : Heap) (L : List Loc) : Prop := v = some (.int (own_eqv cl dl)) ∧ Fr n0 L ∧ h = h0
set_option maxRecDepth 65536 in
set_option maxHeartbeats 40000000 in
theorem rm_eqS (l : Launch) (Z : State) (a0 : Array Value) (hw : ∀ d ∈ tables_1, d.before a0 Z = true) (ws : List Jvm.Cond) (a : Addr) (b : Addr) (ka : ClassId) (cl : List Int32) (d : Addr) (f : Addr) (kf : ClassId) (dl : List Int32) (cs : Int32) (h0 : Heap) (n0 : Nat) (Z0 : n0 ≤ h0.size) (S_a : OwnStr Z h0 a b ka cl) (S_d : OwnStr Z h0 d f kf dl) (S_COMPACT_STRINGS : Sta Z Z.heap "java/lang/String" "COMPACT_STRINGS" "Z" (.int cs)) (hl1 : cl.length ≤ 26) (hl2 : dl.length ≤ 26) (hcs : ¬ (cs = (0 : Int32))) (O : Old Z n0 h0) :
    Met l Z M20 jdk_42_method_66_code 3 (some .boolean) ws (Rm 1 0 0 14) #[(.ref a), (.ref d)] h0 (Q_rm_eqS Z a b ka cl d f kf dl cs h0 n0) := by
  refine met_of (plainFor_of_name pn_java_lang_String) (own := "java/lang/String") rfl (fun m => ef_rm_eqS m a d) ?_
  intro p e s m below meth c s₁ hx hby hml hown hnm hZ X0 e0 hret hlk
  have N0 := Fr.nil n0
  show Goes p e below s _ _ _ (s₁.setTop (mkF m 0 #[.val (.ref a), .val (.ref d), .unset] []))
  refine Goes.pre (U' := s₁.setTop (mkF m 2 #[.val (.ref a), .val (.ref d), .unset] [(.ref d), (.ref a)])) (fun t k => XS.aloadN X0.here hx rfl (hb hby d20_0) rfl rfl (XS.aloadN X0.here hx rfl (hb hby d20_1) rfl rfl k)) ?_
  by_cases ha2 : a = d
  ·
    refine Goes.pre (U' := s₁.setTop (mkF m 6 #[.val (.ref a), .val (.ref d), .unset] [(.int (1 : Int32))])) (fun t k => Jvm.RoadKit.acmp (g := (mkF m 2 #[.val (.ref a), .val (.ref d), .unset] [(.ref d), (.ref a)])) X0 hx rfl rfl rfl (pc0 := 2) (pc' := 5) (same := true) rfl (hb hby d20_2) rfl (decide_eq_true (congrArg Value.ref ha2)) (by decide) (by decide) (XS.iconst X0.here hx rfl (hb hby d20_5) k)) ?_
    refine Goes.ret X0 (v := (some (.int (1 : Int32)))) (fun h => by rw [hret] at h; cases h) hlk (by decide) (by decide) e0 (fun fs hr => retN X0 hx (t := .boolean) hret (by simp) (hb hby d20_6) hr) ?_
    exact ⟨congrArg (fun z => some (Value.int z)) (show _ = own_eqv cl dl from (if_pos (own_strinj (ha2 ▸ S_a) S_d (Nat.le_trans hl1 (by decide)) (Nat.le_trans hl2 (by decide)))).symm), N0, rfl⟩
  ·
    refine Goes.pre (U' := s₁.setTop (mkF m 7 #[.val (.ref a), .val (.ref d), .unset] [])) (fun t k => Jvm.RoadKit.acmp (g := (mkF m 2 #[.val (.ref a), .val (.ref d), .unset] [(.ref d), (.ref a)])) X0 hx rfl rfl rfl (pc0 := 2) (pc' := 7) (same := false) rfl (hb hby d20_2) rfl (decide_eq_false fun q => ha2 (Value.ref.inj q)) (by decide) (by decide) k) ?_
    obtain ⟨E_a, F_value_a, hcA, F_coder_a, V_b, hle1⟩ := id S_a
    obtain ⟨E_d, F_value_d, hcD, F_coder_d, V_f, hle2⟩ := id S_d
    have V_b := own_cvL V_b
    have V_f := own_cvL V_f
    refine Goes.pre (U' := s₁.setTop (mkF m 8 #[.val (.ref a), .val (.ref d), .unset] [(.ref d)])) (fun t k => XS.aloadN X0.here hx rfl (hb hby d20_7) rfl rfl k) ?_
    obtain ⟨T1, X1, e1, st1⟩ := instY X0 hx hZ hown (wq hw 111 rfl) e0 (Ins.self E_d) (g := (mkF m 8 #[.val (.ref a), .val (.ref d), .unset] [(.ref d)])) rfl rfl (hb hby d20_8)
    refine Goes.pre (U' := T1.setTop (mkF m 11 #[.val (.ref a), .val (.ref d), .unset] [(.int (1 : Int32))])) (fun t k => st1 t k) ?_
    have hc11 : ¬ ((1 : Int32) = (0 : Int32)) := by decide
    refine Goes.pre (U' := T1.setTop (mkF m 15 #[.val (.ref a), .val (.ref d), .unset] [(.ref d)])) (fun t k => XS.ifNo X1.here hx rfl (hb hby d20_11) rfl ((if0 _ _).trans (feq hc11).1) (XS.aloadN X1.here hx rfl (hb hby d20_14) rfl rfl k)) ?_
    obtain ⟨T2, X2, e2, st2⟩ := castY X1 hx hZ hown (wq hw 111 rfl) e1 (Ins.self E_d) (g := (mkF m 15 #[.val (.ref a), .val (.ref d), .unset] [(.ref d)])) rfl rfl (hb hby d20_15)
    refine Goes.pre (U' := T2.setTop (mkF m 19 #[.val (.ref a), .val (.ref d), .val (.ref d)] [])) (fun t k => st2 t (XS.astoreN X2.here hx rfl (hb hby d20_18) rfl rfl (l' := #[.val (.ref a), .val (.ref d), .val (.ref d)]) rfl k)) ?_
    obtain ⟨T3, X3, e3, st3⟩ := getS2 X2 hx hZ hown (host := "") (Or.inl (wq hw 24 rfl)) Via.refl e2 (S_COMPACT_STRINGS.ext O.2) (g := (mkF m 19 #[.val (.ref a), .val (.ref d), .val (.ref d)] [])) rfl (hb hby d20_19)
    refine Goes.pre (U' := T3.setTop (mkF m 22 #[.val (.ref a), .val (.ref d), .val (.ref d)] [(.int cs)])) (fun t k => st3 t k) ?_
    have hc22 : ¬ (cs = (0 : Int32)) := hcs
    refine Goes.pre (U' := T3.setTop (mkF m 26 #[.val (.ref a), .val (.ref d), .val (.ref d)] [(.ref a)])) (fun t k => XS.ifNo X3.here hx rfl (hb hby d20_22) rfl ((if0 _ _).trans (feq hc22).1) (XS.aloadN X3.here hx rfl (hb hby d20_25) rfl rfl k)) ?_
    obtain ⟨T4, X4, e4, st4⟩ := getF X3 hx hZ hown (host := "") (Or.inl (wq hw 25 rfl)) Via.refl e3 F_coder_a (g := (mkF m 26 #[.val (.ref a), .val (.ref d), .val (.ref d)] [(.ref a)])) rfl rfl (hb hby d20_26)
    refine Goes.pre (U' := T4.setTop (mkF m 30 #[.val (.ref a), .val (.ref d), .val (.ref d)] [(.ref d), (.int (0 : Int32))])) (fun t k => st4 t (XS.aloadN X4.here hx rfl (hb hby d20_29) rfl rfl k)) ?_
    obtain ⟨T5, X5, e5, st5⟩ := getF X4 hx hZ hown (host := "") (Or.inl (wq hw 25 rfl)) Via.refl e4 F_coder_d (g := (mkF m 30 #[.val (.ref a), .val (.ref d), .val (.ref d)] [(.ref d), (.int (0 : Int32))])) rfl rfl (hb hby d20_30)
    refine Goes.pre (U' := T5.setTop (mkF m 33 #[.val (.ref a), .val (.ref d), .val (.ref d)] [(.int (0 : Int32)), (.int (0 : Int32))])) (fun t k => st5 t k) ?_
    have hc33 : (0 : Int32) = (0 : Int32) := rfl
    refine Goes.pre (U' := T5.setTop (mkF m 37 #[.val (.ref a), .val (.ref d), .val (.ref d)] [(.ref a)])) (fun t k => XS.icmpNo X5.here hx rfl (hb hby d20_33) rfl (teq hc33).2 (XS.aloadN X5.here hx rfl (hb hby d20_36) rfl rfl k)) ?_
    obtain ⟨T6, X6, e6, st6⟩ := getF X5 hx hZ hown (host := "") (Or.inl (wq hw 26 rfl)) Via.refl e5 F_value_a (g := (mkF m 37 #[.val (.ref a), .val (.ref d), .val (.ref d)] [(.ref a)])) rfl rfl (hb hby d20_37)
    refine Goes.pre (U' := T6.setTop (mkF m 41 #[.val (.ref a), .val (.ref d), .val (.ref d)] [(.ref d), (.ref b)])) (fun t k => st6 t (XS.aloadN X6.here hx rfl (hb hby d20_40) rfl rfl k)) ?_
    obtain ⟨T7, X7, e7, st7⟩ := getF X6 hx hZ hown (host := "") (Or.inl (wq hw 26 rfl)) Via.refl e6 F_value_d (g := (mkF m 41 #[.val (.ref a), .val (.ref d), .val (.ref d)] [(.ref d), (.ref b)])) rfl rfl (hb hby d20_41)
    refine Goes.pre (U' := T7.setTop (mkF m 44 #[.val (.ref a), .val (.ref d), .val (.ref d)] [(.ref f), (.ref b)])) (fun t k => st7 t k) ?_
    obtain ⟨_, _, ⟨T8, L8, k8, n8⟩, -, X8, ⟨Lc8, hQ8, l8, y8, z8⟩, st8⟩ := Jvm.LawKit.callS X7 hx (y := (⟨"java/lang/StringLatin1", "equals", "([B[B)Z"⟩ : MethodName)) hown (mvT hZ (wq hw 112 rfl)) (mvT hZ (wq hw 113 rfl)) (mvT hZ (wq hw 29 rfl)) (mvT hZ (wq hw 114 rfl)) (by decide) (backOf (W := 0) (rm_leq l Z a0 hw [] b ka (cl.map own_l8) f kf (dl.map own_l8) h0 n0 Z0 V_b V_f (own_len8 _ hl1) (own_len8 _ hl2)) hZ (wq hw 114 rfl) (wq hw 29 rfl) (by decide) (by decide)) (g := (mkF m 44 #[.val (.ref a), .val (.ref d), .val (.ref d)] [(.ref f), (.ref b)])) rfl (by rw [hml]; rfl) (argsL := [(.ref b), (.ref f)]) (rest := []) (lenOf pd__28_5bB_5bB_29Z rfl) rfl (by show 2 * 0 + _ ≤ _; exact Nat.le_of_eq rfl) (hb hby d20_44) (fun _ _ => ⟨rfl, e7, (by decide : 0 + 0 ≤ _), (by decide : 0 + 0 ≤ _)⟩)
    dsimp only [Pt.U, Pt.locs, Pt.cells, Pt.slots] at X8 l8 y8 z8 st8 hQ8
    rw [l8, y8, z8] at X8
    obtain ⟨rfl, N8q, HQ8⟩ := hQ8
    have N8 := Fr.app N0 N8q
    refine Goes.pre (U' := T8.setTop (mkF m 47 #[.val (.ref a), .val (.ref d), .val (.ref d)] [(.int (own_eqv (cl.map own_l8) (dl.map own_l8)))])) (fun t k => st8 t k) ?_
    by_cases hc47 : (own_eqv (cl.map own_l8) (dl.map own_l8)) = (0 : Int32)
    ·
      refine Goes.pre (U' := T8.setTop (mkF m 55 #[.val (.ref a), .val (.ref d), .val (.ref d)] [(.int (0 : Int32))])) (fun t k => XS.ifYes X8.here hx rfl (pc0 := 47) (pc' := 54) rfl (hb hby d20_47) rfl ((if0 _ _).trans (teq hc47).1) (by decide) (by decide) (XS.iconst X8.here hx rfl (hb hby d20_54) k)) ?_
      refine Goes.ret X8 (v := (some (.int (0 : Int32)))) (fun h => by rw [hret] at h; cases h) hlk (by decide) (by decide) HQ8 (fun fs hr => retN X8 hx (t := .boolean) hret (by simp) (hb hby d20_55) hr) ?_
      exact ⟨congrArg (fun z => some (Value.int z)) (show _ = own_eqv cl dl from ((own_eqm cl dl hcA hcD hle1 hle2).symm.trans hc47).symm), N8, rfl⟩
    ·
      refine Goes.pre (U' := T8.setTop (mkF m 55 #[.val (.ref a), .val (.ref d), .val (.ref d)] [(.int (1 : Int32))])) (fun t k => XS.ifNo X8.here hx rfl (hb hby d20_47) rfl ((if0 _ _).trans (feq hc47).1) (XS.iconst X8.here hx rfl (hb hby d20_50) (XS.goto X8.here hx rfl (pc0 := 51) (pc' := 55) rfl (hb hby d20_51) (by decide) (by decide) k))) ?_
      refine Goes.ret X8 (v := (some (.int (1 : Int32)))) (fun h => by rw [hret] at h; cases h) hlk (by decide) (by decide) HQ8 (fun fs hr => retN X8 hx (t := .boolean) hret (by simp) (hb hby d20_55) hr) ?_
      exact ⟨congrArg (fun z => some (Value.int z)) (show _ = own_eqv cl dl from ((own_eqm cl dl hcA hcD hle1 hle2).symm.trans (own_eq1 _ _ hc47)).symm), N8, rfl⟩
def own_lit : List Int32 := [(48 : Int32), (49 : Int32), (50 : Int32), (51 : Int32), (52 : Int32), (53 : Int32), (54 : Int32), (55 : Int32), (56 : Int32), (57 : Int32), (65 : Int32), (66 : Int32), (67 : Int32), (68 : Int32), (69 : Int32), (70 : Int32), (71 : Int32), (72 : Int32), (74 : Int32), (75 : Int32), (77 : Int32), (78 : Int32), (80 : Int32), (81 : Int32), (82 : Int32), (83 : Int32), (84 : Int32), (86 : Int32), (87 : Int32), (88 : Int32), (89 : Int32), (90 : Int32)]
def own_tab : List Int32 := [(-1 : Int32), (-1 : Int32), (-1 : Int32), (-1 : Int32), (-1 : Int32), (-1 : Int32), (-1 : Int32), (-1 : Int32), (-1 : Int32), (-1 : Int32), (-1 : Int32), (-1 : Int32), (-1 : Int32), (-1 : Int32), (-1 : Int32), (-1 : Int32), (-1 : Int32), (-1 : Int32), (-1 : Int32), (-1 : Int32), (-1 : Int32), (-1 : Int32), (-1 : Int32), (-1 : Int32), (-1 : Int32), (-1 : Int32), (-1 : Int32), (-1 : Int32), (-1 : Int32), (-1 : Int32), (-1 : Int32), (-1 : Int32), (-1 : Int32), (-1 : Int32), (-1 : Int32), (-1 : Int32), (-1 : Int32), (-1 : Int32), (-1 : Int32), (-1 : Int32), (-1 : Int32), (-1 : Int32), (-1 : Int32), (-1 : Int32), (-1 : Int32), (-1 : Int32), (-1 : Int32), (-1 : Int32), (0 : Int32), (1 : Int32), (2 : Int32), (3 : Int32), (4 : Int32), (5 : Int32), (6 : Int32), (7 : Int32), (8 : Int32), (9 : Int32), (-1 : Int32), (-1 : Int32), (-1 : Int32), (-1 : Int32), (-1 : Int32), (-1 : Int32), (-1 : Int32), (10 : Int32), (11 : Int32), (12 : Int32), (13 : Int32), (14 : Int32), (15 : Int32), (16 : Int32), (17 : Int32), (-1 : Int32), (18 : Int32), (19 : Int32), (-1 : Int32), (20 : Int32), (21 : Int32), (-1 : Int32), (22 : Int32), (23 : Int32), (24 : Int32), (25 : Int32), (26 : Int32), (-1 : Int32), (27 : Int32), (28 : Int32), (29 : Int32), (30 : Int32), (31 : Int32), (-1 : Int32), (-1 : Int32), (-1 : Int32), (-1 : Int32), (-1 : Int32), (-1 : Int32), (10 : Int32), (11 : Int32), (12 : Int32), (13 : Int32), (14 : Int32), (15 : Int32), (16 : Int32), (17 : Int32), (-1 : Int32), (18 : Int32), (19 : Int32), (-1 : Int32), (20 : Int32), (21 : Int32), (-1 : Int32), (22 : Int32), (23 : Int32), (24 : Int32), (25 : Int32), (26 : Int32), (-1 : Int32), (27 : Int32), (28 : Int32), (29 : Int32), (30 : Int32), (31 : Int32), (-1 : Int32), (-1 : Int32), (-1 : Int32), (-1 : Int32), (-1 : Int32)]
def own_dc (d : Int32) : Int32 := own_lit.getD d.toNatClampNeg 0
def own_mc (ch mk iw : Int32) : Int32 := if ch < (65 : Int32) then ch else if (((mk.toUInt32 >>> (iw &&& 31).toUInt32).toInt32) &&& (1 : Int32)) = (0 : Int32) then ch else (ch + (32 : Int32))
theorem own_lit_bd : ∀ c ∈ own_lit, (48 ≤ c.toInt ∧ c.toInt ≤ 90) := by decide +kernel
theorem own_lit_gb (k : Nat) : 0 ≤ (own_lit.getD k 0).toInt ∧ (own_lit.getD k 0).toInt ≤ 90 := by
  rcases Nat.lt_or_ge k own_lit.length with h | h
  · have := own_lit_bd _ (own_gmem own_lit k h)
    omega
  · rw [List.getD_eq_getElem?_getD, List.getElem?_eq_none h]
    decide
theorem own_lit_ch (k : Nat) : OwnCh (own_lit.getD k 0) := by
  have := own_lit_gb k
  exact ⟨this.1, by omega⟩
theorem own_lit_all : ∀ c ∈ own_lit, OwnCh c := fun c hc => by
  have := own_lit_bd c hc
  exact ⟨by omega, by omega⟩
theorem own_lit_le : ∀ c ∈ own_lit, ¬ ((255 : Int32) < c) := fun c hc h => by
  have := own_lit_bd c hc
  rw [Int32.lt_iff_toInt_lt, show (255 : Int32).toInt = 255 from by decide] at h
  omega
theorem own_dc_ch (d : Int32) : OwnCh (own_dc d) := own_lit_ch _
theorem own_dc_le (d : Int32) : ¬ ((255 : Int32) < own_dc d) := fun h => by
  have := own_lit_gb d.toNatClampNeg
  rw [Int32.lt_iff_toInt_lt, show (255 : Int32).toInt = 255 from by decide] at h
  unfold own_dc at h
  omega
theorem own_p32 {ch : Int32} (h : 0 ≤ ch.toInt ∧ ch.toInt ≤ 90) : (ch + (32 : Int32)).toInt = ch.toInt + 32 := by
  have q := c_iadd ch 32
  have r := rng32 (ch + 32)
  have k : (32 : Int32).toInt = 32 := by decide
  omega
theorem own_mc_bd (d mk iw : Int32) : 0 ≤ (own_mc (own_dc d) mk iw).toInt ∧ (own_mc (own_dc d) mk iw).toInt ≤ 122 := by
  have h : 0 ≤ (own_dc d).toInt ∧ (own_dc d).toInt ≤ 90 := own_lit_gb d.toNatClampNeg
  have q := own_p32 h
  unfold own_mc
  split
  · omega
  · split
    · omega
    · omega
theorem own_mc_ch (d mk iw : Int32) : OwnCh (own_mc (own_dc d) mk iw) := by
  have := own_mc_bd d mk iw
  exact ⟨by omega, by omega⟩
theorem own_mc_le (d mk iw : Int32) : ¬ ((255 : Int32) < own_mc (own_dc d) mk iw) := fun h => by
  have := own_mc_bd d mk iw
  rw [Int32.lt_iff_toInt_lt, show (255 : Int32).toInt = 255 from by decide] at h
  omega
theorem own_n32 (ch : Int32) {k : Nat} (h : ch = own_lit.getD k 0) : nar .char (ch + (32 : Int32)).toUInt32.toUInt16.toUInt32.toInt32 = ch + (32 : Int32) := by
  have q := own_p32 (ch := ch) (by rw [h]; exact own_lit_gb k)
  have r := own_lit_gb k
  rw [← h] at r
  have o : OwnCh (ch + (32 : Int32)) := ⟨by omega, by omega⟩
  have e := own_nch _ o
  show nar .char (nar .char (ch + (32 : Int32))) = ch + (32 : Int32)
  rw [e, e]
theorem own_litV {Z : State} {h : Heap} {b : Addr} {k : ClassId} (A : Arv Z h b k .byte (32 : Int32) (own_lit.map Value.int) (.int (0 : Int32))) : Arv Z h b k .byte (Int32.ofNat own_lit.length) (own_lit.map fun c => .int c.toInt8.toInt32) (.int (0 : Int32)) := by
  have e : (own_lit.map fun c => Value.int c.toInt8.toInt32) = own_lit.map Value.int := by
    apply List.map_congr_left
    intro c hc
    have b := own_lit_bd c hc
    have q := c_i2b c
    congr 1
    apply Int32.toInt_inj.mp
    omega
  rw [e]
  exact A
theorem own_lw0 (x : Int64) : lcmpW x x = (0 : Int32) := by
  apply Int32.toInt_inj.mp
  exact (c_lcmp x x).2.1 rfl
def own_ok (ch : Int32) : Prop := ¬ (ch < (0 : Int32)) ∧ ch < (128 : Int32) ∧ ¬ (own_tab.getD ch.toNatClampNeg 0 = (-1 : Int32))
instance (ch : Int32) : Decidable (own_ok ch) := inferInstanceAs (Decidable (_ ∧ _))
def own_good (cl : List Int32) : Prop := cl.length = 26 ∧ (∀ i, i < 26 → own_ok (cl.getD i 0)) ∧ ¬ ((7 : Int32) < own_tab.getD (cl.getD 0 0).toNatClampNeg 0)
theorem own_i26 (i : Nat) (hi : i ≤ 26) (h : Int32.ofNat i < (26 : Int32)) : i < 26 := own_lti i 26 h hi (by decide)
theorem own_i26e (i : Nat) (hi : i ≤ 26) (h : ¬ (Int32.ofNat i < (26 : Int32))) : i = 26 := own_nlti i 26 h hi (by decide)
theorem own_i0 (i : Nat) (hi : i ≤ 8192) (h : Int32.ofNat i = (0 : Int32)) : i = 0 := own_oinj i 0 h hi (by decide)
theorem own_l26 (cl : List Int32) (h : cl.length = 26) : Int32.ofNat cl.length = (26 : Int32) := by rw [h]; rfl
theorem own_tabg (k : Nat) : (own_tab.map Value.int).getD k (.int (0 : Int32)) = .int (own_tab.getD k 0) := by
  rw [List.getD_eq_getElem?_getD, List.getD_eq_getElem?_getD, List.getElem?_map]
  cases own_tab[k]? <;> rfl
theorem own_a31 (x : Int32) : ¬ ((x &&& (31 : Int32)) < (0 : Int32)) ∧ (x &&& (31 : Int32)) < (32 : Int32) := by
  have q := c_mask x 31 5 (by decide) (by decide)
  rw [Int32.lt_iff_toInt_lt, Int32.lt_iff_toInt_lt, show (0 : Int32).toInt = 0 from by decide, show (32 : Int32).toInt = 32 from by decide]
  omega
theorem own_b7 (x : Int64) : ¬ ((x &&& (7 : Int64)).toInt32 < (0 : Int32)) ∧ (x &&& (7 : Int64)).toInt32 < (32 : Int32) := by
  have q := c_maskL x 7 3 (by decide) (by decide)
  have r := c_l2i (x &&& 7)
  have s := rng32 (x &&& 7).toInt32
  rw [Int32.lt_iff_toInt_lt, Int32.lt_iff_toInt_lt, show (0 : Int32).toInt = 0 from by decide, show (32 : Int32).toInt = 32 from by decide]
  omega
theorem own_eqs (l : List Int32) : ¬ (own_eqv l l = (0 : Int32)) := by
  unfold own_eqv
  rw [if_pos rfl]
  decide
def own_st (hl : Int64 × Int64) (d : Int32) : Int64 × Int64 := ((hl.1 <<< ((5 : Int32) &&& 0x3f).toInt64) ||| ((hl.2.toUInt64 >>> ((59 : Int32) &&& 0x3f).toInt64.toUInt64).toInt64), (hl.2 <<< ((5 : Int32) &&& 0x3f).toInt64) ||| d.toInt64)
def own_p (cl : List Int32) : Nat → Int64 × Int64
  | 0 => ((0 : Int64), (0 : Int64))
  | i + 1 => own_st (own_p cl i) (own_tab.getD (cl.getD i 0).toNatClampNeg 0)
def own_sh (hl : Int64 × Int64) : Int64 × Int64 := (((hl.1.toUInt64 >>> ((5 : Int32) &&& 0x3f).toInt64.toUInt64).toInt64), (((hl.2.toUInt64 >>> ((5 : Int32) &&& 0x3f).toInt64.toUInt64).toInt64) ||| (hl.1 <<< ((59 : Int32) &&& 0x3f).toInt64)))
def own_q (hq lq : Int64) : Nat → Int64 × Int64
  | 0 => (hq, lq)
  | k + 1 => own_sh (own_q hq lq k)
theorem own_qs (hq lq : Int64) (k : Nat) : own_q hq lq (k + 1) = own_sh (own_q hq lq k) := rfl
theorem ef_rm_dig (m : MethodId) (x0 : Int64) (x1 : Int32) : entryFrame m #[(.long x0), (.int x1)] 3 = mkF m 0 #[.val (.long x0), .second, .val (.int x1)] [] := by first | (simp [entryFrame, mkF, argsToLocals, Value.category]; done) | rfl
theorem pn_com_example_known_paths_knownpaths_ulid_UlidParsePinLaw : plainName "com/example/known_paths/knownpaths/ulid/UlidParsePinLaw" = true := by first | (simp [plainName, overriddenIn]; done) | decide +kernel
abbrev M7 : MethodName := ⟨"com/example/known_paths/knownpaths/ulid/UlidParsePinLaw", "dig", "(JI)I"⟩
theorem d7_0 : decode method_2_code 0 = .ok (.lload_n 0, 1) := by decide +kernel
theorem d7_1 : decode method_2_code 1 = .ok (.iconst 5, 1) := by decide +kernel
theorem d7_2 : decode method_2_code 2 = .ok (.iload_n 2, 1) := by decide +kernel
theorem d7_3 : decode method_2_code 3 = .ok (.imul, 1) := by decide +kernel
theorem d7_4 : decode method_2_code 4 = .ok (.lushr, 1) := by decide +kernel
theorem d7_5 : decode method_2_code 5 = .ok (.ldc2_w 7, 3) := by decide +kernel
theorem d7_8 : decode method_2_code 8 = .ok (.land, 1) := by decide +kernel
theorem d7_9 : decode method_2_code 9 = .ok (.l2i, 1) := by decide +kernel
theorem d7_10 : decode method_2_code 10 = .ok (.ireturn, 1) := by decide +kernel
def own_dig (qp : Int64) (qk : Int32) : Int32 := ((((qp.toUInt64 >>> (((5 : Int32) * qk) &&& 0x3f).toInt64.toUInt64).toInt64) &&& (31 : Int64)).toInt32)
def Q_rm_dig (Z : State) (qp : Int64) (qk : Int32) (h0 : Heap) (n0 : Nat) (v : Option Value) (h : Heap) (L : List Loc) : Prop := v = some (.int (own_dig qp qk)) ∧ Fr n0 L ∧ h = h0
set_option maxRecDepth 65536 in
set_option maxHeartbeats 40000000 in
theorem rm_dig (l : Launch) (Z : State) (a0 : Array Value) (hw : ∀ d ∈ tables_1, d.before a0 Z = true) (ws : List Jvm.Cond) (qp : Int64) (qk : Int32) (h0 : Heap) (n0 : Nat) (Z0 : n0 ≤ h0.size)  :
    Met l Z M7 method_2_code 3 (some .int) ws (Rm 0 0 0 0) #[(.long qp), (.int qk)] h0 (Q_rm_dig Z qp qk h0 n0) := by
  refine met_of (plainFor_of_name pn_com_example_known_paths_knownpaths_ulid_UlidParsePinLaw) (own := "com/example/known_paths/knownpaths/ulid/UlidParsePinLaw") rfl (fun m => ef_rm_dig m qp qk) ?_
  intro p e s m below meth c s₁ hx hby hml hown hnm hZ X0 e0 hret hlk
  have N0 := Fr.nil n0
  show Goes p e below s _ _ _ (s₁.setTop (mkF m 0 #[.val (.long qp), .second, .val (.int qk)] []))
  refine Goes.pre (U' := s₁.setTop (mkF m 10 #[.val (.long qp), .second, .val (.int qk)] [(.int ((((qp.toUInt64 >>> (((5 : Int32) * qk) &&& 0x3f).toInt64.toUInt64).toInt64) &&& (31 : Int64)).toInt32))])) (fun t k => XS.lloadN X0.here hx rfl (hb hby d7_0) rfl (XS.iconst X0.here hx rfl (hb hby d7_1) (XS.iloadN X0.here hx rfl (hb hby d7_2) rfl (XS.imul X0.here hx rfl (hb hby d7_3) rfl (XS.lushr X0.here hx rfl (hb hby d7_4) rfl (X0.ldc2Long hx hown (mvT hZ (wq hw 42 rfl)) (g := (mkF m 5 #[.val (.long qp), .second, .val (.int qk)] [(.long ((qp.toUInt64 >>> (((5 : Int32) * qk) &&& 0x3f).toInt64.toUInt64).toInt64))])) rfl (hb hby d7_5) _ (XS.land X0.here hx rfl (hb hby d7_8) rfl (XS.l2i X0.here hx rfl (hb hby d7_9) rfl k)))))))) ?_
  refine Goes.ret X0 (v := (some (.int ((((qp.toUInt64 >>> (((5 : Int32) * qk) &&& 0x3f).toInt64.toUInt64).toInt64) &&& (31 : Int64)).toInt32)))) (fun h => by rw [hret] at h; cases h) hlk (by decide) (by decide) e0 (fun fs hr => retI X0 hx hret (hb hby d7_10) hr) ?_
  exact ⟨congrArg (fun z => some (Value.int z)) (show ((((qp.toUInt64 >>> (((5 : Int32) * qk) &&& 0x3f).toInt64.toUInt64).toInt64) &&& (31 : Int64)).toInt32) = own_dig qp qk from (show own_dig qp qk = ((((qp.toUInt64 >>> (((5 : Int32) * qk) &&& 0x3f).toInt64.toUInt64).toInt64) &&& (31 : Int64)).toInt32) from by unfold own_dig; rfl).symm), N0, rfl⟩
theorem ef_rm_putW (m : MethodId) (x0 : Addr) (x1 : Addr) (x2 : Int32) (x3 : Int32) (x4 : Int32) : entryFrame m #[(.ref x0), (.ref x1), (.int x2), (.int x3), (.int x4)] 6 = mkF m 0 #[.val (.ref x0), .val (.ref x1), .val (.int x2), .val (.int x3), .val (.int x4), .unset] [] := by first | (simp [entryFrame, mkF, argsToLocals, Value.category]; done) | rfl
abbrev M1 : MethodName := ⟨"com/example/known_paths/knownpaths/ulid/UlidParsePinLaw", "put", "([C[CIII)V"⟩
theorem d1_0 : decode method_3_code 0 = .ok (.ldc 9, 2) := by decide +kernel
theorem d1_2 : decode method_3_code 2 = .ok (.iload_n 3, 1) := by decide +kernel
theorem d1_3 : decode method_3_code 3 = .ok (.invokevirtual 11, 3) := by decide +kernel
theorem pd__28I_29C : parseMethodDescriptor "(I)C" = some ⟨[.int], some .char⟩ := by decide +kernel
theorem d1_6 : decode method_3_code 6 = .ok (.istore 5, 2) := by decide +kernel
theorem d1_8 : decode method_3_code 8 = .ok (.aload_n 1, 1) := by decide +kernel
theorem d1_9 : decode method_3_code 9 = .ok (.iload_n 2, 1) := by decide +kernel
theorem d1_10 : decode method_3_code 10 = .ok (.iload 5, 2) := by decide +kernel
theorem d1_12 : decode method_3_code 12 = .ok (.castore, 1) := by decide +kernel
theorem d1_13 : decode method_3_code 13 = .ok (.iload 5, 2) := by decide +kernel
theorem d1_15 : decode method_3_code 15 = .ok (.bipush 65, 2) := by decide +kernel
theorem d1_17 : decode method_3_code 17 = .ok (.if_icmp .lt 24, 3) := by decide +kernel
theorem d1_41 : decode method_3_code 41 = .ok (.aload_n 0, 1) := by decide +kernel
theorem d1_42 : decode method_3_code 42 = .ok (.iload_n 2, 1) := by decide +kernel
theorem d1_43 : decode method_3_code 43 = .ok (.iload 5, 2) := by decide +kernel
theorem d1_45 : decode method_3_code 45 = .ok (.castore, 1) := by decide +kernel
theorem d1_46 : decode method_3_code 46 = .ok (.return_, 1) := by decide +kernel
theorem d1_20 : decode method_3_code 20 = .ok (.iload 4, 2) := by decide +kernel
theorem d1_22 : decode method_3_code 22 = .ok (.iload_n 2, 1) := by decide +kernel
theorem d1_23 : decode method_3_code 23 = .ok (.iushr, 1) := by decide +kernel
theorem d1_24 : decode method_3_code 24 = .ok (.iconst 1, 1) := by decide +kernel
theorem d1_25 : decode method_3_code 25 = .ok (.iand, 1) := by decide +kernel
theorem d1_26 : decode method_3_code 26 = .ok (.ifCond .eq 15, 3) := by decide +kernel
theorem d1_29 : decode method_3_code 29 = .ok (.aload_n 0, 1) := by decide +kernel
theorem d1_30 : decode method_3_code 30 = .ok (.iload_n 2, 1) := by decide +kernel
theorem d1_31 : decode method_3_code 31 = .ok (.iload 5, 2) := by decide +kernel
theorem d1_33 : decode method_3_code 33 = .ok (.bipush 32, 2) := by decide +kernel
theorem d1_35 : decode method_3_code 35 = .ok (.iadd, 1) := by decide +kernel
theorem d1_36 : decode method_3_code 36 = .ok (.i2c, 1) := by decide +kernel
theorem d1_37 : decode method_3_code 37 = .ok (.castore, 1) := by decide +kernel
theorem d1_38 : decode method_3_code 38 = .ok (.goto 8, 3) := by decide +kernel
def Q_rm_putW (Z : State) (ma : Addr) (ua : Addr) (km : ClassId) (ku : ClassId) (mla : List Value) (ula : List Value) (ix : Nat) (iw : Int32) (dv : Int32) (mk : Int32) (cs : Int32) (sf : Value) (la : Addr) (lb : Addr) (kl : ClassId) (h0 : Heap) (n0 : Nat) (v : Option Value) (h : Heap) (L : List Loc) : Prop := v = none ∧ Fr n0 L ∧ Keep h0 h [ma, ua] ∧ Arv Z h ua ku .char (26 : Int32) (ula.set ix (.int (own_dc dv))) (.int (0 : Int32)) ∧ Arv Z h ma km .char (26 : Int32) (mla.set ix (.int (own_mc (own_dc dv) mk iw))) (.int (0 : Int32))
set_option maxRecDepth 65536 in
set_option maxHeartbeats 40000000 in
theorem rm_putW (l : Launch) (Z : State) (a0 : Array Value) (hw : ∀ d ∈ tables_1, d.before a0 Z = true) (ws : List Jvm.Cond) (ma : Addr) (ua : Addr) (km : ClassId) (ku : ClassId) (mla : List Value) (ula : List Value) (ix : Nat) (iw : Int32) (dv : Int32) (mk : Int32) (cs : Int32) (sf : Value) (la : Addr) (lb : Addr) (kl : ClassId) (h0 : Heap) (n0 : Nat) (Z0 : n0 ≤ h0.size) (V_ma : Arv Z h0 ma km .char (26 : Int32) mla (.int (0 : Int32))) (V_ua : Arv Z h0 ua ku .char (26 : Int32) ula (.int (0 : Int32))) (S_COMPACT_STRINGS : Sta Z Z.heap "java/lang/String" "COMPACT_STRINGS" "Z" (.int cs)) (S_SIOOBE_FORMATTER : Sta Z Z.heap "jdk/internal/util/Preconditions" "SIOOBE_FORMATTER" "Ljava/util/function/BiFunction;" sf) (S_la : OwnStr Z h0 la lb kl own_lit) (hix : iw.toNatClampNeg = ix) (hi1 : ¬ (iw < (0 : Int32)) ∧ iw < (26 : Int32)) (hi3 : ix < 26) (hmla : mla.length = 26) (hula : ula.length = 26) (hd1 : ¬ (dv < (0 : Int32))) (hd2 : dv < (32 : Int32)) (hcs : ¬ (cs = (0 : Int32))) (hsf : sf.isRef = true) (ne_ma_ua : ma ≠ ua) (ne_ua_ma : ua ≠ ma) (ne_la_ma : la ≠ ma) (ne_lb_ma : lb ≠ ma) (ne_la_ua : la ≠ ua) (ne_lb_ua : lb ≠ ua) (g_ma : n0 ≤ ma) (g_ua : n0 ≤ ua) (O : Old Z n0 h0) :
    MetL l Z M1 method_3_code 6 none ws (Rm 4 0 0 53) #[(.ref ma), (.ref ua), (.int iw), (.int dv), (.int mk)] h0 "com/example/known_paths/knownpaths/ulid/UlidParsePinLaw" 9 la (Q_rm_putW Z ma ua km ku mla ula ix iw dv mk cs sf la lb kl h0 n0) := by
  refine metL_of (plainFor_of_name pn_com_example_known_paths_knownpaths_ulid_UlidParsePinLaw) (own := "com/example/known_paths/knownpaths/ulid/UlidParsePinLaw") rfl (fun m => ef_rm_putW m ma ua iw dv mk) ?_
  intro p e s m below meth c s₁ hx hby hml hown hnm hZ X0 e0 hret hlk Li_la
  have N0 := Fr.nil n0
  have K0 := Keep.refl h0 [ma, ua]
  show Goes p e below s _ _ _ (s₁.setTop (mkF m 0 #[.val (.ref ma), .val (.ref ua), .val (.int iw), .val (.int dv), .val (.int mk), .unset] []))
  refine Goes.pre (U' := s₁.setTop (mkF m 3 #[.val (.ref ma), .val (.ref ua), .val (.int iw), .val (.int dv), .val (.int mk), .unset] [(.int dv), (.ref la)])) (fun t k => ldcAgain (s := s) (vm0 := s.vm) X0 hx hZ hown (wq hw 6 rfl) Li_la (g := (mkF m 0 #[.val (.ref ma), .val (.ref ua), .val (.int iw), .val (.int dv), .val (.int mk), .unset] [])) rfl (hb hby d1_0) t (XS.iloadN X0.here hx rfl (hb hby d1_2) rfl k)) ?_
  obtain ⟨cq1, kq1, q1a, q1b, q1c⟩ := isOf hZ e0 S_la.1
  obtain ⟨_, _, ⟨T1, L1, k1, n1⟩, -, X1, ⟨Lc1, hQ1, l1, y1, z1⟩, st1⟩ := X0.virtualBack hx (y := (⟨"java/lang/String", "charAt", "(I)C"⟩ : MethodName)) (z := (⟨"java/lang/String", "charAt", "(I)C"⟩ : MethodName)) hown (mvT hZ (wq hw 14 rfl)) (mvT hZ (wq hw 15 rfl)) (notFace_of_selects (args := #[]) (mvT hZ (wq hw 17 rfl))) (mvT hZ (wq hw 17 rfl)) (mvT hZ (wq hw 16 rfl)) (by decide) (backOf (W := 0) (rm_chG l Z a0 hw [] la lb kl own_lit dv cs sf h0 n0 Z0 S_la S_COMPACT_STRINGS S_SIOOBE_FORMATTER hd1 hd2 (by decide) hcs hsf O) hZ (wq hw 18 rfl) (wq hw 7 rfl) (by decide) (by decide)) q1a q1c (g := (mkF m 3 #[.val (.ref ma), .val (.ref ua), .val (.int iw), .val (.int dv), .val (.int mk), .unset] [(.int dv), (.ref la)])) rfl (by rw [hml]; rfl) (Steps.refl _) (argsL := [(.int dv)]) (rest := []) (lenOf pd__28I_29C rfl) rfl (by show 2 * 0 + _ ≤ _; exact Nat.le_of_eq rfl) (hb hby d1_3) (fun _ _ => ⟨rfl, e0, (by decide : 0 + 0 ≤ _), (by decide : 0 + 0 ≤ _)⟩)
  dsimp only [Pt.U, Pt.locs, Pt.cells, Pt.slots] at X1 l1 y1 z1 st1 hQ1
  rw [l1, y1, z1] at X1
  obtain ⟨rfl, N1q, HQ1⟩ := hQ1
  have N1 := Fr.app N0 N1q
  refine Goes.pre (U' := T1.setTop (mkF m 8 #[.val (.ref ma), .val (.ref ua), .val (.int iw), .val (.int dv), .val (.int mk), .val (.int (own_lit.getD dv.toNatClampNeg 0))] [])) (fun t k => st1.trans (XS.istore X1.here hx rfl (hb hby d1_6) rfl (l' := #[.val (.ref ma), .val (.ref ua), .val (.int iw), .val (.int dv), .val (.int mk), .val (.int (own_lit.getD dv.toNatClampNeg 0))]) rfl k)) ?_
  obtain ⟨ch, hch⟩ : ∃ z : Int32, z = (own_lit.getD dv.toNatClampNeg 0) := ⟨_, rfl⟩
  rw [← hch]
  have hchc : OwnCh ch := by rw [hch]; exact own_lit_ch _
  refine Goes.pre (U' := T1.setTop (mkF m 12 #[.val (.ref ma), .val (.ref ua), .val (.int iw), .val (.int dv), .val (.int mk), .val (.int ch)] [(.int ch), (.int iw), (.ref ua)])) (fun t k => XS.aloadN X1.here hx rfl (hb hby d1_8) rfl rfl (XS.iloadN X1.here hx rfl (hb hby d1_9) rfl (XS.iload X1.here hx rfl (hb hby d1_10) rfl k))) ?_
  obtain ⟨cl2, Ar2, q2, Sz2, Ng2, Hs2, Ft2⟩ := id V_ua
  obtain ⟨T2, h2, X2, e2, W2, st2⟩ := stC X1 hx hZ HQ1 Ar2 (j := iw) (inb_of Sz2 hi1) (g := (mkF m 12 #[.val (.ref ma), .val (.ref ua), .val (.int iw), .val (.int dv), .val (.int mk), .val (.int ch)] [(.int ch), (.int iw), (.ref ua)])) rfl rfl (hb hby d1_12)
  have nr2 : nar .char ch = ch := own_nch _ hchc
  have ft2 : fits .char (.int ch) = true := nr2 ▸ (fits_nar_char ch : fits .char (.int (nar .char ch)) = true)
  rw [nr2] at W2
  have V_ma := V_ma.other W2 ne_ma_ua
  have S_la := S_la.keep (Keep.of_wr W2) (ninS ne_la_ua nin0) (ninS ne_lb_ua nin0)
  have Z2 : n0 ≤ h2.size := Nat.le_trans Z0 (Keep.of_wr W2).1
  have O := O.wr W2 g_ua
  have V_ua : Arv Z h2 ua ku .char (26 : Int32) (ula.set ix (.int ch)) (.int (0 : Int32)) := Arv.set Ar2 q2 Sz2 Ng2 Hs2 Ft2 ft2 W2 ix hix (by rw [hula]; exact hi3)
  have K2 := K0.wr W2 (Or.inl (List.mem_of_getElem? (i := 1) rfl))
  have N2 := Fr.snoc X2 N1 g_ua
  refine Goes.pre (U' := T2.setTop (mkF m 17 #[.val (.ref ma), .val (.ref ua), .val (.int iw), .val (.int dv), .val (.int mk), .val (.int ch)] [(.int (65 : Int32)), (.int ch)])) (fun t k => st2 t (XS.iload X2.here hx rfl (hb hby d1_13) rfl (XS.bipush X2.here hx rfl (hb hby d1_15) k))) ?_
  by_cases hc17 : ch < (65 : Int32)
  ·
    refine Goes.pre (U' := T2.setTop (mkF m 45 #[.val (.ref ma), .val (.ref ua), .val (.int iw), .val (.int dv), .val (.int mk), .val (.int ch)] [(.int ch), (.int iw), (.ref ma)])) (fun t k => XS.icmpYes X2.here hx rfl (pc0 := 17) (pc' := 41) rfl (hb hby d1_17) rfl (tlt hc17).1 (by decide) (by decide) (XS.aloadN X2.here hx rfl (hb hby d1_41) rfl rfl (XS.iloadN X2.here hx rfl (hb hby d1_42) rfl (XS.iload X2.here hx rfl (hb hby d1_43) rfl k)))) ?_
    obtain ⟨cl3, Ar3, q3, Sz3, Ng3, Hs3, Ft3⟩ := id V_ma
    obtain ⟨T3, h3, X3, e3, W3, st3⟩ := stC X2 hx hZ e2 Ar3 (j := iw) (inb_of Sz3 hi1) (g := (mkF m 45 #[.val (.ref ma), .val (.ref ua), .val (.int iw), .val (.int dv), .val (.int mk), .val (.int ch)] [(.int ch), (.int iw), (.ref ma)])) rfl rfl (hb hby d1_45)
    have nr3 : nar .char ch = ch := own_nch _ hchc
    have ft3 : fits .char (.int ch) = true := nr3 ▸ (fits_nar_char ch : fits .char (.int (nar .char ch)) = true)
    rw [nr3] at W3
    have V_ua := V_ua.other W3 ne_ua_ma
    have S_la := S_la.keep (Keep.of_wr W3) (ninS ne_la_ma nin0) (ninS ne_lb_ma nin0)
    have Z3 : n0 ≤ h3.size := Nat.le_trans Z2 (Keep.of_wr W3).1
    have O := O.wr W3 g_ma
    have V_ma : Arv Z h3 ma km .char (26 : Int32) (mla.set ix (.int ch)) (.int (0 : Int32)) := Arv.set Ar3 q3 Sz3 Ng3 Hs3 Ft3 ft3 W3 ix hix (by rw [hmla]; exact hi3)
    have K3 := K2.wr W3 (Or.inl (List.mem_of_getElem? (i := 0) rfl))
    have N3 := Fr.snoc X3 N2 g_ma
    refine Goes.pre (U' := T3.setTop (mkF m 46 #[.val (.ref ma), .val (.ref ua), .val (.int iw), .val (.int dv), .val (.int mk), .val (.int ch)] [])) (fun t k => st3 t k) ?_
    refine Goes.ret X3 (v := none) (fun _ => rfl) hlk (by decide) (by decide) e3 (fun fs hr => X3.returnOut hx hret (hb hby d1_46) hr) ?_
    have eM : own_mc (own_dc dv) mk iw = ch := by rw [show own_dc dv = ch from hch.symm]; unfold own_mc; rw [if_pos hc17]
    rw [← eM] at V_ma
    rw [show ch = own_dc dv from hch] at V_ua
    exact ⟨rfl, N3, K3, V_ua, V_ma⟩
  ·
    refine Goes.pre (U' := T2.setTop (mkF m 26 #[.val (.ref ma), .val (.ref ua), .val (.int iw), .val (.int dv), .val (.int mk), .val (.int ch)] [(.int (((mk.toUInt32 >>> (iw &&& 31).toUInt32).toInt32) &&& (1 : Int32)))])) (fun t k => XS.icmpNo X2.here hx rfl (hb hby d1_17) rfl (flt hc17).1 (XS.iload X2.here hx rfl (hb hby d1_20) rfl (XS.iloadN X2.here hx rfl (hb hby d1_22) rfl (XS.iushr X2.here hx rfl (hb hby d1_23) rfl (XS.iconst X2.here hx rfl (hb hby d1_24) (XS.iand X2.here hx rfl (hb hby d1_25) rfl k)))))) ?_
    by_cases hc26 : (((mk.toUInt32 >>> (iw &&& 31).toUInt32).toInt32) &&& (1 : Int32)) = (0 : Int32)
    ·
      refine Goes.pre (U' := T2.setTop (mkF m 45 #[.val (.ref ma), .val (.ref ua), .val (.int iw), .val (.int dv), .val (.int mk), .val (.int ch)] [(.int ch), (.int iw), (.ref ma)])) (fun t k => XS.ifYes X2.here hx rfl (pc0 := 26) (pc' := 41) rfl (hb hby d1_26) rfl ((if0 _ _).trans (teq hc26).1) (by decide) (by decide) (XS.aloadN X2.here hx rfl (hb hby d1_41) rfl rfl (XS.iloadN X2.here hx rfl (hb hby d1_42) rfl (XS.iload X2.here hx rfl (hb hby d1_43) rfl k)))) ?_
      obtain ⟨cl4, Ar4, q4, Sz4, Ng4, Hs4, Ft4⟩ := id V_ma
      obtain ⟨T4, h4, X4, e4, W4, st4⟩ := stC X2 hx hZ e2 Ar4 (j := iw) (inb_of Sz4 hi1) (g := (mkF m 45 #[.val (.ref ma), .val (.ref ua), .val (.int iw), .val (.int dv), .val (.int mk), .val (.int ch)] [(.int ch), (.int iw), (.ref ma)])) rfl rfl (hb hby d1_45)
      have nr4 : nar .char ch = ch := own_nch _ hchc
      have ft4 : fits .char (.int ch) = true := nr4 ▸ (fits_nar_char ch : fits .char (.int (nar .char ch)) = true)
      rw [nr4] at W4
      have V_ua := V_ua.other W4 ne_ua_ma
      have S_la := S_la.keep (Keep.of_wr W4) (ninS ne_la_ma nin0) (ninS ne_lb_ma nin0)
      have Z4 : n0 ≤ h4.size := Nat.le_trans Z2 (Keep.of_wr W4).1
      have O := O.wr W4 g_ma
      have V_ma : Arv Z h4 ma km .char (26 : Int32) (mla.set ix (.int ch)) (.int (0 : Int32)) := Arv.set Ar4 q4 Sz4 Ng4 Hs4 Ft4 ft4 W4 ix hix (by rw [hmla]; exact hi3)
      have K4 := K2.wr W4 (Or.inl (List.mem_of_getElem? (i := 0) rfl))
      have N4 := Fr.snoc X4 N2 g_ma
      refine Goes.pre (U' := T4.setTop (mkF m 46 #[.val (.ref ma), .val (.ref ua), .val (.int iw), .val (.int dv), .val (.int mk), .val (.int ch)] [])) (fun t k => st4 t k) ?_
      refine Goes.ret X4 (v := none) (fun _ => rfl) hlk (by decide) (by decide) e4 (fun fs hr => X4.returnOut hx hret (hb hby d1_46) hr) ?_
      have eM : own_mc (own_dc dv) mk iw = ch := by rw [show own_dc dv = ch from hch.symm]; unfold own_mc; rw [if_neg hc17, if_pos hc26]
      rw [← eM] at V_ma
      rw [show ch = own_dc dv from hch] at V_ua
      exact ⟨rfl, N4, K4, V_ua, V_ma⟩
    ·
      refine Goes.pre (U' := T2.setTop (mkF m 37 #[.val (.ref ma), .val (.ref ua), .val (.int iw), .val (.int dv), .val (.int mk), .val (.int ch)] [(.int ((ch + (32 : Int32)).toUInt32.toUInt16.toUInt32.toInt32)), (.int iw), (.ref ma)])) (fun t k => XS.ifNo X2.here hx rfl (hb hby d1_26) rfl ((if0 _ _).trans (feq hc26).1) (XS.aloadN X2.here hx rfl (hb hby d1_29) rfl rfl (XS.iloadN X2.here hx rfl (hb hby d1_30) rfl (XS.iload X2.here hx rfl (hb hby d1_31) rfl (XS.bipush X2.here hx rfl (hb hby d1_33) (XS.iadd X2.here hx rfl (hb hby d1_35) rfl (XS.i2c X2.here hx rfl (hb hby d1_36) rfl k))))))) ?_
      obtain ⟨cl5, Ar5, q5, Sz5, Ng5, Hs5, Ft5⟩ := id V_ma
      obtain ⟨T5, h5, X5, e5, W5, st5⟩ := stC X2 hx hZ e2 Ar5 (j := iw) (inb_of Sz5 hi1) (g := (mkF m 37 #[.val (.ref ma), .val (.ref ua), .val (.int iw), .val (.int dv), .val (.int mk), .val (.int ch)] [(.int ((ch + (32 : Int32)).toUInt32.toUInt16.toUInt32.toInt32)), (.int iw), (.ref ma)])) rfl rfl (hb hby d1_37)
      have nr5 : nar .char ((ch + (32 : Int32)).toUInt32.toUInt16.toUInt32.toInt32) = (ch + (32 : Int32)) := own_n32 ch hch
      have ft5 : fits .char (.int (ch + (32 : Int32))) = true := nr5 ▸ (fits_nar_char ((ch + (32 : Int32)).toUInt32.toUInt16.toUInt32.toInt32) : fits .char (.int (nar .char ((ch + (32 : Int32)).toUInt32.toUInt16.toUInt32.toInt32))) = true)
      rw [nr5] at W5
      have V_ua := V_ua.other W5 ne_ua_ma
      have S_la := S_la.keep (Keep.of_wr W5) (ninS ne_la_ma nin0) (ninS ne_lb_ma nin0)
      have Z5 : n0 ≤ h5.size := Nat.le_trans Z2 (Keep.of_wr W5).1
      have O := O.wr W5 g_ma
      have V_ma : Arv Z h5 ma km .char (26 : Int32) (mla.set ix (.int (ch + (32 : Int32)))) (.int (0 : Int32)) := Arv.set Ar5 q5 Sz5 Ng5 Hs5 Ft5 ft5 W5 ix hix (by rw [hmla]; exact hi3)
      have K5 := K2.wr W5 (Or.inl (List.mem_of_getElem? (i := 0) rfl))
      have N5 := Fr.snoc X5 N2 g_ma
      refine Goes.pre (U' := T5.setTop (mkF m 46 #[.val (.ref ma), .val (.ref ua), .val (.int iw), .val (.int dv), .val (.int mk), .val (.int ch)] [])) (fun t k => st5 t (XS.goto X5.here hx rfl (pc0 := 38) (pc' := 46) rfl (hb hby d1_38) (by decide) (by decide) k)) ?_
      refine Goes.ret X5 (v := none) (fun _ => rfl) hlk (by decide) (by decide) e5 (fun fs hr => X5.returnOut hx hret (hb hby d1_46) hr) ?_
      have eM : own_mc (own_dc dv) mk iw = (ch + (32 : Int32)) := by rw [show own_dc dv = ch from hch.symm]; unfold own_mc; rw [if_neg hc17, if_neg hc26]
      rw [← eM] at V_ma
      rw [show ch = own_dc dv from hch] at V_ua
      exact ⟨rfl, N5, K5, V_ua, V_ma⟩
theorem ef_rm_putC (m : MethodId) (x0 : Addr) (x1 : Addr) (x2 : Int32) (x3 : Int32) (x4 : Int32) : entryFrame m #[(.ref x0), (.ref x1), (.int x2), (.int x3), (.int x4)] 6 = mkF m 0 #[.val (.ref x0), .val (.ref x1), .val (.int x2), .val (.int x3), .val (.int x4), .unset] [] := by first | (simp [entryFrame, mkF, argsToLocals, Value.category]; done) | rfl
def Q_rm_putC (Z : State) (ma : Addr) (ua : Addr) (km : ClassId) (ku : ClassId) (mla : List Value) (ula : List Value) (ix : Nat) (iw : Int32) (dv : Int32) (mk : Int32) (cs : Int32) (sf : Value) (h0 : Heap) (n0 : Nat) (vm : Vm) (v : Option Value) (h : Heap) (L : List Loc) : Prop := ∃ (la : Addr) (lb : Addr) (kl : ClassId), v = none ∧ Fr n0 L ∧ Keep h0 h [ma, ua] ∧ Arv Z h ua ku .char (26 : Int32) (ula.set ix (.int (own_dc dv))) (.int (0 : Int32)) ∧ Arv Z h ma km .char (26 : Int32) (mla.set ix (.int (own_mc (own_dc dv) mk iw))) (.int (0 : Int32)) ∧ OwnStr Z h la lb kl own_lit ∧ Lit (Z.setVm vm) "com/example/known_paths/knownpaths/ulid/UlidParsePinLaw" 9 la ∧ ma ≠ la ∧ ma ≠ lb ∧ ua ≠ la ∧ ua ≠ lb
set_option maxRecDepth 65536 in
set_option maxHeartbeats 40000000 in
theorem rm_putC (l : Launch) (Z : State) (a0 : Array Value) (hw : ∀ d ∈ tables_1, d.before a0 Z = true) (hEL : EW Z a0 own_EL) (ws : List Jvm.Cond) (ma : Addr) (ua : Addr) (km : ClassId) (ku : ClassId) (mla : List Value) (ula : List Value) (ix : Nat) (iw : Int32) (dv : Int32) (mk : Int32) (cs : Int32) (sf : Value) (h0 : Heap) (n0 : Nat) (Z0 : n0 ≤ h0.size) (V_ma : Arv Z h0 ma km .char (26 : Int32) mla (.int (0 : Int32))) (V_ua : Arv Z h0 ua ku .char (26 : Int32) ula (.int (0 : Int32))) (S_COMPACT_STRINGS : Sta Z Z.heap "java/lang/String" "COMPACT_STRINGS" "Z" (.int cs)) (S_SIOOBE_FORMATTER : Sta Z Z.heap "jdk/internal/util/Preconditions" "SIOOBE_FORMATTER" "Ljava/util/function/BiFunction;" sf) (hix : iw.toNatClampNeg = ix) (hi1 : ¬ (iw < (0 : Int32)) ∧ iw < (26 : Int32)) (hi3 : ix < 26) (hmla : mla.length = 26) (hula : ula.length = 26) (hd1 : ¬ (dv < (0 : Int32))) (hd2 : dv < (32 : Int32)) (hcs : ¬ (cs = (0 : Int32))) (hsf : sf.isRef = true) (ne_ma_ua : ma ≠ ua) (ne_ua_ma : ua ≠ ma) (g_ma : n0 ≤ ma) (g_ua : n0 ≤ ua) (O : Old Z n0 h0) :
    MetW l Z own_EL M1 method_3_code 6 none ws (Rm 4 2 132 53) #[(.ref ma), (.ref ua), (.int iw), (.int dv), (.int mk)] [ma, ua] h0 (Q_rm_putC Z ma ua km ku mla ula ix iw dv mk cs sf h0 n0) := by
  refine metW_of (plainFor_of_name pn_com_example_known_paths_knownpaths_ulid_UlidParsePinLaw) (own := "com/example/known_paths/knownpaths/ulid/UlidParsePinLaw") rfl (fun m => ef_rm_putC m ma ua iw dv mk) ?_
  intro p e s m below meth c s₁ hx hby hml hown hnm hZ X0 e0 hret hlk H hSf CR hS
  have N0 := Fr.nil n0
  have K0 := Keep.refl h0 [ma, ua]
  have hk := Nat.le_refl h0.size
  have SF_ma := hSf ma (List.mem_of_getElem? (i := 0) rfl)
  have SF_ua := hSf ua (List.mem_of_getElem? (i := 1) rfl)
  show GoesW p e below s Z own_EL _ _ _ (s₁.setTop (mkF m 0 #[.val (.ref ma), .val (.ref ua), .val (.int iw), .val (.int dv), .val (.int mk), .unset] []))
  have lt0_ma := V_ma.lt
  have lt0_ua := V_ua.lt
  obtain ⟨ls1, T1, h1, k1_1, lb1, kl1, X1, e1, E1, hS1, hk1, hZ1, hown1, El1, Fc1, Fv1, Av1, lta1, ltb1, CQ1, Li1, Sne1, st1⟩ := ldcCH X0 hx hZ hown (wq hw 6 rfl) (own_atoms hw) e0 hS hk hEL (List.mem_of_getElem? (i := 1) rfl) H (vs := [(.int (48 : Int32)), (.int (49 : Int32)), (.int (50 : Int32)), (.int (51 : Int32)), (.int (52 : Int32)), (.int (53 : Int32)), (.int (54 : Int32)), (.int (55 : Int32)), (.int (56 : Int32)), (.int (57 : Int32)), (.int (65 : Int32)), (.int (66 : Int32)), (.int (67 : Int32)), (.int (68 : Int32)), (.int (69 : Int32)), (.int (70 : Int32)), (.int (71 : Int32)), (.int (72 : Int32)), (.int (74 : Int32)), (.int (75 : Int32)), (.int (77 : Int32)), (.int (78 : Int32)), (.int (80 : Int32)), (.int (81 : Int32)), (.int (82 : Int32)), (.int (83 : Int32)), (.int (84 : Int32)), (.int (86 : Int32)), (.int (87 : Int32)), (.int (88 : Int32)), (.int (89 : Int32)), (.int (90 : Int32))]) (z := (32 : Int32)) ⟨by decide, by decide⟩ (by decide) (by decide) (g := (mkF m 0 #[.val (.ref ma), .val (.ref ua), .val (.int iw), .val (.int dv), .val (.int mk), .unset] [])) rfl (hb hby d1_0) (n := 128) (by decide) (by decide) (by decide) (by decide)
  have V_ma := V_ma.ext E1
  have V_ua := V_ua.ext E1
  have O := O.ext E1
  have SF_ma : Safe Z own_EL T1.vm h1 ma := CQ1.safe lt0_ma SF_ma
  have SF_ua : Safe Z own_EL T1.vm h1 ua := CQ1.safe lt0_ua SF_ua
  have Z1 : n0 ≤ h1.size := Nat.le_trans Z0 E1.1
  have K1 := K0.ext E1
  have hS := hS1
  have hk := hk1
  have hZ := hZ1
  have hown := hown1
  have H := CQ1.1
  have CR := CR.trans CQ1
  obtain ⟨ne_ma_ls1, ne_ma_lb1⟩ := Sne1 ma SF_ma
  have ne_ls1_ma := ne_ma_ls1.symm
  have ne_lb1_ma := ne_ma_lb1.symm
  obtain ⟨ne_ua_ls1, ne_ua_lb1⟩ := Sne1 ua SF_ua
  have ne_ls1_ua := ne_ua_ls1.symm
  have ne_lb1_ua := ne_ua_lb1.symm
  have E_ls1 := El1
  have F_coder_ls1 := Fc1
  have F_value_ls1 := Fv1
  have V_lb1 := Av1
  have Li_ls1 := Li1
  refine GoesW.pre (U' := T1.setTop (mkF m 2 #[.val (.ref ma), .val (.ref ua), .val (.int iw), .val (.int dv), .val (.int mk), .unset] [(.ref ls1)])) (fun t k => st1 t k) ?_
  have S_ls1 : OwnStr Z h1 ls1 lb1 kl1 own_lit := ⟨E_ls1, F_value_ls1, own_lit_all, F_coder_ls1, own_litV V_lb1, own_lit_le⟩
  refine GoesW.pre (U' := T1.setTop (mkF m 3 #[.val (.ref ma), .val (.ref ua), .val (.int iw), .val (.int dv), .val (.int mk), .unset] [(.int dv), (.ref ls1)])) (fun t k => XS.iloadN X1.here hx rfl (hb hby d1_2) rfl k) ?_
  obtain ⟨cq2, kq2, q2a, q2b, q2c⟩ := isOf hZ e1 S_ls1.1
  obtain ⟨_, _, ⟨T2, L2, k2, n2⟩, -, X2, ⟨Lc2, hQ2, l2, y2, z2⟩, st2⟩ := X1.virtualBack hx (y := (⟨"java/lang/String", "charAt", "(I)C"⟩ : MethodName)) (z := (⟨"java/lang/String", "charAt", "(I)C"⟩ : MethodName)) hown (mvT hZ (wq hw 14 rfl)) (mvT hZ (wq hw 15 rfl)) (notFace_of_selects (args := #[]) (mvT hZ (wq hw 17 rfl))) (mvT hZ (wq hw 17 rfl)) (mvT hZ (wq hw 16 rfl)) (by decide) (backOf (W := 0) (rm_chG l Z a0 hw [] ls1 lb1 kl1 own_lit dv cs sf h1 n0 Z1 S_ls1 S_COMPACT_STRINGS S_SIOOBE_FORMATTER hd1 hd2 (by decide) hcs hsf O) hZ (wq hw 18 rfl) (wq hw 7 rfl) (by decide) (by decide)) q2a q2c (g := (mkF m 3 #[.val (.ref ma), .val (.ref ua), .val (.int iw), .val (.int dv), .val (.int mk), .unset] [(.int dv), (.ref ls1)])) rfl (by rw [hml]; rfl) (Steps.refl _) (argsL := [(.int dv)]) (rest := []) (lenOf pd__28I_29C rfl) rfl (by show 2 * 0 + _ ≤ _; exact Nat.le_of_eq rfl) (hb hby d1_3) (fun _ _ => ⟨rfl, e1, (by decide : 2 + 0 ≤ _), (by decide : 132 + 0 ≤ _)⟩)
  dsimp only [Pt.U, Pt.locs, Pt.cells, Pt.slots] at X2 l2 y2 z2 st2 hQ2
  rw [l2, y2, z2] at X2
  obtain ⟨rfl, N2q, HQ2⟩ := hQ2
  have N2 := Fr.app N0 N2q
  refine GoesW.pre (U' := T2.setTop (mkF m 8 #[.val (.ref ma), .val (.ref ua), .val (.int iw), .val (.int dv), .val (.int mk), .val (.int (own_lit.getD dv.toNatClampNeg 0))] [])) (fun t k => st2.trans (XS.istore X2.here hx rfl (hb hby d1_6) rfl (l' := #[.val (.ref ma), .val (.ref ua), .val (.int iw), .val (.int dv), .val (.int mk), .val (.int (own_lit.getD dv.toNatClampNeg 0))]) rfl k)) ?_
  obtain ⟨ch, hch⟩ : ∃ z : Int32, z = (own_lit.getD dv.toNatClampNeg 0) := ⟨_, rfl⟩
  rw [← hch]
  have hchc : OwnCh ch := by rw [hch]; exact own_lit_ch _
  refine GoesW.pre (U' := T2.setTop (mkF m 12 #[.val (.ref ma), .val (.ref ua), .val (.int iw), .val (.int dv), .val (.int mk), .val (.int ch)] [(.int ch), (.int iw), (.ref ua)])) (fun t k => XS.aloadN X2.here hx rfl (hb hby d1_8) rfl rfl (XS.iloadN X2.here hx rfl (hb hby d1_9) rfl (XS.iload X2.here hx rfl (hb hby d1_10) rfl k))) ?_
  obtain ⟨cl3, Ar3, q3, Sz3, Ng3, Hs3, Ft3⟩ := id V_ua
  obtain ⟨T3, h3, X3, e3, W3, st3⟩ := stC X2 hx hZ HQ2 Ar3 (j := iw) (inb_of Sz3 hi1) (g := (mkF m 12 #[.val (.ref ma), .val (.ref ua), .val (.int iw), .val (.int dv), .val (.int mk), .val (.int ch)] [(.int ch), (.int iw), (.ref ua)])) rfl rfl (hb hby d1_12)
  have nr3 : nar .char ch = ch := own_nch _ hchc
  have ft3 : fits .char (.int ch) = true := nr3 ▸ (fits_nar_char ch : fits .char (.int (nar .char ch)) = true)
  rw [nr3] at W3
  have V_ma := V_ma.other W3 ne_ma_ua
  have S_ls1 := S_ls1.keep (Keep.of_wr W3) (ninS ne_ls1_ua nin0) (ninS ne_lb1_ua nin0)
  have Z3 : n0 ≤ h3.size := Nat.le_trans Z1 (Keep.of_wr W3).1
  have O := O.wr W3 g_ua
  have SFo := SF_ua
  have SF_ma := Safe.wr W3 SFo H SF_ma
  have SF_ua := Safe.wr W3 SFo H SF_ua
  have CR := CR.trans (CHr.wr W3 SFo H)
  have H := H.wr W3 SFo
  have hk := Nat.le_trans hk (Keep.of_wr W3).1
  have V_ua : Arv Z h3 ua ku .char (26 : Int32) (ula.set ix (.int ch)) (.int (0 : Int32)) := Arv.set Ar3 q3 Sz3 Ng3 Hs3 Ft3 ft3 W3 ix hix (by rw [hula]; exact hi3)
  have K3 := K1.wr W3 (Or.inl (List.mem_of_getElem? (i := 1) rfl))
  have N3 := Fr.snoc X3 N2 g_ua
  refine GoesW.pre (U' := T3.setTop (mkF m 17 #[.val (.ref ma), .val (.ref ua), .val (.int iw), .val (.int dv), .val (.int mk), .val (.int ch)] [(.int (65 : Int32)), (.int ch)])) (fun t k => st3 t (XS.iload X3.here hx rfl (hb hby d1_13) rfl (XS.bipush X3.here hx rfl (hb hby d1_15) k))) ?_
  by_cases hc17 : ch < (65 : Int32)
  ·
    refine GoesW.pre (U' := T3.setTop (mkF m 45 #[.val (.ref ma), .val (.ref ua), .val (.int iw), .val (.int dv), .val (.int mk), .val (.int ch)] [(.int ch), (.int iw), (.ref ma)])) (fun t k => XS.icmpYes X3.here hx rfl (pc0 := 17) (pc' := 41) rfl (hb hby d1_17) rfl (tlt hc17).1 (by decide) (by decide) (XS.aloadN X3.here hx rfl (hb hby d1_41) rfl rfl (XS.iloadN X3.here hx rfl (hb hby d1_42) rfl (XS.iload X3.here hx rfl (hb hby d1_43) rfl k)))) ?_
    obtain ⟨cl4, Ar4, q4, Sz4, Ng4, Hs4, Ft4⟩ := id V_ma
    obtain ⟨T4, h4, X4, e4, W4, st4⟩ := stC X3 hx hZ e3 Ar4 (j := iw) (inb_of Sz4 hi1) (g := (mkF m 45 #[.val (.ref ma), .val (.ref ua), .val (.int iw), .val (.int dv), .val (.int mk), .val (.int ch)] [(.int ch), (.int iw), (.ref ma)])) rfl rfl (hb hby d1_45)
    have nr4 : nar .char ch = ch := own_nch _ hchc
    have ft4 : fits .char (.int ch) = true := nr4 ▸ (fits_nar_char ch : fits .char (.int (nar .char ch)) = true)
    rw [nr4] at W4
    have V_ua := V_ua.other W4 ne_ua_ma
    have S_ls1 := S_ls1.keep (Keep.of_wr W4) (ninS ne_ls1_ma nin0) (ninS ne_lb1_ma nin0)
    have Z4 : n0 ≤ h4.size := Nat.le_trans Z3 (Keep.of_wr W4).1
    have O := O.wr W4 g_ma
    have SFo := SF_ma
    have SF_ma := Safe.wr W4 SFo H SF_ma
    have SF_ua := Safe.wr W4 SFo H SF_ua
    have CR := CR.trans (CHr.wr W4 SFo H)
    have H := H.wr W4 SFo
    have hk := Nat.le_trans hk (Keep.of_wr W4).1
    have V_ma : Arv Z h4 ma km .char (26 : Int32) (mla.set ix (.int ch)) (.int (0 : Int32)) := Arv.set Ar4 q4 Sz4 Ng4 Hs4 Ft4 ft4 W4 ix hix (by rw [hmla]; exact hi3)
    have K4 := K3.wr W4 (Or.inl (List.mem_of_getElem? (i := 0) rfl))
    have N4 := Fr.snoc X4 N3 g_ma
    refine GoesW.pre (U' := T4.setTop (mkF m 46 #[.val (.ref ma), .val (.ref ua), .val (.int iw), .val (.int dv), .val (.int mk), .val (.int ch)] [])) (fun t k => st4 t k) ?_
    refine GoesW.ret X4 hZ hEL hS hk H CR (v := none) (fun _ => rfl) hlk (by decide) (by decide) e4 (fun fs hr => X4.returnOut hx hret (hb hby d1_46) hr) ?_
    have eM : own_mc (own_dc dv) mk iw = ch := by rw [show own_dc dv = ch from hch.symm]; unfold own_mc; rw [if_pos hc17]
    rw [← eM] at V_ma
    rw [show ch = own_dc dv from hch] at V_ua
    exact ⟨ls1, lb1, kl1, rfl, N4, K4, V_ua, V_ma, S_ls1, ⟨Lit.stays Li_ls1 (wtrans (State.Warmed39.refl _) X4.warmed), ne_ma_ls1, ne_ma_lb1, ne_ua_ls1, ne_ua_lb1⟩⟩
  ·
    refine GoesW.pre (U' := T3.setTop (mkF m 26 #[.val (.ref ma), .val (.ref ua), .val (.int iw), .val (.int dv), .val (.int mk), .val (.int ch)] [(.int (((mk.toUInt32 >>> (iw &&& 31).toUInt32).toInt32) &&& (1 : Int32)))])) (fun t k => XS.icmpNo X3.here hx rfl (hb hby d1_17) rfl (flt hc17).1 (XS.iload X3.here hx rfl (hb hby d1_20) rfl (XS.iloadN X3.here hx rfl (hb hby d1_22) rfl (XS.iushr X3.here hx rfl (hb hby d1_23) rfl (XS.iconst X3.here hx rfl (hb hby d1_24) (XS.iand X3.here hx rfl (hb hby d1_25) rfl k)))))) ?_
    by_cases hc26 : (((mk.toUInt32 >>> (iw &&& 31).toUInt32).toInt32) &&& (1 : Int32)) = (0 : Int32)
    ·
      refine GoesW.pre (U' := T3.setTop (mkF m 45 #[.val (.ref ma), .val (.ref ua), .val (.int iw), .val (.int dv), .val (.int mk), .val (.int ch)] [(.int ch), (.int iw), (.ref ma)])) (fun t k => XS.ifYes X3.here hx rfl (pc0 := 26) (pc' := 41) rfl (hb hby d1_26) rfl ((if0 _ _).trans (teq hc26).1) (by decide) (by decide) (XS.aloadN X3.here hx rfl (hb hby d1_41) rfl rfl (XS.iloadN X3.here hx rfl (hb hby d1_42) rfl (XS.iload X3.here hx rfl (hb hby d1_43) rfl k)))) ?_
      obtain ⟨cl5, Ar5, q5, Sz5, Ng5, Hs5, Ft5⟩ := id V_ma
      obtain ⟨T5, h5, X5, e5, W5, st5⟩ := stC X3 hx hZ e3 Ar5 (j := iw) (inb_of Sz5 hi1) (g := (mkF m 45 #[.val (.ref ma), .val (.ref ua), .val (.int iw), .val (.int dv), .val (.int mk), .val (.int ch)] [(.int ch), (.int iw), (.ref ma)])) rfl rfl (hb hby d1_45)
      have nr5 : nar .char ch = ch := own_nch _ hchc
      have ft5 : fits .char (.int ch) = true := nr5 ▸ (fits_nar_char ch : fits .char (.int (nar .char ch)) = true)
      rw [nr5] at W5
      have V_ua := V_ua.other W5 ne_ua_ma
      have S_ls1 := S_ls1.keep (Keep.of_wr W5) (ninS ne_ls1_ma nin0) (ninS ne_lb1_ma nin0)
      have Z5 : n0 ≤ h5.size := Nat.le_trans Z3 (Keep.of_wr W5).1
      have O := O.wr W5 g_ma
      have SFo := SF_ma
      have SF_ma := Safe.wr W5 SFo H SF_ma
      have SF_ua := Safe.wr W5 SFo H SF_ua
      have CR := CR.trans (CHr.wr W5 SFo H)
      have H := H.wr W5 SFo
      have hk := Nat.le_trans hk (Keep.of_wr W5).1
      have V_ma : Arv Z h5 ma km .char (26 : Int32) (mla.set ix (.int ch)) (.int (0 : Int32)) := Arv.set Ar5 q5 Sz5 Ng5 Hs5 Ft5 ft5 W5 ix hix (by rw [hmla]; exact hi3)
      have K5 := K3.wr W5 (Or.inl (List.mem_of_getElem? (i := 0) rfl))
      have N5 := Fr.snoc X5 N3 g_ma
      refine GoesW.pre (U' := T5.setTop (mkF m 46 #[.val (.ref ma), .val (.ref ua), .val (.int iw), .val (.int dv), .val (.int mk), .val (.int ch)] [])) (fun t k => st5 t k) ?_
      refine GoesW.ret X5 hZ hEL hS hk H CR (v := none) (fun _ => rfl) hlk (by decide) (by decide) e5 (fun fs hr => X5.returnOut hx hret (hb hby d1_46) hr) ?_
      have eM : own_mc (own_dc dv) mk iw = ch := by rw [show own_dc dv = ch from hch.symm]; unfold own_mc; rw [if_neg hc17, if_pos hc26]
      rw [← eM] at V_ma
      rw [show ch = own_dc dv from hch] at V_ua
      exact ⟨ls1, lb1, kl1, rfl, N5, K5, V_ua, V_ma, S_ls1, ⟨Lit.stays Li_ls1 (wtrans (State.Warmed39.refl _) X5.warmed), ne_ma_ls1, ne_ma_lb1, ne_ua_ls1, ne_ua_lb1⟩⟩
    ·
      refine GoesW.pre (U' := T3.setTop (mkF m 37 #[.val (.ref ma), .val (.ref ua), .val (.int iw), .val (.int dv), .val (.int mk), .val (.int ch)] [(.int ((ch + (32 : Int32)).toUInt32.toUInt16.toUInt32.toInt32)), (.int iw), (.ref ma)])) (fun t k => XS.ifNo X3.here hx rfl (hb hby d1_26) rfl ((if0 _ _).trans (feq hc26).1) (XS.aloadN X3.here hx rfl (hb hby d1_29) rfl rfl (XS.iloadN X3.here hx rfl (hb hby d1_30) rfl (XS.iload X3.here hx rfl (hb hby d1_31) rfl (XS.bipush X3.here hx rfl (hb hby d1_33) (XS.iadd X3.here hx rfl (hb hby d1_35) rfl (XS.i2c X3.here hx rfl (hb hby d1_36) rfl k))))))) ?_
      obtain ⟨cl6, Ar6, q6, Sz6, Ng6, Hs6, Ft6⟩ := id V_ma
      obtain ⟨T6, h6, X6, e6, W6, st6⟩ := stC X3 hx hZ e3 Ar6 (j := iw) (inb_of Sz6 hi1) (g := (mkF m 37 #[.val (.ref ma), .val (.ref ua), .val (.int iw), .val (.int dv), .val (.int mk), .val (.int ch)] [(.int ((ch + (32 : Int32)).toUInt32.toUInt16.toUInt32.toInt32)), (.int iw), (.ref ma)])) rfl rfl (hb hby d1_37)
      have nr6 : nar .char ((ch + (32 : Int32)).toUInt32.toUInt16.toUInt32.toInt32) = (ch + (32 : Int32)) := own_n32 ch hch
      have ft6 : fits .char (.int (ch + (32 : Int32))) = true := nr6 ▸ (fits_nar_char ((ch + (32 : Int32)).toUInt32.toUInt16.toUInt32.toInt32) : fits .char (.int (nar .char ((ch + (32 : Int32)).toUInt32.toUInt16.toUInt32.toInt32))) = true)
      rw [nr6] at W6
      have V_ua := V_ua.other W6 ne_ua_ma
      have S_ls1 := S_ls1.keep (Keep.of_wr W6) (ninS ne_ls1_ma nin0) (ninS ne_lb1_ma nin0)
      have Z6 : n0 ≤ h6.size := Nat.le_trans Z3 (Keep.of_wr W6).1
      have O := O.wr W6 g_ma
      have SFo := SF_ma
      have SF_ma := Safe.wr W6 SFo H SF_ma
      have SF_ua := Safe.wr W6 SFo H SF_ua
      have CR := CR.trans (CHr.wr W6 SFo H)
      have H := H.wr W6 SFo
      have hk := Nat.le_trans hk (Keep.of_wr W6).1
      have V_ma : Arv Z h6 ma km .char (26 : Int32) (mla.set ix (.int (ch + (32 : Int32)))) (.int (0 : Int32)) := Arv.set Ar6 q6 Sz6 Ng6 Hs6 Ft6 ft6 W6 ix hix (by rw [hmla]; exact hi3)
      have K6 := K3.wr W6 (Or.inl (List.mem_of_getElem? (i := 0) rfl))
      have N6 := Fr.snoc X6 N3 g_ma
      refine GoesW.pre (U' := T6.setTop (mkF m 46 #[.val (.ref ma), .val (.ref ua), .val (.int iw), .val (.int dv), .val (.int mk), .val (.int ch)] [])) (fun t k => st6 t (XS.goto X6.here hx rfl (pc0 := 38) (pc' := 46) rfl (hb hby d1_38) (by decide) (by decide) k)) ?_
      refine GoesW.ret X6 hZ hEL hS hk H CR (v := none) (fun _ => rfl) hlk (by decide) (by decide) e6 (fun fs hr => X6.returnOut hx hret (hb hby d1_46) hr) ?_
      have eM : own_mc (own_dc dv) mk iw = (ch + (32 : Int32)) := by rw [show own_dc dv = ch from hch.symm]; unfold own_mc; rw [if_neg hc17, if_neg hc26]
      rw [← eM] at V_ma
      rw [show ch = own_dc dv from hch] at V_ua
      exact ⟨ls1, lb1, kl1, rfl, N6, K6, V_ua, V_ma, S_ls1, ⟨Lit.stays Li_ls1 (wtrans (State.Warmed39.refl _) X6.warmed), ne_ma_ls1, ne_ma_lb1, ne_ua_ls1, ne_ua_lb1⟩⟩
theorem ef_rm_ulid (m : MethodId) (x0 : Addr) (x1 : Int64) (x2 : Int64) : entryFrame m #[(.ref x0), (.long x1), (.long x2)] 5 = mkF m 0 #[.val (.ref x0), .val (.long x1), .second, .val (.long x2), .second] [] := by first | (simp [entryFrame, mkF, argsToLocals, Value.category]; done) | rfl
theorem pn_com_example_known_paths_knownpaths_ulid_Ulid : plainName "com/example/known_paths/knownpaths/ulid/Ulid" = true := by first | (simp [plainName, overriddenIn]; done) | decide +kernel
abbrev M17 : MethodName := ⟨"com/example/known_paths/knownpaths/ulid/Ulid", "<init>", "(JJ)V"⟩
theorem d17_0 : decode prog_16_method_1_code 0 = .ok (.aload_n 0, 1) := by decide +kernel
theorem d17_1 : decode prog_16_method_1_code 1 = .ok (.invokespecial 3, 3) := by decide +kernel
theorem d17_4 : decode prog_16_method_1_code 4 = .ok (.aload_n 0, 1) := by decide +kernel
theorem d17_5 : decode prog_16_method_1_code 5 = .ok (.lload_n 1, 1) := by decide +kernel
theorem d17_6 : decode prog_16_method_1_code 6 = .ok (.putfield 9, 3) := by decide +kernel
theorem d17_9 : decode prog_16_method_1_code 9 = .ok (.aload_n 0, 1) := by decide +kernel
theorem d17_10 : decode prog_16_method_1_code 10 = .ok (.lload_n 3, 1) := by decide +kernel
theorem d17_11 : decode prog_16_method_1_code 11 = .ok (.putfield 13, 3) := by decide +kernel
theorem d17_14 : decode prog_16_method_1_code 14 = .ok (.return_, 1) := by decide +kernel
def Q_rm_ulid (Z : State) (a : Addr) (hq : Int64) (lq : Int64) (h0 : Heap) (n0 : Nat) (v : Option Value) (h : Heap) (L : List Loc) : Prop := v = none ∧ Fr n0 L ∧ Keep h0 h [a] ∧ Fld Z h a "com/example/known_paths/knownpaths/ulid/Ulid" "high" "J" (.long hq) ∧ Fld Z h a "com/example/known_paths/knownpaths/ulid/Ulid" "low" "J" (.long lq)
set_option maxRecDepth 65536 in
set_option maxHeartbeats 40000000 in
theorem rm_ulid (l : Launch) (Z : State) (a0 : Array Value) (hw : ∀ d ∈ tables_1, d.before a0 Z = true) (ws : List Jvm.Cond) (a : Addr) (hq : Int64) (lq : Int64) (h0 : Heap) (n0 : Nat) (Z0 : n0 ≤ h0.size) (E_a : Exa Z h0 a "com/example/known_paths/knownpaths/ulid/Ulid") (F_high_a : Fld Z h0 a "com/example/known_paths/knownpaths/ulid/Ulid" "high" "J" (.long (0 : Int64))) (F_low_a : Fld Z h0 a "com/example/known_paths/knownpaths/ulid/Ulid" "low" "J" (.long (0 : Int64))) (g_a : n0 ≤ a) :
    Met l Z M17 prog_16_method_1_code 5 none ws (Rm 1 0 0 12) #[(.ref a), (.long hq), (.long lq)] h0 (Q_rm_ulid Z a hq lq h0 n0) := by
  refine met_of (plainFor_of_name pn_com_example_known_paths_knownpaths_ulid_Ulid) (own := "com/example/known_paths/knownpaths/ulid/Ulid") rfl (fun m => ef_rm_ulid m a hq lq) ?_
  intro p e s m below meth c s₁ hx hby hml hown hnm hZ X0 e0 hret hlk
  have N0 := Fr.nil n0
  have K0 := Keep.refl h0 [a]
  show Goes p e below s _ _ _ (s₁.setTop (mkF m 0 #[.val (.ref a), .val (.long hq), .second, .val (.long lq), .second] []))
  refine Goes.pre (U' := s₁.setTop (mkF m 1 #[.val (.ref a), .val (.long hq), .second, .val (.long lq), .second] [(.ref a)])) (fun t k => XS.aloadN X0.here hx rfl (hb hby d17_0) rfl rfl k) ?_
  obtain ⟨T1, X1, e1, st1⟩ := initO X0 hx hZ hown (wq hw 86 rfl) (wq hw 52 rfl) (wq hw 53 rfl) e0 (g := (mkF m 1 #[.val (.ref a), .val (.long hq), .second, .val (.long lq), .second] [(.ref a)])) rfl (by rw [hml]; rfl) rfl (hb hby d17_1) (by decide) (W := 0) (by show 2 * 0 + _ ≤ _; exact Nat.le_of_eq rfl) (by decide)
  refine Goes.pre (U' := T1.setTop (mkF m 6 #[.val (.ref a), .val (.long hq), .second, .val (.long lq), .second] [(.long hq), (.ref a)])) (fun t k => st1 t (XS.aloadN X1.here hx rfl (hb hby d17_4) rfl rfl (XS.lloadN X1.here hx rfl (hb hby d17_5) rfl k))) ?_
  obtain ⟨T2, h2, X2, e2, W2, st2⟩ := putF X1 hx hZ hown (host := "") (Or.inl (wq hw 87 rfl)) Via.refl e1 F_high_a E_a (Or.inr ⟨(wq hw 88 rfl), rfl, hnm⟩) (wq hw 82 rfl) (ty := .long) (by decide) rfl rfl (g := (mkF m 6 #[.val (.ref a), .val (.long hq), .second, .val (.long lq), .second] [(.long hq), (.ref a)])) rfl rfl (hb hby d17_6)
  have E_a := E_a.wr W2
  have F_low_a := F_low_a.other W2 (Or.inr (slot_ne (Or.inr (wq hw 90 rfl)) (Or.inr (wq hw 88 rfl)) (by decide) (t := .long) (t' := .long) (by decide) (by decide)))
  have Z2 : n0 ≤ h2.size := Nat.le_trans Z0 (Keep.of_wr W2).1
  have F_high_a := F_high_a.same W2
  have K2 := K0.wr W2 (Or.inl (List.mem_of_getElem? (i := 0) rfl))
  have N2 := Fr.snoc X2 N0 g_a
  refine Goes.pre (U' := T2.setTop (mkF m 11 #[.val (.ref a), .val (.long hq), .second, .val (.long lq), .second] [(.long lq), (.ref a)])) (fun t k => st2 t (XS.aloadN X2.here hx rfl (hb hby d17_9) rfl rfl (XS.lloadN X2.here hx rfl (hb hby d17_10) rfl k))) ?_
  obtain ⟨T3, h3, X3, e3, W3, st3⟩ := putF X2 hx hZ hown (host := "") (Or.inl (wq hw 89 rfl)) Via.refl e2 F_low_a E_a (Or.inr ⟨(wq hw 90 rfl), rfl, hnm⟩) (wq hw 82 rfl) (ty := .long) (by decide) rfl rfl (g := (mkF m 11 #[.val (.ref a), .val (.long hq), .second, .val (.long lq), .second] [(.long lq), (.ref a)])) rfl rfl (hb hby d17_11)
  have E_a := E_a.wr W3
  have F_high_a := F_high_a.other W3 (Or.inr (slot_ne (Or.inr (wq hw 88 rfl)) (Or.inr (wq hw 90 rfl)) (by decide) (t := .long) (t' := .long) (by decide) (by decide)))
  have Z3 : n0 ≤ h3.size := Nat.le_trans Z2 (Keep.of_wr W3).1
  have F_low_a := F_low_a.same W3
  have K3 := K2.wr W3 (Or.inl (List.mem_of_getElem? (i := 0) rfl))
  have N3 := Fr.snoc X3 N2 g_a
  refine Goes.pre (U' := T3.setTop (mkF m 14 #[.val (.ref a), .val (.long hq), .second, .val (.long lq), .second] [])) (fun t k => st3 t k) ?_
  refine Goes.ret X3 (v := none) (fun _ => rfl) hlk (by decide) (by decide) e3 (fun fs hr => X3.returnOut hx hret (hb hby d17_14) hr) ?_
  exact ⟨rfl, N3, K3, F_high_a, F_low_a⟩
theorem ef_rm_ueq (m : MethodId) (x0 : Addr) (x1 : Addr) : entryFrame m #[(.ref x0), (.ref x1)] 3 = mkF m 0 #[.val (.ref x0), .val (.ref x1), .unset] [] := by first | (simp [entryFrame, mkF, argsToLocals, Value.category]; done) | rfl
abbrev M18 : MethodName := ⟨"com/example/known_paths/knownpaths/ulid/Ulid", "equals", "(Ljava/lang/Object;)Z"⟩
theorem d18_0 : decode prog_16_method_9_code 0 = .ok (.aload_n 1, 1) := by decide +kernel
theorem d18_1 : decode prog_16_method_9_code 1 = .ok (.instanceof 1, 3) := by decide +kernel
theorem d18_4 : decode prog_16_method_9_code 4 = .ok (.ifCond .eq 36, 3) := by decide +kernel
theorem d18_7 : decode prog_16_method_9_code 7 = .ok (.aload_n 1, 1) := by decide +kernel
theorem d18_8 : decode prog_16_method_9_code 8 = .ok (.checkcast 1, 3) := by decide +kernel
theorem d18_11 : decode prog_16_method_9_code 11 = .ok (.astore_n 2, 1) := by decide +kernel
theorem d18_12 : decode prog_16_method_9_code 12 = .ok (.aload_n 0, 1) := by decide +kernel
theorem d18_13 : decode prog_16_method_9_code 13 = .ok (.getfield 9, 3) := by decide +kernel
theorem d18_16 : decode prog_16_method_9_code 16 = .ok (.aload_n 2, 1) := by decide +kernel
theorem d18_17 : decode prog_16_method_9_code 17 = .ok (.getfield 9, 3) := by decide +kernel
theorem d18_20 : decode prog_16_method_9_code 20 = .ok (.lcmp, 1) := by decide +kernel
theorem d18_21 : decode prog_16_method_9_code 21 = .ok (.ifCond .ne 19, 3) := by decide +kernel
theorem d18_24 : decode prog_16_method_9_code 24 = .ok (.aload_n 0, 1) := by decide +kernel
theorem d18_25 : decode prog_16_method_9_code 25 = .ok (.getfield 13, 3) := by decide +kernel
theorem d18_28 : decode prog_16_method_9_code 28 = .ok (.aload_n 2, 1) := by decide +kernel
theorem d18_29 : decode prog_16_method_9_code 29 = .ok (.getfield 13, 3) := by decide +kernel
theorem d18_32 : decode prog_16_method_9_code 32 = .ok (.lcmp, 1) := by decide +kernel
theorem d18_33 : decode prog_16_method_9_code 33 = .ok (.ifCond .ne 7, 3) := by decide +kernel
theorem d18_36 : decode prog_16_method_9_code 36 = .ok (.iconst 1, 1) := by decide +kernel
theorem d18_37 : decode prog_16_method_9_code 37 = .ok (.goto 4, 3) := by decide +kernel
theorem d18_41 : decode prog_16_method_9_code 41 = .ok (.ireturn, 1) := by decide +kernel
def Q_rm_ueq (Z : State) (a : Addr) (b : Addr) (hq : Int64) (lq : Int64) (h0 : Heap) (n0 : Nat) (v : Option Value) (h : Heap) (L : List Loc) : Prop := v = some (.int (1 : Int32)) ∧ Fr n0 L ∧ h = h0
set_option maxRecDepth 65536 in
set_option maxHeartbeats 40000000 in
theorem rm_ueq (l : Launch) (Z : State) (a0 : Array Value) (hw : ∀ d ∈ tables_1, d.before a0 Z = true) (ws : List Jvm.Cond) (a : Addr) (b : Addr) (hq : Int64) (lq : Int64) (h0 : Heap) (n0 : Nat) (Z0 : n0 ≤ h0.size) (E_b : Exa Z h0 b "com/example/known_paths/knownpaths/ulid/Ulid") (F_high_a : Fld Z h0 a "com/example/known_paths/knownpaths/ulid/Ulid" "high" "J" (.long hq)) (F_low_a : Fld Z h0 a "com/example/known_paths/knownpaths/ulid/Ulid" "low" "J" (.long lq)) (F_high_b : Fld Z h0 b "com/example/known_paths/knownpaths/ulid/Ulid" "high" "J" (.long hq)) (F_low_b : Fld Z h0 b "com/example/known_paths/knownpaths/ulid/Ulid" "low" "J" (.long lq)) :
    Met l Z M18 prog_16_method_9_code 3 (some .boolean) ws (Rm 0 0 0 0) #[(.ref a), (.ref b)] h0 (Q_rm_ueq Z a b hq lq h0 n0) := by
  refine met_of (plainFor_of_name pn_com_example_known_paths_knownpaths_ulid_Ulid) (own := "com/example/known_paths/knownpaths/ulid/Ulid") rfl (fun m => ef_rm_ueq m a b) ?_
  intro p e s m below meth c s₁ hx hby hml hown hnm hZ X0 e0 hret hlk
  have N0 := Fr.nil n0
  show Goes p e below s _ _ _ (s₁.setTop (mkF m 0 #[.val (.ref a), .val (.ref b), .unset] []))
  refine Goes.pre (U' := s₁.setTop (mkF m 1 #[.val (.ref a), .val (.ref b), .unset] [(.ref b)])) (fun t k => XS.aloadN X0.here hx rfl (hb hby d18_0) rfl rfl k) ?_
  obtain ⟨T1, X1, e1, st1⟩ := instY X0 hx hZ hown (wq hw 81 rfl) e0 (Ins.self E_b) (g := (mkF m 1 #[.val (.ref a), .val (.ref b), .unset] [(.ref b)])) rfl rfl (hb hby d18_1)
  refine Goes.pre (U' := T1.setTop (mkF m 4 #[.val (.ref a), .val (.ref b), .unset] [(.int (1 : Int32))])) (fun t k => st1 t k) ?_
  have hc4 : ¬ ((1 : Int32) = (0 : Int32)) := by decide
  refine Goes.pre (U' := T1.setTop (mkF m 8 #[.val (.ref a), .val (.ref b), .unset] [(.ref b)])) (fun t k => XS.ifNo X1.here hx rfl (hb hby d18_4) rfl ((if0 _ _).trans (feq hc4).1) (XS.aloadN X1.here hx rfl (hb hby d18_7) rfl rfl k)) ?_
  obtain ⟨T2, X2, e2, st2⟩ := castY X1 hx hZ hown (wq hw 81 rfl) e1 (Ins.self E_b) (g := (mkF m 8 #[.val (.ref a), .val (.ref b), .unset] [(.ref b)])) rfl rfl (hb hby d18_8)
  refine Goes.pre (U' := T2.setTop (mkF m 13 #[.val (.ref a), .val (.ref b), .val (.ref b)] [(.ref a)])) (fun t k => st2 t (XS.astoreN X2.here hx rfl (hb hby d18_11) rfl rfl (l' := #[.val (.ref a), .val (.ref b), .val (.ref b)]) rfl (XS.aloadN X2.here hx rfl (hb hby d18_12) rfl rfl k))) ?_
  obtain ⟨T3, X3, e3, st3⟩ := getF X2 hx hZ hown (host := "") (Or.inl (wq hw 87 rfl)) Via.refl e2 F_high_a (g := (mkF m 13 #[.val (.ref a), .val (.ref b), .val (.ref b)] [(.ref a)])) rfl rfl (hb hby d18_13)
  refine Goes.pre (U' := T3.setTop (mkF m 17 #[.val (.ref a), .val (.ref b), .val (.ref b)] [(.ref b), (.long hq)])) (fun t k => st3 t (XS.aloadN X3.here hx rfl (hb hby d18_16) rfl rfl k)) ?_
  obtain ⟨T4, X4, e4, st4⟩ := getF X3 hx hZ hown (host := "") (Or.inl (wq hw 87 rfl)) Via.refl e3 F_high_b (g := (mkF m 17 #[.val (.ref a), .val (.ref b), .val (.ref b)] [(.ref b), (.long hq)])) rfl rfl (hb hby d18_17)
  refine Goes.pre (U' := T4.setTop (mkF m 21 #[.val (.ref a), .val (.ref b), .val (.ref b)] [(.int (lcmpW hq hq))])) (fun t k => st4 t (XS.lcmp X4.here hx rfl (hb hby d18_20) rfl k)) ?_
  have hc21 : (lcmpW hq hq) = (0 : Int32) := own_lw0 _
  refine Goes.pre (U' := T4.setTop (mkF m 25 #[.val (.ref a), .val (.ref b), .val (.ref b)] [(.ref a)])) (fun t k => XS.ifNo X4.here hx rfl (hb hby d18_21) rfl ((if0 _ _).trans (teq hc21).2) (XS.aloadN X4.here hx rfl (hb hby d18_24) rfl rfl k)) ?_
  obtain ⟨T5, X5, e5, st5⟩ := getF X4 hx hZ hown (host := "") (Or.inl (wq hw 89 rfl)) Via.refl e4 F_low_a (g := (mkF m 25 #[.val (.ref a), .val (.ref b), .val (.ref b)] [(.ref a)])) rfl rfl (hb hby d18_25)
  refine Goes.pre (U' := T5.setTop (mkF m 29 #[.val (.ref a), .val (.ref b), .val (.ref b)] [(.ref b), (.long lq)])) (fun t k => st5 t (XS.aloadN X5.here hx rfl (hb hby d18_28) rfl rfl k)) ?_
  obtain ⟨T6, X6, e6, st6⟩ := getF X5 hx hZ hown (host := "") (Or.inl (wq hw 89 rfl)) Via.refl e5 F_low_b (g := (mkF m 29 #[.val (.ref a), .val (.ref b), .val (.ref b)] [(.ref b), (.long lq)])) rfl rfl (hb hby d18_29)
  refine Goes.pre (U' := T6.setTop (mkF m 33 #[.val (.ref a), .val (.ref b), .val (.ref b)] [(.int (lcmpW lq lq))])) (fun t k => st6 t (XS.lcmp X6.here hx rfl (hb hby d18_32) rfl k)) ?_
  have hc33 : (lcmpW lq lq) = (0 : Int32) := own_lw0 _
  refine Goes.pre (U' := T6.setTop (mkF m 41 #[.val (.ref a), .val (.ref b), .val (.ref b)] [(.int (1 : Int32))])) (fun t k => XS.ifNo X6.here hx rfl (hb hby d18_33) rfl ((if0 _ _).trans (teq hc33).2) (XS.iconst X6.here hx rfl (hb hby d18_36) (XS.goto X6.here hx rfl (pc0 := 37) (pc' := 41) rfl (hb hby d18_37) (by decide) (by decide) k))) ?_
  refine Goes.ret X6 (v := (some (.int (1 : Int32)))) (fun h => by rw [hret] at h; cases h) hlk (by decide) (by decide) e6 (fun fs hr => retN X6 hx (t := .boolean) hret (by simp) (hb hby d18_41) hr) ?_
  exact ⟨rfl, N0, rfl⟩
theorem ef_rm_time (m : MethodId) (x0 : Addr) : entryFrame m #[(.ref x0)] 1 = mkF m 0 #[.val (.ref x0)] [] := by first | (simp [entryFrame, mkF, argsToLocals, Value.category]; done) | rfl
abbrev M22 : MethodName := ⟨"com/example/known_paths/knownpaths/ulid/Ulid", "time", "()J"⟩
theorem d22_0 : decode prog_16_method_6_code 0 = .ok (.aload_n 0, 1) := by decide +kernel
theorem d22_1 : decode prog_16_method_6_code 1 = .ok (.getfield 9, 3) := by decide +kernel
theorem d22_4 : decode prog_16_method_6_code 4 = .ok (.bipush 16, 2) := by decide +kernel
theorem d22_6 : decode prog_16_method_6_code 6 = .ok (.lushr, 1) := by decide +kernel
theorem d22_7 : decode prog_16_method_6_code 7 = .ok (.lreturn, 1) := by decide +kernel
def Q_rm_time (Z : State) (a : Addr) (hq : Int64) (h0 : Heap) (n0 : Nat) (v : Option Value) (h : Heap) (L : List Loc) : Prop := v = some (.long ((hq.toUInt64 >>> ((16 : Int32) &&& 0x3f).toInt64.toUInt64).toInt64)) ∧ Fr n0 L ∧ h = h0
set_option maxRecDepth 65536 in
set_option maxHeartbeats 40000000 in
theorem rm_time (l : Launch) (Z : State) (a0 : Array Value) (hw : ∀ d ∈ tables_1, d.before a0 Z = true) (ws : List Jvm.Cond) (a : Addr) (hq : Int64) (h0 : Heap) (n0 : Nat) (Z0 : n0 ≤ h0.size) (F_high_a : Fld Z h0 a "com/example/known_paths/knownpaths/ulid/Ulid" "high" "J" (.long hq)) :
    Met l Z M22 prog_16_method_6_code 1 (some .long) ws (Rm 0 0 0 0) #[(.ref a)] h0 (Q_rm_time Z a hq h0 n0) := by
  refine met_of (plainFor_of_name pn_com_example_known_paths_knownpaths_ulid_Ulid) (own := "com/example/known_paths/knownpaths/ulid/Ulid") rfl (fun m => ef_rm_time m a) ?_
  intro p e s m below meth c s₁ hx hby hml hown hnm hZ X0 e0 hret hlk
  have N0 := Fr.nil n0
  show Goes p e below s _ _ _ (s₁.setTop (mkF m 0 #[.val (.ref a)] []))
  refine Goes.pre (U' := s₁.setTop (mkF m 1 #[.val (.ref a)] [(.ref a)])) (fun t k => XS.aloadN X0.here hx rfl (hb hby d22_0) rfl rfl k) ?_
  obtain ⟨T1, X1, e1, st1⟩ := getF X0 hx hZ hown (host := "") (Or.inl (wq hw 87 rfl)) Via.refl e0 F_high_a (g := (mkF m 1 #[.val (.ref a)] [(.ref a)])) rfl rfl (hb hby d22_1)
  refine Goes.pre (U' := T1.setTop (mkF m 7 #[.val (.ref a)] [(.long ((hq.toUInt64 >>> ((16 : Int32) &&& 0x3f).toInt64.toUInt64).toInt64))])) (fun t k => st1 t (XS.bipush X1.here hx rfl (hb hby d22_4) (XS.lushr X1.here hx rfl (hb hby d22_6) rfl k))) ?_
  refine Goes.ret X1 (v := (some (.long ((hq.toUInt64 >>> ((16 : Int32) &&& 0x3f).toInt64.toUInt64).toInt64)))) (fun h => by rw [hret] at h; cases h) hlk (by decide) (by decide) e1 (fun fs hr => retOut X1 hx hret rfl (Or.inr (Or.inl ⟨rfl, rfl, _, rfl⟩)) (hb hby d22_7) hr) ?_
  exact ⟨rfl, N0, rfl⟩
theorem ef_rm_parse (m : MethodId) (x0 : Addr) : entryFrame m #[(.ref x0)] 9 = mkF m 0 #[.val (.ref x0), .unset, .unset, .unset, .unset, .unset, .unset, .unset, .unset] [] := by first | (simp [entryFrame, mkF, argsToLocals, Value.category]; done) | rfl
abbrev M14 : MethodName := ⟨"com/example/known_paths/knownpaths/ulid/Ulid", "parse", "(Ljava/lang/String;)Lcom/example/known_paths/knownpaths/ulid/Ulid;"⟩
theorem d14_0 : decode prog_16_method_3_code 0 = .ok (.aload_n 0, 1) := by decide +kernel
theorem d14_1 : decode prog_16_method_3_code 1 = .ok (.invokevirtual 38, 3) := by decide +kernel
theorem pd__28_29I : parseMethodDescriptor "()I" = some ⟨[], some .int⟩ := by decide +kernel
theorem d14_4 : decode prog_16_method_3_code 4 = .ok (.bipush 26, 2) := by decide +kernel
theorem d14_6 : decode prog_16_method_3_code 6 = .ok (.if_icmp .eq 22, 3) := by decide +kernel
theorem d14_28 : decode prog_16_method_3_code 28 = .ok (.lconst 0, 1) := by decide +kernel
theorem d14_29 : decode prog_16_method_3_code 29 = .ok (.lstore_n 1, 1) := by decide +kernel
theorem d14_30 : decode prog_16_method_3_code 30 = .ok (.lconst 0, 1) := by decide +kernel
theorem d14_31 : decode prog_16_method_3_code 31 = .ok (.lstore_n 3, 1) := by decide +kernel
theorem d14_32 : decode prog_16_method_3_code 32 = .ok (.iconst 0, 1) := by decide +kernel
theorem d14_33 : decode prog_16_method_3_code 33 = .ok (.istore 5, 2) := by decide +kernel
theorem d14_35 : decode prog_16_method_3_code 35 = .ok (.iload 5, 2) := by decide +kernel
theorem d14_37 : decode prog_16_method_3_code 37 = .ok (.bipush 26, 2) := by decide +kernel
theorem d14_39 : decode prog_16_method_3_code 39 = .ok (.if_icmp .ge 115, 3) := by decide +kernel
theorem d14_42 : decode prog_16_method_3_code 42 = .ok (.aload_n 0, 1) := by decide +kernel
theorem d14_43 : decode prog_16_method_3_code 43 = .ok (.iload 5, 2) := by decide +kernel
theorem d14_45 : decode prog_16_method_3_code 45 = .ok (.invokevirtual 55, 3) := by decide +kernel
theorem d14_48 : decode prog_16_method_3_code 48 = .ok (.istore 6, 2) := by decide +kernel
theorem d14_50 : decode prog_16_method_3_code 50 = .ok (.iload 6, 2) := by decide +kernel
theorem d14_52 : decode prog_16_method_3_code 52 = .ok (.getstatic 59, 3) := by decide +kernel
theorem d14_55 : decode prog_16_method_3_code 55 = .ok (.arraylength, 1) := by decide +kernel
theorem d14_56 : decode prog_16_method_3_code 56 = .ok (.if_icmp .ge 12, 3) := by decide +kernel
theorem d14_59 : decode prog_16_method_3_code 59 = .ok (.getstatic 59, 3) := by decide +kernel
theorem d14_62 : decode prog_16_method_3_code 62 = .ok (.iload 6, 2) := by decide +kernel
theorem d14_64 : decode prog_16_method_3_code 64 = .ok (.iaload, 1) := by decide +kernel
theorem d14_65 : decode prog_16_method_3_code 65 = .ok (.goto 4, 3) := by decide +kernel
theorem d14_69 : decode prog_16_method_3_code 69 = .ok (.istore 7, 2) := by decide +kernel
theorem d14_71 : decode prog_16_method_3_code 71 = .ok (.iload 7, 2) := by decide +kernel
theorem d14_73 : decode prog_16_method_3_code 73 = .ok (.iconst (-1), 1) := by decide +kernel
theorem d14_74 : decode prog_16_method_3_code 74 = .ok (.if_icmp .ne 33, 3) := by decide +kernel
theorem d14_107 : decode prog_16_method_3_code 107 = .ok (.iload 5, 2) := by decide +kernel
theorem d14_109 : decode prog_16_method_3_code 109 = .ok (.ifCond .ne 22, 3) := by decide +kernel
theorem d14_112 : decode prog_16_method_3_code 112 = .ok (.iload 7, 2) := by decide +kernel
theorem d14_114 : decode prog_16_method_3_code 114 = .ok (.bipush 7, 2) := by decide +kernel
theorem d14_116 : decode prog_16_method_3_code 116 = .ok (.if_icmp .le 15, 3) := by decide +kernel
theorem d14_131 : decode prog_16_method_3_code 131 = .ok (.lload_n 1, 1) := by decide +kernel
theorem d14_132 : decode prog_16_method_3_code 132 = .ok (.iconst 5, 1) := by decide +kernel
theorem d14_133 : decode prog_16_method_3_code 133 = .ok (.lshl, 1) := by decide +kernel
theorem d14_134 : decode prog_16_method_3_code 134 = .ok (.lload_n 3, 1) := by decide +kernel
theorem d14_135 : decode prog_16_method_3_code 135 = .ok (.bipush 59, 2) := by decide +kernel
theorem d14_137 : decode prog_16_method_3_code 137 = .ok (.lushr, 1) := by decide +kernel
theorem d14_138 : decode prog_16_method_3_code 138 = .ok (.lor, 1) := by decide +kernel
theorem d14_139 : decode prog_16_method_3_code 139 = .ok (.lstore_n 1, 1) := by decide +kernel
theorem d14_140 : decode prog_16_method_3_code 140 = .ok (.lload_n 3, 1) := by decide +kernel
theorem d14_141 : decode prog_16_method_3_code 141 = .ok (.iconst 5, 1) := by decide +kernel
theorem d14_142 : decode prog_16_method_3_code 142 = .ok (.lshl, 1) := by decide +kernel
theorem d14_143 : decode prog_16_method_3_code 143 = .ok (.iload 7, 2) := by decide +kernel
theorem d14_145 : decode prog_16_method_3_code 145 = .ok (.i2l, 1) := by decide +kernel
theorem d14_146 : decode prog_16_method_3_code 146 = .ok (.lor, 1) := by decide +kernel
theorem d14_147 : decode prog_16_method_3_code 147 = .ok (.lstore_n 3, 1) := by decide +kernel
theorem d14_148 : decode prog_16_method_3_code 148 = .ok (.iinc 5 1, 3) := by decide +kernel
theorem d14_151 : decode prog_16_method_3_code 151 = .ok (.goto (-116), 3) := by decide +kernel
theorem d14_154 : decode prog_16_method_3_code 154 = .ok (.new 1, 3) := by decide +kernel
theorem d14_157 : decode prog_16_method_3_code 157 = .ok (.dup, 1) := by decide +kernel
theorem d14_158 : decode prog_16_method_3_code 158 = .ok (.lload_n 1, 1) := by decide +kernel
theorem d14_159 : decode prog_16_method_3_code 159 = .ok (.lload_n 3, 1) := by decide +kernel
theorem d14_160 : decode prog_16_method_3_code 160 = .ok (.invokespecial 35, 3) := by decide +kernel
theorem pd__28JJ_29V : parseMethodDescriptor "(JJ)V" = some ⟨[.long, .long], none⟩ := by decide +kernel
theorem d14_163 : decode prog_16_method_3_code 163 = .ok (.areturn, 1) := by decide +kernel
def Q_rm_parse (Z : State) (a : Addr) (b : Addr) (kb : ClassId) (cl : List Int32) (cs : Int32) (sf : Value) (da : Addr) (kd : ClassId) (h0 : Heap) (n0 : Nat) (v : Option Value) (h : Heap) (L : List Loc) : Prop := ∃ (r : Addr), v = some (.ref r) ∧ Fr n0 L ∧ Keep h0 h [] ∧ Exa Z h r "com/example/known_paths/knownpaths/ulid/Ulid" ∧ Fld Z h r "com/example/known_paths/knownpaths/ulid/Ulid" "high" "J" (.long (own_p cl 26).1) ∧ Fld Z h r "com/example/known_paths/knownpaths/ulid/Ulid" "low" "J" (.long (own_p cl 26).2) ∧ n0 ≤ r ∧ h0.size ≤ r
set_option maxRecDepth 65536 in
set_option maxHeartbeats 40000000 in
theorem rm_parse (l : Launch) (Z : State) (a0 : Array Value) (hw : ∀ d ∈ tables_1, d.before a0 Z = true) (ws : List Jvm.Cond) (a : Addr) (b : Addr) (kb : ClassId) (cl : List Int32) (cs : Int32) (sf : Value) (da : Addr) (kd : ClassId) (h0 : Heap) (n0 : Nat) (Z0 : n0 ≤ h0.size) (S_a : OwnStr Z h0 a b kb cl) (S_COMPACT_STRINGS : Sta Z Z.heap "java/lang/String" "COMPACT_STRINGS" "Z" (.int cs)) (S_SIOOBE_FORMATTER : Sta Z Z.heap "jdk/internal/util/Preconditions" "SIOOBE_FORMATTER" "Ljava/util/function/BiFunction;" sf) (S_DIGIT_VALUES : Sta Z Z.heap "com/example/known_paths/knownpaths/ulid/Ulid" "DIGIT_VALUES" "[I" (.ref da)) (V_da : Arv Z Z.heap da kd .int (128 : Int32) (own_tab.map Value.int) (.int (0 : Int32))) (hgd : own_good cl) (hcs : ¬ (cs = (0 : Int32))) (hsf : sf.isRef = true) (O : Old Z n0 h0) :
    Met l Z M14 prog_16_method_3_code 9 (some (.object "com/example/known_paths/knownpaths/ulid/Ulid")) ws (Rm 4 1 2 53) #[(.ref a)] h0 (Q_rm_parse Z a b kb cl cs sf da kd h0 n0) := by
  refine met_of (plainFor_of_name pn_com_example_known_paths_knownpaths_ulid_Ulid) (own := "com/example/known_paths/knownpaths/ulid/Ulid") rfl (fun m => ef_rm_parse m a) ?_
  intro p e s m below meth c s₁ hx hby hml hown hnm hZ X0 e0 hret hlk
  have N0 := Fr.nil n0
  have K0 := Keep.refl h0 []
  show Goes p e below s _ _ _ (s₁.setTop (mkF m 0 #[.val (.ref a), .unset, .unset, .unset, .unset, .unset, .unset, .unset, .unset] []))
  refine Goes.pre (U' := s₁.setTop (mkF m 1 #[.val (.ref a), .unset, .unset, .unset, .unset, .unset, .unset, .unset, .unset] [(.ref a)])) (fun t k => XS.aloadN X0.here hx rfl (hb hby d14_0) rfl rfl k) ?_
  obtain ⟨cq1, kq1, q1a, q1b, q1c⟩ := isOf hZ e0 S_a.1
  obtain ⟨_, _, ⟨T1, L1, k1, n1⟩, -, X1, ⟨Lc1, hQ1, l1, y1, z1⟩, st1⟩ := X0.virtualBack hx (y := (⟨"java/lang/String", "length", "()I"⟩ : MethodName)) (z := (⟨"java/lang/String", "length", "()I"⟩ : MethodName)) hown (mvT hZ (wq hw 68 rfl)) (mvT hZ (wq hw 69 rfl)) (notFace_of_selects (args := #[]) (mvT hZ (wq hw 71 rfl))) (mvT hZ (wq hw 71 rfl)) (mvT hZ (wq hw 70 rfl)) (by decide) (backOf (W := 0) (rm_len l Z a0 hw [] a b kb cl cs h0 n0 Z0 S_a S_COMPACT_STRINGS hcs (by rw [hgd.1]; decide) O) hZ (wq hw 72 rfl) (wq hw 7 rfl) (by decide) (by decide)) q1a q1c (g := (mkF m 1 #[.val (.ref a), .unset, .unset, .unset, .unset, .unset, .unset, .unset, .unset] [(.ref a)])) rfl (by rw [hml]; rfl) (Steps.refl _) (argsL := []) (rest := []) (lenOf pd__28_29I rfl) rfl (by show 2 * 0 + _ ≤ _; exact Nat.le_of_eq rfl) (hb hby d14_1) (fun _ _ => ⟨rfl, e0, (by decide : 0 + 0 ≤ _), (by decide : 0 + 0 ≤ _)⟩)
  dsimp only [Pt.U, Pt.locs, Pt.cells, Pt.slots] at X1 l1 y1 z1 st1 hQ1
  rw [l1, y1, z1] at X1
  obtain ⟨rfl, N1q, HQ1⟩ := hQ1
  have N1 := Fr.app N0 N1q
  refine Goes.pre (U' := T1.setTop (mkF m 6 #[.val (.ref a), .unset, .unset, .unset, .unset, .unset, .unset, .unset, .unset] [(.int (26 : Int32)), (.int (Int32.ofNat cl.length))])) (fun t k => st1.trans (XS.bipush X1.here hx rfl (hb hby d14_4) k)) ?_
  have hc6 : (Int32.ofNat cl.length) = (26 : Int32) := (own_l26 cl hgd.1)
  refine Goes.pre (U' := T1.setTop (mkF m 35 #[.val (.ref a), .val (.long (0 : Int64)), .second, .val (.long (0 : Int64)), .second, .val (.int (0 : Int32)), .unset, .unset, .unset] [])) (fun t k => XS.icmpYes X1.here hx rfl (pc0 := 6) (pc' := 28) rfl (hb hby d14_6) rfl (teq hc6).1 (by decide) (by decide) (XS.lconst X1.here hx rfl (hb hby d14_28) (XS.lstoreN X1.here hx rfl (hb hby d14_29) rfl (l' := #[.val (.ref a), .val (.long (0 : Int64)), .second, .unset, .unset, .unset, .unset, .unset, .unset]) rfl (XS.lconst X1.here hx rfl (hb hby d14_30) (XS.lstoreN X1.here hx rfl (hb hby d14_31) rfl (l' := #[.val (.ref a), .val (.long (0 : Int64)), .second, .val (.long (0 : Int64)), .second, .unset, .unset, .unset, .unset]) rfl (XS.iconst X1.here hx rfl (hb hby d14_32) (XS.istore X1.here hx rfl (hb hby d14_33) rfl (l' := #[.val (.ref a), .val (.long (0 : Int64)), .second, .val (.long (0 : Int64)), .second, .val (.int (0 : Int32)), .unset, .unset, .unset]) rfl k))))))) ?_
  have J35_2 : ∀ (kk : Nat) (i : Nat) (sl tl : Slot) (hs : (sl = .unset ∧ tl = .unset) ∨ ∃ y z, sl = .val (.int y) ∧ tl = .val (.int z)) (hi : i ≤ 26) (hm : 26 - i = kk) (T2 : State) (h2 : Heap) (lc2 : List Loc), Stand p l e (Rm 4 1 2 53) s m #[(.ref a)] below meth c T2 lc2 0 0 → T2.heap = h2 → Fr n0 lc2 → n0 ≤ h2.size → Keep h0 h2 [] → Old Z n0 h2 → OwnStr Z h2 a b kb cl → Goes p e below s (Q_rm_parse Z a b kb cl cs sf da kd h0 n0) (Rm 4 1 2 53).cells (Rm 4 1 2 53).slots (T2.setTop (mkF m 35 #[.val (.ref a), .val (.long (own_p cl i).1), .second, .val (.long (own_p cl i).2), .second, .val (.int (Int32.ofNat i)), sl, tl, .unset] [])) := by
    intro kk
    induction kk using Nat.strongRecOn with
    | ind kk ih =>
      intro i sl tl hs hi hm T2 h2 lc2 X2 e2 N2 Z2 K2 O S_a
      rcases hs with ⟨rfl, rfl⟩ | ⟨z6, z7, rfl, rfl⟩
      ·
        refine Goes.pre (U' := T2.setTop (mkF m 39 #[.val (.ref a), .val (.long (own_p cl i).1), .second, .val (.long (own_p cl i).2), .second, .val (.int (Int32.ofNat i)), .unset, .unset, .unset] [(.int (26 : Int32)), (.int (Int32.ofNat i))])) (fun t k => XS.iload X2.here hx rfl (hb hby d14_35) rfl (XS.bipush X2.here hx rfl (hb hby d14_37) k)) ?_
        by_cases hc39 : (Int32.ofNat i) < (26 : Int32)
        ·
          refine Goes.pre (U' := T2.setTop (mkF m 45 #[.val (.ref a), .val (.long (own_p cl i).1), .second, .val (.long (own_p cl i).2), .second, .val (.int (Int32.ofNat i)), .unset, .unset, .unset] [(.int (Int32.ofNat i)), (.ref a)])) (fun t k => XS.icmpNo X2.here hx rfl (hb hby d14_39) rfl (tlt hc39).2.1 (XS.aloadN X2.here hx rfl (hb hby d14_42) rfl rfl (XS.iload X2.here hx rfl (hb hby d14_43) rfl k))) ?_
          obtain ⟨cq3, kq3, q3a, q3b, q3c⟩ := isOf hZ e2 S_a.1
          obtain ⟨_, _, ⟨T3, L3, k3, n3⟩, -, X3, ⟨Lc3, hQ3, l3, y3, z3⟩, st3⟩ := X2.virtualBack hx (y := (⟨"java/lang/String", "charAt", "(I)C"⟩ : MethodName)) (z := (⟨"java/lang/String", "charAt", "(I)C"⟩ : MethodName)) hown (mvT hZ (wq hw 78 rfl)) (mvT hZ (wq hw 15 rfl)) (notFace_of_selects (args := #[]) (mvT hZ (wq hw 17 rfl))) (mvT hZ (wq hw 17 rfl)) (mvT hZ (wq hw 16 rfl)) (by decide) (backOf (W := 0) (rm_chG l Z a0 hw [] a b kb cl (Int32.ofNat i) cs sf h2 n0 Z2 S_a S_COMPACT_STRINGS S_SIOOBE_FORMATTER (own_neg i (Nat.le_trans hi (by decide))) (own_ix i cl.length (by rw [hgd.1]; exact (own_i26 i hi hc39)) (by rw [hgd.1]; decide)).2 (by rw [hgd.1]; decide) hcs hsf O) hZ (wq hw 18 rfl) (wq hw 7 rfl) (by decide) (by decide)) q3a q3c (g := (mkF m 45 #[.val (.ref a), .val (.long (own_p cl i).1), .second, .val (.long (own_p cl i).2), .second, .val (.int (Int32.ofNat i)), .unset, .unset, .unset] [(.int (Int32.ofNat i)), (.ref a)])) rfl (by rw [hml]; rfl) (Steps.refl _) (argsL := [(.int (Int32.ofNat i))]) (rest := []) (lenOf pd__28I_29C rfl) rfl (by show 2 * 0 + _ ≤ _; exact Nat.le_of_eq rfl) (hb hby d14_45) (fun _ _ => ⟨rfl, e2, (by decide : 0 + 0 ≤ _), (by decide : 0 + 0 ≤ _)⟩)
          dsimp only [Pt.U, Pt.locs, Pt.cells, Pt.slots] at X3 l3 y3 z3 st3 hQ3
          rw [l3, y3, z3] at X3
          obtain ⟨rfl, N3q, HQ3⟩ := hQ3
          have N3 := Fr.app N2 N3q
          refine Goes.pre (U' := T3.setTop (mkF m 50 #[.val (.ref a), .val (.long (own_p cl i).1), .second, .val (.long (own_p cl i).2), .second, .val (.int (Int32.ofNat i)), .val (.int (cl.getD (Int32.ofNat i).toNatClampNeg 0)), .unset, .unset] [])) (fun t k => st3.trans (XS.istore X3.here hx rfl (hb hby d14_48) rfl (l' := #[.val (.ref a), .val (.long (own_p cl i).1), .second, .val (.long (own_p cl i).2), .second, .val (.int (Int32.ofNat i)), .val (.int (cl.getD (Int32.ofNat i).toNatClampNeg 0)), .unset, .unset]) rfl k)) ?_
          rw [own_ixn i (Nat.le_trans hi (by decide))]
          obtain ⟨ch, hch⟩ : ∃ z : Int32, z = (cl.getD i 0) := ⟨_, rfl⟩
          rw [← hch]
          have hok : own_ok ch := by rw [hch]; exact hgd.2.1 i (own_i26 i hi hc39)
          refine Goes.pre (U' := T3.setTop (mkF m 52 #[.val (.ref a), .val (.long (own_p cl i).1), .second, .val (.long (own_p cl i).2), .second, .val (.int (Int32.ofNat i)), .val (.int ch), .unset, .unset] [(.int ch)])) (fun t k => XS.iload X3.here hx rfl (hb hby d14_50) rfl k) ?_
          obtain ⟨T4, X4, e4, st4⟩ := getS2 X3 hx hZ hown (host := "") (Or.inl (wq hw 79 rfl)) Via.refl HQ3 (S_DIGIT_VALUES.ext O.2) (g := (mkF m 52 #[.val (.ref a), .val (.long (own_p cl i).1), .second, .val (.long (own_p cl i).2), .second, .val (.int (Int32.ofNat i)), .val (.int ch), .unset, .unset] [(.int ch)])) rfl (hb hby d14_52)
          refine Goes.pre (U' := T4.setTop (mkF m 55 #[.val (.ref a), .val (.long (own_p cl i).1), .second, .val (.long (own_p cl i).2), .second, .val (.int (Int32.ofNat i)), .val (.int ch), .unset, .unset] [(.ref da), (.int ch)])) (fun t k => st4 t k) ?_
          obtain ⟨cl5, Ar5, q5, Sz5, Ng5, -, -⟩ := id (V_da.ext O.2)
          have ln5 := len_of Sz5 Ng5
          refine Goes.pre (U' := T4.setTop (mkF m 56 #[.val (.ref a), .val (.long (own_p cl i).1), .second, .val (.long (own_p cl i).2), .second, .val (.int (Int32.ofNat i)), .val (.int ch), .unset, .unset] [(.int (128 : Int32)), (.int ch)])) (fun t k => X4.arraylength hx (by rw [e4]; exact Ar5.1) (State.isArrayOf_alike hZ.alike Ar5.2.1) (g := (mkF m 55 #[.val (.ref a), .val (.long (own_p cl i).1), .second, .val (.long (own_p cl i).2), .second, .val (.int (Int32.ofNat i)), .val (.int ch), .unset, .unset] [(.ref da), (.int ch)])) rfl rfl (hb hby d14_55) _ (by rw [ln5]; exact k)) ?_
          have hc56 : ch < (128 : Int32) := hok.2.1
          refine Goes.pre (U' := T4.setTop (mkF m 59 #[.val (.ref a), .val (.long (own_p cl i).1), .second, .val (.long (own_p cl i).2), .second, .val (.int (Int32.ofNat i)), .val (.int ch), .unset, .unset] [])) (fun t k => XS.icmpNo X4.here hx rfl (hb hby d14_56) rfl (tlt hc56).2.1 k) ?_
          obtain ⟨T6, X6, e6, st6⟩ := getS2 X4 hx hZ hown (host := "") (Or.inl (wq hw 79 rfl)) Via.refl e4 (S_DIGIT_VALUES.ext O.2) (g := (mkF m 59 #[.val (.ref a), .val (.long (own_p cl i).1), .second, .val (.long (own_p cl i).2), .second, .val (.int (Int32.ofNat i)), .val (.int ch), .unset, .unset] [])) rfl (hb hby d14_59)
          refine Goes.pre (U' := T6.setTop (mkF m 64 #[.val (.ref a), .val (.long (own_p cl i).1), .second, .val (.long (own_p cl i).2), .second, .val (.int (Int32.ofNat i)), .val (.int ch), .unset, .unset] [(.int ch), (.ref da)])) (fun t k => st6 t (XS.iload X6.here hx rfl (hb hby d14_62) rfl k)) ?_
          obtain ⟨cl7, Ar7, q7, Sz7, Ng7, Hs7, Ft7⟩ := id (V_da.ext O.2)
          have hin7 := inb_of (j := ch) Sz7 ⟨hok.1, hok.2.1⟩
          refine Goes.pre (U' := T6.setTop (mkF m 71 #[.val (.ref a), .val (.long (own_p cl i).1), .second, .val (.long (own_p cl i).2), .second, .val (.int (Int32.ofNat i)), .val (.int ch), .val (.int (own_tab.getD ch.toNatClampNeg 0)), .unset] [])) (fun t k => X6.iaload hx (j := ch) (v := (.int (own_tab.getD ch.toNatClampNeg 0))) (by rw [e6]; exact Ar7.1) (State.isArrayOf_alike hZ.alike Ar7.2.1) Ar7.2.2 hin7 (Has.at Hs7 hin7 (own_tabg _)) (g := (mkF m 64 #[.val (.ref a), .val (.long (own_p cl i).1), .second, .val (.long (own_p cl i).2), .second, .val (.int (Int32.ofNat i)), .val (.int ch), .unset, .unset] [(.int ch), (.ref da)])) rfl rfl (hb hby d14_64) _ (XS.goto X6.here hx rfl (pc0 := 65) (pc' := 69) rfl (hb hby d14_65) (by decide) (by decide) (XS.istore X6.here hx rfl (hb hby d14_69) rfl (l' := #[.val (.ref a), .val (.long (own_p cl i).1), .second, .val (.long (own_p cl i).2), .second, .val (.int (Int32.ofNat i)), .val (.int ch), .val (.int (own_tab.getD ch.toNatClampNeg 0)), .unset]) rfl k))) ?_
          obtain ⟨dg, hdg⟩ : ∃ z : Int32, z = (own_tab.getD ch.toNatClampNeg 0) := ⟨_, rfl⟩
          rw [← hdg]
          refine Goes.pre (U' := T6.setTop (mkF m 74 #[.val (.ref a), .val (.long (own_p cl i).1), .second, .val (.long (own_p cl i).2), .second, .val (.int (Int32.ofNat i)), .val (.int ch), .val (.int dg), .unset] [(.int (-1 : Int32)), (.int dg)])) (fun t k => XS.iload X6.here hx rfl (hb hby d14_71) rfl (XS.iconst X6.here hx rfl (hb hby d14_73) k)) ?_
          have hc74 : ¬ (dg = (-1 : Int32)) := (by rw [hdg]; exact hok.2.2)
          refine Goes.pre (U' := T6.setTop (mkF m 109 #[.val (.ref a), .val (.long (own_p cl i).1), .second, .val (.long (own_p cl i).2), .second, .val (.int (Int32.ofNat i)), .val (.int ch), .val (.int dg), .unset] [(.int (Int32.ofNat i))])) (fun t k => XS.icmpYes X6.here hx rfl (pc0 := 74) (pc' := 107) rfl (hb hby d14_74) rfl (feq hc74).2 (by decide) (by decide) (XS.iload X6.here hx rfl (hb hby d14_107) rfl k)) ?_
          by_cases hc109 : (Int32.ofNat i) = (0 : Int32)
          ·
            refine Goes.pre (U' := T6.setTop (mkF m 116 #[.val (.ref a), .val (.long (own_p cl i).1), .second, .val (.long (own_p cl i).2), .second, .val (.int (Int32.ofNat i)), .val (.int ch), .val (.int dg), .unset] [(.int (7 : Int32)), (.int dg)])) (fun t k => XS.ifNo X6.here hx rfl (hb hby d14_109) rfl ((if0 _ _).trans (teq hc109).2) (XS.iload X6.here hx rfl (hb hby d14_112) rfl (XS.bipush X6.here hx rfl (hb hby d14_114) k))) ?_
            have hc116 : ¬ ((7 : Int32) < dg) := (by obtain rfl := own_i0 i (Nat.le_trans hi (by decide)) hc109; rw [hdg, hch]; exact hgd.2.2)
            refine Goes.pre (U' := T6.setTop (mkF m 143 #[.val (.ref a), .val (.long (((own_p cl i).1 <<< ((5 : Int32) &&& 0x3f).toInt64) ||| (((own_p cl i).2.toUInt64 >>> ((59 : Int32) &&& 0x3f).toInt64.toUInt64).toInt64))), .second, .val (.long (own_p cl i).2), .second, .val (.int (Int32.ofNat i)), .val (.int ch), .val (.int dg), .unset] [(.long ((own_p cl i).2 <<< ((5 : Int32) &&& 0x3f).toInt64))])) (fun t k => XS.icmpYes X6.here hx rfl (pc0 := 116) (pc' := 131) rfl (hb hby d14_116) rfl (flt hc116).2.2.2 (by decide) (by decide) (XS.lloadN X6.here hx rfl (hb hby d14_131) rfl (XS.iconst X6.here hx rfl (hb hby d14_132) (XS.lshl X6.here hx rfl (hb hby d14_133) rfl (XS.lloadN X6.here hx rfl (hb hby d14_134) rfl (XS.bipush X6.here hx rfl (hb hby d14_135) (XS.lushr X6.here hx rfl (hb hby d14_137) rfl (XS.lor X6.here hx rfl (hb hby d14_138) rfl (XS.lstoreN X6.here hx rfl (hb hby d14_139) rfl (l' := #[.val (.ref a), .val (.long (((own_p cl i).1 <<< ((5 : Int32) &&& 0x3f).toInt64) ||| (((own_p cl i).2.toUInt64 >>> ((59 : Int32) &&& 0x3f).toInt64.toUInt64).toInt64))), .second, .val (.long (own_p cl i).2), .second, .val (.int (Int32.ofNat i)), .val (.int ch), .val (.int dg), .unset]) rfl (XS.lloadN X6.here hx rfl (hb hby d14_140) rfl (XS.iconst X6.here hx rfl (hb hby d14_141) (XS.lshl X6.here hx rfl (hb hby d14_142) rfl k)))))))))))) ?_
            refine Goes.pre (U' := T6.setTop (mkF m 151 #[.val (.ref a), .val (.long (((own_p cl i).1 <<< ((5 : Int32) &&& 0x3f).toInt64) ||| (((own_p cl i).2.toUInt64 >>> ((59 : Int32) &&& 0x3f).toInt64.toUInt64).toInt64))), .second, .val (.long (((own_p cl i).2 <<< ((5 : Int32) &&& 0x3f).toInt64) ||| (dg.toInt64))), .second, .val (.int ((Int32.ofNat i) + (1 : Int32))), .val (.int ch), .val (.int dg), .unset] [])) (fun t k => XS.iload X6.here hx rfl (hb hby d14_143) rfl (XS.i2l X6.here hx rfl (hb hby d14_145) rfl (XS.lor X6.here hx rfl (hb hby d14_146) rfl (XS.lstoreN X6.here hx rfl (hb hby d14_147) rfl (l' := #[.val (.ref a), .val (.long (((own_p cl i).1 <<< ((5 : Int32) &&& 0x3f).toInt64) ||| (((own_p cl i).2.toUInt64 >>> ((59 : Int32) &&& 0x3f).toInt64.toUInt64).toInt64))), .second, .val (.long (((own_p cl i).2 <<< ((5 : Int32) &&& 0x3f).toInt64) ||| (dg.toInt64))), .second, .val (.int (Int32.ofNat i)), .val (.int ch), .val (.int dg), .unset]) rfl (XT.iincV X6.here hx rfl (1 : Int32) (hb hby d14_148) (by decide) rfl (l' := #[.val (.ref a), .val (.long (((own_p cl i).1 <<< ((5 : Int32) &&& 0x3f).toInt64) ||| (((own_p cl i).2.toUInt64 >>> ((59 : Int32) &&& 0x3f).toInt64.toUInt64).toInt64))), .second, .val (.long (((own_p cl i).2 <<< ((5 : Int32) &&& 0x3f).toInt64) ||| (dg.toInt64))), .second, .val (.int ((Int32.ofNat i) + (1 : Int32))), .val (.int ch), .val (.int dg), .unset]) rfl k))))) ?_
            rw [own_inc]
            subst hdg
            subst hch
            refine Goes.pre (U' := T6.setTop (mkF m 35 #[.val (.ref a), .val (.long (((own_p cl i).1 <<< ((5 : Int32) &&& 0x3f).toInt64) ||| (((own_p cl i).2.toUInt64 >>> ((59 : Int32) &&& 0x3f).toInt64.toUInt64).toInt64))), .second, .val (.long (((own_p cl i).2 <<< ((5 : Int32) &&& 0x3f).toInt64) ||| ((own_tab.getD (cl.getD i 0).toNatClampNeg 0).toInt64))), .second, .val (.int (Int32.ofNat (i + 1))), .val (.int (cl.getD i 0)), .val (.int (own_tab.getD (cl.getD i 0).toNatClampNeg 0)), .unset] [])) (fun t k => XS.goto X6.here hx rfl (pc0 := 151) (pc' := 35) rfl (hb hby d14_151) (by decide) (by decide) k) ?_
            exact ih _ (by have := (own_i26 i hi hc39); omega) (i + 1) _ _ (Or.inr ⟨_, _, rfl, rfl⟩) (own_i26 i hi hc39) rfl _ _ _ X6 e6 N3 Z2 K2 O S_a
          ·
            refine Goes.pre (U' := T6.setTop (mkF m 143 #[.val (.ref a), .val (.long (((own_p cl i).1 <<< ((5 : Int32) &&& 0x3f).toInt64) ||| (((own_p cl i).2.toUInt64 >>> ((59 : Int32) &&& 0x3f).toInt64.toUInt64).toInt64))), .second, .val (.long (own_p cl i).2), .second, .val (.int (Int32.ofNat i)), .val (.int ch), .val (.int dg), .unset] [(.long ((own_p cl i).2 <<< ((5 : Int32) &&& 0x3f).toInt64))])) (fun t k => XS.ifYes X6.here hx rfl (pc0 := 109) (pc' := 131) rfl (hb hby d14_109) rfl ((if0 _ _).trans (feq hc109).2) (by decide) (by decide) (XS.lloadN X6.here hx rfl (hb hby d14_131) rfl (XS.iconst X6.here hx rfl (hb hby d14_132) (XS.lshl X6.here hx rfl (hb hby d14_133) rfl (XS.lloadN X6.here hx rfl (hb hby d14_134) rfl (XS.bipush X6.here hx rfl (hb hby d14_135) (XS.lushr X6.here hx rfl (hb hby d14_137) rfl (XS.lor X6.here hx rfl (hb hby d14_138) rfl (XS.lstoreN X6.here hx rfl (hb hby d14_139) rfl (l' := #[.val (.ref a), .val (.long (((own_p cl i).1 <<< ((5 : Int32) &&& 0x3f).toInt64) ||| (((own_p cl i).2.toUInt64 >>> ((59 : Int32) &&& 0x3f).toInt64.toUInt64).toInt64))), .second, .val (.long (own_p cl i).2), .second, .val (.int (Int32.ofNat i)), .val (.int ch), .val (.int dg), .unset]) rfl (XS.lloadN X6.here hx rfl (hb hby d14_140) rfl (XS.iconst X6.here hx rfl (hb hby d14_141) (XS.lshl X6.here hx rfl (hb hby d14_142) rfl k)))))))))))) ?_
            refine Goes.pre (U' := T6.setTop (mkF m 151 #[.val (.ref a), .val (.long (((own_p cl i).1 <<< ((5 : Int32) &&& 0x3f).toInt64) ||| (((own_p cl i).2.toUInt64 >>> ((59 : Int32) &&& 0x3f).toInt64.toUInt64).toInt64))), .second, .val (.long (((own_p cl i).2 <<< ((5 : Int32) &&& 0x3f).toInt64) ||| (dg.toInt64))), .second, .val (.int ((Int32.ofNat i) + (1 : Int32))), .val (.int ch), .val (.int dg), .unset] [])) (fun t k => XS.iload X6.here hx rfl (hb hby d14_143) rfl (XS.i2l X6.here hx rfl (hb hby d14_145) rfl (XS.lor X6.here hx rfl (hb hby d14_146) rfl (XS.lstoreN X6.here hx rfl (hb hby d14_147) rfl (l' := #[.val (.ref a), .val (.long (((own_p cl i).1 <<< ((5 : Int32) &&& 0x3f).toInt64) ||| (((own_p cl i).2.toUInt64 >>> ((59 : Int32) &&& 0x3f).toInt64.toUInt64).toInt64))), .second, .val (.long (((own_p cl i).2 <<< ((5 : Int32) &&& 0x3f).toInt64) ||| (dg.toInt64))), .second, .val (.int (Int32.ofNat i)), .val (.int ch), .val (.int dg), .unset]) rfl (XT.iincV X6.here hx rfl (1 : Int32) (hb hby d14_148) (by decide) rfl (l' := #[.val (.ref a), .val (.long (((own_p cl i).1 <<< ((5 : Int32) &&& 0x3f).toInt64) ||| (((own_p cl i).2.toUInt64 >>> ((59 : Int32) &&& 0x3f).toInt64.toUInt64).toInt64))), .second, .val (.long (((own_p cl i).2 <<< ((5 : Int32) &&& 0x3f).toInt64) ||| (dg.toInt64))), .second, .val (.int ((Int32.ofNat i) + (1 : Int32))), .val (.int ch), .val (.int dg), .unset]) rfl k))))) ?_
            rw [own_inc]
            subst hdg
            subst hch
            refine Goes.pre (U' := T6.setTop (mkF m 35 #[.val (.ref a), .val (.long (((own_p cl i).1 <<< ((5 : Int32) &&& 0x3f).toInt64) ||| (((own_p cl i).2.toUInt64 >>> ((59 : Int32) &&& 0x3f).toInt64.toUInt64).toInt64))), .second, .val (.long (((own_p cl i).2 <<< ((5 : Int32) &&& 0x3f).toInt64) ||| ((own_tab.getD (cl.getD i 0).toNatClampNeg 0).toInt64))), .second, .val (.int (Int32.ofNat (i + 1))), .val (.int (cl.getD i 0)), .val (.int (own_tab.getD (cl.getD i 0).toNatClampNeg 0)), .unset] [])) (fun t k => XS.goto X6.here hx rfl (pc0 := 151) (pc' := 35) rfl (hb hby d14_151) (by decide) (by decide) k) ?_
            exact ih _ (by have := (own_i26 i hi hc39); omega) (i + 1) _ _ (Or.inr ⟨_, _, rfl, rfl⟩) (own_i26 i hi hc39) rfl _ _ _ X6 e6 N3 Z2 K2 O S_a
        ·
          refine Goes.pre (U' := T2.setTop (mkF m 154 #[.val (.ref a), .val (.long (own_p cl i).1), .second, .val (.long (own_p cl i).2), .second, .val (.int (Int32.ofNat i)), .unset, .unset, .unset] [])) (fun t k => XS.icmpYes X2.here hx rfl (pc0 := 39) (pc' := 154) rfl (hb hby d14_39) rfl (flt hc39).2.1 (by decide) (by decide) k) ?_
          obtain rfl := own_i26e i hi hc39
          obtain ⟨T8, h8, X8, e8, E8, A8, D8, -, st8⟩ := newO X2 hx hZ hown (wq hw 81 rfl) (wq hw 82 rfl) (wq hw 66 rfl) e2 (g := (mkF m 154 #[.val (.ref a), .val (.long (own_p cl 26).1), .second, .val (.long (own_p cl 26).2), .second, .val (.int (Int32.ofNat 26)), .unset, .unset, .unset] [])) rfl (hb hby d14_154) (by decide) (by decide)
          obtain ⟨nb8, g8⟩ : ∃ z, z = h2.size := ⟨_, rfl⟩
          rw [← g8] at A8 D8 st8
          have ne_a_nb8 : a ≠ nb8 := Nat.ne_of_lt (Nat.lt_of_lt_of_le S_a.lt (Nat.le_of_eq g8.symm))
          have ne_nb8_a := ne_a_nb8.symm
          have ne_b_nb8 : b ≠ nb8 := Nat.ne_of_lt (Nat.lt_of_lt_of_le S_a.ltb (Nat.le_of_eq g8.symm))
          have ne_nb8_b := ne_b_nb8.symm
          have ne_da_nb8 : da ≠ nb8 := Nat.ne_of_lt (Nat.lt_of_lt_of_le (V_da.ext O.2).lt (Nat.le_of_eq g8.symm))
          have ne_nb8_da := ne_da_nb8.symm
          have g_nb8 : n0 ≤ nb8 := Nat.le_trans Z2 (Nat.le_of_eq g8.symm)
          have sz_nb8 : h0.size ≤ nb8 := Nat.le_trans K2.1 (Nat.le_of_eq g8.symm)
          have S_a := S_a.ext E8
          have O := O.ext E8
          have Z8 : n0 ≤ h8.size := Nat.le_trans Z2 E8.1
          have K8 := K2.ext E8
          have E_nb8 := A8
          have F_high_nb8 : Fld Z h8 nb8 "com/example/known_paths/knownpaths/ulid/Ulid" "high" "J" (.long (0 : Int64)) := D8 (Or.inr (wq hw 88 rfl)) (ty := .long) (by decide)
          have F_low_nb8 : Fld Z h8 nb8 "com/example/known_paths/knownpaths/ulid/Ulid" "low" "J" (.long (0 : Int64)) := D8 (Or.inr (wq hw 90 rfl)) (ty := .long) (by decide)
          refine Goes.pre (U' := T8.setTop (mkF m 160 #[.val (.ref a), .val (.long (own_p cl 26).1), .second, .val (.long (own_p cl 26).2), .second, .val (.int (Int32.ofNat 26)), .unset, .unset, .unset] [(.long (own_p cl 26).2), (.long (own_p cl 26).1), (.ref nb8), (.ref nb8)])) (fun t k => st8 t (XS.dup X8.here hx rfl (hb hby d14_157) rfl rfl (XS.lloadN X8.here hx rfl (hb hby d14_158) rfl (XS.lloadN X8.here hx rfl (hb hby d14_159) rfl k)))) ?_
          obtain ⟨_, _, ⟨T9, L9, k9, n9⟩, -, X9, ⟨Lc9, hQ9, l9, y9, z9⟩, st9⟩ := X8.specialBack hx (y := (⟨"com/example/known_paths/knownpaths/ulid/Ulid", "<init>", "(JJ)V"⟩ : MethodName)) rfl hown (mvT hZ (wq hw 83 rfl)) (mvT hZ (wq hw 84 rfl)) (mvT hZ (wq hw 85 rfl)) (by decide) (backOf (W := 1) (rm_ulid l Z a0 hw [] nb8 (own_p cl 26).1 (own_p cl 26).2 h8 n0 Z8 E_nb8 F_high_nb8 F_low_nb8 g_nb8) hZ (wq hw 85 rfl) (wq hw 66 rfl) (by decide) (by decide)) (g := (mkF m 160 #[.val (.ref a), .val (.long (own_p cl 26).1), .second, .val (.long (own_p cl 26).2), .second, .val (.int (Int32.ofNat 26)), .unset, .unset, .unset] [(.long (own_p cl 26).2), (.long (own_p cl 26).1), (.ref nb8), (.ref nb8)])) rfl (by rw [hml]; rfl) (Steps.refl _) (a := nb8) (argsL := [(.long (own_p cl 26).1), (.long (own_p cl 26).2)]) (rest := [(.ref nb8)]) (lenOf pd__28JJ_29V rfl) rfl (by show 2 * 0 + _ ≤ _; exact Nat.le_of_eq rfl) (hb hby d14_160) (fun _ _ => ⟨rfl, e8, (by decide : 1 + 0 ≤ _), (by decide : 2 + 0 ≤ _)⟩)
          dsimp only [Pt.U, Pt.locs, Pt.cells, Pt.slots] at X9 l9 y9 z9 st9 hQ9
          rw [l9, y9, z9] at X9
          obtain ⟨rfl, N9q, KQ9, fo0_9, fo1_9⟩ := hQ9
          have N9 := Fr.app N2 N9q
          have S_a := S_a.keep KQ9 (ninS ne_a_nb8 nin0) (ninS ne_b_nb8 nin0)
          have E_nb8 := E_nb8.keep KQ9
          have Z10 : n0 ≤ T9.heap.size := Nat.le_trans Z8 KQ9.1
          have O := O.keep KQ9 (allS (P := fun x => n0 ≤ x) g_nb8 all0)
          have K10 := K8.trans KQ9 (allS (P := fun x => x ∈ [] ∨ h0.size ≤ x) (Or.inr sz_nb8) all0)
          have F_high_nb8 := fo0_9
          have F_low_nb8 := fo1_9
          refine Goes.pre (U' := T9.setTop (mkF m 163 #[.val (.ref a), .val (.long (own_p cl 26).1), .second, .val (.long (own_p cl 26).2), .second, .val (.int (Int32.ofNat 26)), .unset, .unset, .unset] [(.ref nb8)])) (fun t k => st9.trans k) ?_
          refine Goes.ret X9 (v := (some (.ref nb8))) (fun h => by rw [hret] at h; cases h) hlk (by decide) (by decide) rfl (fun fs hr => retOut X9 hx hret rfl (Or.inr (Or.inr (Or.inr (Or.inr ⟨rfl, rfl, rfl⟩)))) (hb hby d14_163) hr) ?_
          exact ⟨nb8, rfl, N9, K10, E_nb8, F_high_nb8, F_low_nb8, g_nb8, sz_nb8⟩
      ·
        refine Goes.pre (U' := T2.setTop (mkF m 39 #[.val (.ref a), .val (.long (own_p cl i).1), .second, .val (.long (own_p cl i).2), .second, .val (.int (Int32.ofNat i)), .val (.int z6), .val (.int z7), .unset] [(.int (26 : Int32)), (.int (Int32.ofNat i))])) (fun t k => XS.iload X2.here hx rfl (hb hby d14_35) rfl (XS.bipush X2.here hx rfl (hb hby d14_37) k)) ?_
        by_cases hc39 : (Int32.ofNat i) < (26 : Int32)
        ·
          refine Goes.pre (U' := T2.setTop (mkF m 45 #[.val (.ref a), .val (.long (own_p cl i).1), .second, .val (.long (own_p cl i).2), .second, .val (.int (Int32.ofNat i)), .val (.int z6), .val (.int z7), .unset] [(.int (Int32.ofNat i)), (.ref a)])) (fun t k => XS.icmpNo X2.here hx rfl (hb hby d14_39) rfl (tlt hc39).2.1 (XS.aloadN X2.here hx rfl (hb hby d14_42) rfl rfl (XS.iload X2.here hx rfl (hb hby d14_43) rfl k))) ?_
          obtain ⟨cq11, kq11, q11a, q11b, q11c⟩ := isOf hZ e2 S_a.1
          obtain ⟨_, _, ⟨T11, L11, k11, n11⟩, -, X11, ⟨Lc11, hQ11, l11, y11, z11⟩, st11⟩ := X2.virtualBack hx (y := (⟨"java/lang/String", "charAt", "(I)C"⟩ : MethodName)) (z := (⟨"java/lang/String", "charAt", "(I)C"⟩ : MethodName)) hown (mvT hZ (wq hw 78 rfl)) (mvT hZ (wq hw 15 rfl)) (notFace_of_selects (args := #[]) (mvT hZ (wq hw 17 rfl))) (mvT hZ (wq hw 17 rfl)) (mvT hZ (wq hw 16 rfl)) (by decide) (backOf (W := 0) (rm_chG l Z a0 hw [] a b kb cl (Int32.ofNat i) cs sf h2 n0 Z2 S_a S_COMPACT_STRINGS S_SIOOBE_FORMATTER (own_neg i (Nat.le_trans hi (by decide))) (own_ix i cl.length (by rw [hgd.1]; exact (own_i26 i hi hc39)) (by rw [hgd.1]; decide)).2 (by rw [hgd.1]; decide) hcs hsf O) hZ (wq hw 18 rfl) (wq hw 7 rfl) (by decide) (by decide)) q11a q11c (g := (mkF m 45 #[.val (.ref a), .val (.long (own_p cl i).1), .second, .val (.long (own_p cl i).2), .second, .val (.int (Int32.ofNat i)), .val (.int z6), .val (.int z7), .unset] [(.int (Int32.ofNat i)), (.ref a)])) rfl (by rw [hml]; rfl) (Steps.refl _) (argsL := [(.int (Int32.ofNat i))]) (rest := []) (lenOf pd__28I_29C rfl) rfl (by show 2 * 0 + _ ≤ _; exact Nat.le_of_eq rfl) (hb hby d14_45) (fun _ _ => ⟨rfl, e2, (by decide : 0 + 0 ≤ _), (by decide : 0 + 0 ≤ _)⟩)
          dsimp only [Pt.U, Pt.locs, Pt.cells, Pt.slots] at X11 l11 y11 z11 st11 hQ11
          rw [l11, y11, z11] at X11
          obtain ⟨rfl, N11q, HQ11⟩ := hQ11
          have N11 := Fr.app N2 N11q
          refine Goes.pre (U' := T11.setTop (mkF m 50 #[.val (.ref a), .val (.long (own_p cl i).1), .second, .val (.long (own_p cl i).2), .second, .val (.int (Int32.ofNat i)), .val (.int (cl.getD (Int32.ofNat i).toNatClampNeg 0)), .val (.int z7), .unset] [])) (fun t k => st11.trans (XS.istore X11.here hx rfl (hb hby d14_48) rfl (l' := #[.val (.ref a), .val (.long (own_p cl i).1), .second, .val (.long (own_p cl i).2), .second, .val (.int (Int32.ofNat i)), .val (.int (cl.getD (Int32.ofNat i).toNatClampNeg 0)), .val (.int z7), .unset]) rfl k)) ?_
          rw [own_ixn i (Nat.le_trans hi (by decide))]
          obtain ⟨ch, hch⟩ : ∃ z : Int32, z = (cl.getD i 0) := ⟨_, rfl⟩
          rw [← hch]
          have hok : own_ok ch := by rw [hch]; exact hgd.2.1 i (own_i26 i hi hc39)
          refine Goes.pre (U' := T11.setTop (mkF m 52 #[.val (.ref a), .val (.long (own_p cl i).1), .second, .val (.long (own_p cl i).2), .second, .val (.int (Int32.ofNat i)), .val (.int ch), .val (.int z7), .unset] [(.int ch)])) (fun t k => XS.iload X11.here hx rfl (hb hby d14_50) rfl k) ?_
          obtain ⟨T12, X12, e12, st12⟩ := getS2 X11 hx hZ hown (host := "") (Or.inl (wq hw 79 rfl)) Via.refl HQ11 (S_DIGIT_VALUES.ext O.2) (g := (mkF m 52 #[.val (.ref a), .val (.long (own_p cl i).1), .second, .val (.long (own_p cl i).2), .second, .val (.int (Int32.ofNat i)), .val (.int ch), .val (.int z7), .unset] [(.int ch)])) rfl (hb hby d14_52)
          refine Goes.pre (U' := T12.setTop (mkF m 55 #[.val (.ref a), .val (.long (own_p cl i).1), .second, .val (.long (own_p cl i).2), .second, .val (.int (Int32.ofNat i)), .val (.int ch), .val (.int z7), .unset] [(.ref da), (.int ch)])) (fun t k => st12 t k) ?_
          obtain ⟨cl13, Ar13, q13, Sz13, Ng13, -, -⟩ := id (V_da.ext O.2)
          have ln13 := len_of Sz13 Ng13
          refine Goes.pre (U' := T12.setTop (mkF m 56 #[.val (.ref a), .val (.long (own_p cl i).1), .second, .val (.long (own_p cl i).2), .second, .val (.int (Int32.ofNat i)), .val (.int ch), .val (.int z7), .unset] [(.int (128 : Int32)), (.int ch)])) (fun t k => X12.arraylength hx (by rw [e12]; exact Ar13.1) (State.isArrayOf_alike hZ.alike Ar13.2.1) (g := (mkF m 55 #[.val (.ref a), .val (.long (own_p cl i).1), .second, .val (.long (own_p cl i).2), .second, .val (.int (Int32.ofNat i)), .val (.int ch), .val (.int z7), .unset] [(.ref da), (.int ch)])) rfl rfl (hb hby d14_55) _ (by rw [ln13]; exact k)) ?_
          have hc56 : ch < (128 : Int32) := hok.2.1
          refine Goes.pre (U' := T12.setTop (mkF m 59 #[.val (.ref a), .val (.long (own_p cl i).1), .second, .val (.long (own_p cl i).2), .second, .val (.int (Int32.ofNat i)), .val (.int ch), .val (.int z7), .unset] [])) (fun t k => XS.icmpNo X12.here hx rfl (hb hby d14_56) rfl (tlt hc56).2.1 k) ?_
          obtain ⟨T14, X14, e14, st14⟩ := getS2 X12 hx hZ hown (host := "") (Or.inl (wq hw 79 rfl)) Via.refl e12 (S_DIGIT_VALUES.ext O.2) (g := (mkF m 59 #[.val (.ref a), .val (.long (own_p cl i).1), .second, .val (.long (own_p cl i).2), .second, .val (.int (Int32.ofNat i)), .val (.int ch), .val (.int z7), .unset] [])) rfl (hb hby d14_59)
          refine Goes.pre (U' := T14.setTop (mkF m 64 #[.val (.ref a), .val (.long (own_p cl i).1), .second, .val (.long (own_p cl i).2), .second, .val (.int (Int32.ofNat i)), .val (.int ch), .val (.int z7), .unset] [(.int ch), (.ref da)])) (fun t k => st14 t (XS.iload X14.here hx rfl (hb hby d14_62) rfl k)) ?_
          obtain ⟨cl15, Ar15, q15, Sz15, Ng15, Hs15, Ft15⟩ := id (V_da.ext O.2)
          have hin15 := inb_of (j := ch) Sz15 ⟨hok.1, hok.2.1⟩
          refine Goes.pre (U' := T14.setTop (mkF m 71 #[.val (.ref a), .val (.long (own_p cl i).1), .second, .val (.long (own_p cl i).2), .second, .val (.int (Int32.ofNat i)), .val (.int ch), .val (.int (own_tab.getD ch.toNatClampNeg 0)), .unset] [])) (fun t k => X14.iaload hx (j := ch) (v := (.int (own_tab.getD ch.toNatClampNeg 0))) (by rw [e14]; exact Ar15.1) (State.isArrayOf_alike hZ.alike Ar15.2.1) Ar15.2.2 hin15 (Has.at Hs15 hin15 (own_tabg _)) (g := (mkF m 64 #[.val (.ref a), .val (.long (own_p cl i).1), .second, .val (.long (own_p cl i).2), .second, .val (.int (Int32.ofNat i)), .val (.int ch), .val (.int z7), .unset] [(.int ch), (.ref da)])) rfl rfl (hb hby d14_64) _ (XS.goto X14.here hx rfl (pc0 := 65) (pc' := 69) rfl (hb hby d14_65) (by decide) (by decide) (XS.istore X14.here hx rfl (hb hby d14_69) rfl (l' := #[.val (.ref a), .val (.long (own_p cl i).1), .second, .val (.long (own_p cl i).2), .second, .val (.int (Int32.ofNat i)), .val (.int ch), .val (.int (own_tab.getD ch.toNatClampNeg 0)), .unset]) rfl k))) ?_
          obtain ⟨dg, hdg⟩ : ∃ z : Int32, z = (own_tab.getD ch.toNatClampNeg 0) := ⟨_, rfl⟩
          rw [← hdg]
          refine Goes.pre (U' := T14.setTop (mkF m 74 #[.val (.ref a), .val (.long (own_p cl i).1), .second, .val (.long (own_p cl i).2), .second, .val (.int (Int32.ofNat i)), .val (.int ch), .val (.int dg), .unset] [(.int (-1 : Int32)), (.int dg)])) (fun t k => XS.iload X14.here hx rfl (hb hby d14_71) rfl (XS.iconst X14.here hx rfl (hb hby d14_73) k)) ?_
          have hc74 : ¬ (dg = (-1 : Int32)) := (by rw [hdg]; exact hok.2.2)
          refine Goes.pre (U' := T14.setTop (mkF m 109 #[.val (.ref a), .val (.long (own_p cl i).1), .second, .val (.long (own_p cl i).2), .second, .val (.int (Int32.ofNat i)), .val (.int ch), .val (.int dg), .unset] [(.int (Int32.ofNat i))])) (fun t k => XS.icmpYes X14.here hx rfl (pc0 := 74) (pc' := 107) rfl (hb hby d14_74) rfl (feq hc74).2 (by decide) (by decide) (XS.iload X14.here hx rfl (hb hby d14_107) rfl k)) ?_
          by_cases hc109 : (Int32.ofNat i) = (0 : Int32)
          ·
            refine Goes.pre (U' := T14.setTop (mkF m 116 #[.val (.ref a), .val (.long (own_p cl i).1), .second, .val (.long (own_p cl i).2), .second, .val (.int (Int32.ofNat i)), .val (.int ch), .val (.int dg), .unset] [(.int (7 : Int32)), (.int dg)])) (fun t k => XS.ifNo X14.here hx rfl (hb hby d14_109) rfl ((if0 _ _).trans (teq hc109).2) (XS.iload X14.here hx rfl (hb hby d14_112) rfl (XS.bipush X14.here hx rfl (hb hby d14_114) k))) ?_
            have hc116 : ¬ ((7 : Int32) < dg) := (by obtain rfl := own_i0 i (Nat.le_trans hi (by decide)) hc109; rw [hdg, hch]; exact hgd.2.2)
            refine Goes.pre (U' := T14.setTop (mkF m 143 #[.val (.ref a), .val (.long (((own_p cl i).1 <<< ((5 : Int32) &&& 0x3f).toInt64) ||| (((own_p cl i).2.toUInt64 >>> ((59 : Int32) &&& 0x3f).toInt64.toUInt64).toInt64))), .second, .val (.long (own_p cl i).2), .second, .val (.int (Int32.ofNat i)), .val (.int ch), .val (.int dg), .unset] [(.long ((own_p cl i).2 <<< ((5 : Int32) &&& 0x3f).toInt64))])) (fun t k => XS.icmpYes X14.here hx rfl (pc0 := 116) (pc' := 131) rfl (hb hby d14_116) rfl (flt hc116).2.2.2 (by decide) (by decide) (XS.lloadN X14.here hx rfl (hb hby d14_131) rfl (XS.iconst X14.here hx rfl (hb hby d14_132) (XS.lshl X14.here hx rfl (hb hby d14_133) rfl (XS.lloadN X14.here hx rfl (hb hby d14_134) rfl (XS.bipush X14.here hx rfl (hb hby d14_135) (XS.lushr X14.here hx rfl (hb hby d14_137) rfl (XS.lor X14.here hx rfl (hb hby d14_138) rfl (XS.lstoreN X14.here hx rfl (hb hby d14_139) rfl (l' := #[.val (.ref a), .val (.long (((own_p cl i).1 <<< ((5 : Int32) &&& 0x3f).toInt64) ||| (((own_p cl i).2.toUInt64 >>> ((59 : Int32) &&& 0x3f).toInt64.toUInt64).toInt64))), .second, .val (.long (own_p cl i).2), .second, .val (.int (Int32.ofNat i)), .val (.int ch), .val (.int dg), .unset]) rfl (XS.lloadN X14.here hx rfl (hb hby d14_140) rfl (XS.iconst X14.here hx rfl (hb hby d14_141) (XS.lshl X14.here hx rfl (hb hby d14_142) rfl k)))))))))))) ?_
            refine Goes.pre (U' := T14.setTop (mkF m 151 #[.val (.ref a), .val (.long (((own_p cl i).1 <<< ((5 : Int32) &&& 0x3f).toInt64) ||| (((own_p cl i).2.toUInt64 >>> ((59 : Int32) &&& 0x3f).toInt64.toUInt64).toInt64))), .second, .val (.long (((own_p cl i).2 <<< ((5 : Int32) &&& 0x3f).toInt64) ||| (dg.toInt64))), .second, .val (.int ((Int32.ofNat i) + (1 : Int32))), .val (.int ch), .val (.int dg), .unset] [])) (fun t k => XS.iload X14.here hx rfl (hb hby d14_143) rfl (XS.i2l X14.here hx rfl (hb hby d14_145) rfl (XS.lor X14.here hx rfl (hb hby d14_146) rfl (XS.lstoreN X14.here hx rfl (hb hby d14_147) rfl (l' := #[.val (.ref a), .val (.long (((own_p cl i).1 <<< ((5 : Int32) &&& 0x3f).toInt64) ||| (((own_p cl i).2.toUInt64 >>> ((59 : Int32) &&& 0x3f).toInt64.toUInt64).toInt64))), .second, .val (.long (((own_p cl i).2 <<< ((5 : Int32) &&& 0x3f).toInt64) ||| (dg.toInt64))), .second, .val (.int (Int32.ofNat i)), .val (.int ch), .val (.int dg), .unset]) rfl (XT.iincV X14.here hx rfl (1 : Int32) (hb hby d14_148) (by decide) rfl (l' := #[.val (.ref a), .val (.long (((own_p cl i).1 <<< ((5 : Int32) &&& 0x3f).toInt64) ||| (((own_p cl i).2.toUInt64 >>> ((59 : Int32) &&& 0x3f).toInt64.toUInt64).toInt64))), .second, .val (.long (((own_p cl i).2 <<< ((5 : Int32) &&& 0x3f).toInt64) ||| (dg.toInt64))), .second, .val (.int ((Int32.ofNat i) + (1 : Int32))), .val (.int ch), .val (.int dg), .unset]) rfl k))))) ?_
            rw [own_inc]
            subst hdg
            subst hch
            refine Goes.pre (U' := T14.setTop (mkF m 35 #[.val (.ref a), .val (.long (((own_p cl i).1 <<< ((5 : Int32) &&& 0x3f).toInt64) ||| (((own_p cl i).2.toUInt64 >>> ((59 : Int32) &&& 0x3f).toInt64.toUInt64).toInt64))), .second, .val (.long (((own_p cl i).2 <<< ((5 : Int32) &&& 0x3f).toInt64) ||| ((own_tab.getD (cl.getD i 0).toNatClampNeg 0).toInt64))), .second, .val (.int (Int32.ofNat (i + 1))), .val (.int (cl.getD i 0)), .val (.int (own_tab.getD (cl.getD i 0).toNatClampNeg 0)), .unset] [])) (fun t k => XS.goto X14.here hx rfl (pc0 := 151) (pc' := 35) rfl (hb hby d14_151) (by decide) (by decide) k) ?_
            exact ih _ (by have := (own_i26 i hi hc39); omega) (i + 1) _ _ (Or.inr ⟨_, _, rfl, rfl⟩) (own_i26 i hi hc39) rfl _ _ _ X14 e14 N11 Z2 K2 O S_a
          ·
            refine Goes.pre (U' := T14.setTop (mkF m 143 #[.val (.ref a), .val (.long (((own_p cl i).1 <<< ((5 : Int32) &&& 0x3f).toInt64) ||| (((own_p cl i).2.toUInt64 >>> ((59 : Int32) &&& 0x3f).toInt64.toUInt64).toInt64))), .second, .val (.long (own_p cl i).2), .second, .val (.int (Int32.ofNat i)), .val (.int ch), .val (.int dg), .unset] [(.long ((own_p cl i).2 <<< ((5 : Int32) &&& 0x3f).toInt64))])) (fun t k => XS.ifYes X14.here hx rfl (pc0 := 109) (pc' := 131) rfl (hb hby d14_109) rfl ((if0 _ _).trans (feq hc109).2) (by decide) (by decide) (XS.lloadN X14.here hx rfl (hb hby d14_131) rfl (XS.iconst X14.here hx rfl (hb hby d14_132) (XS.lshl X14.here hx rfl (hb hby d14_133) rfl (XS.lloadN X14.here hx rfl (hb hby d14_134) rfl (XS.bipush X14.here hx rfl (hb hby d14_135) (XS.lushr X14.here hx rfl (hb hby d14_137) rfl (XS.lor X14.here hx rfl (hb hby d14_138) rfl (XS.lstoreN X14.here hx rfl (hb hby d14_139) rfl (l' := #[.val (.ref a), .val (.long (((own_p cl i).1 <<< ((5 : Int32) &&& 0x3f).toInt64) ||| (((own_p cl i).2.toUInt64 >>> ((59 : Int32) &&& 0x3f).toInt64.toUInt64).toInt64))), .second, .val (.long (own_p cl i).2), .second, .val (.int (Int32.ofNat i)), .val (.int ch), .val (.int dg), .unset]) rfl (XS.lloadN X14.here hx rfl (hb hby d14_140) rfl (XS.iconst X14.here hx rfl (hb hby d14_141) (XS.lshl X14.here hx rfl (hb hby d14_142) rfl k)))))))))))) ?_
            refine Goes.pre (U' := T14.setTop (mkF m 151 #[.val (.ref a), .val (.long (((own_p cl i).1 <<< ((5 : Int32) &&& 0x3f).toInt64) ||| (((own_p cl i).2.toUInt64 >>> ((59 : Int32) &&& 0x3f).toInt64.toUInt64).toInt64))), .second, .val (.long (((own_p cl i).2 <<< ((5 : Int32) &&& 0x3f).toInt64) ||| (dg.toInt64))), .second, .val (.int ((Int32.ofNat i) + (1 : Int32))), .val (.int ch), .val (.int dg), .unset] [])) (fun t k => XS.iload X14.here hx rfl (hb hby d14_143) rfl (XS.i2l X14.here hx rfl (hb hby d14_145) rfl (XS.lor X14.here hx rfl (hb hby d14_146) rfl (XS.lstoreN X14.here hx rfl (hb hby d14_147) rfl (l' := #[.val (.ref a), .val (.long (((own_p cl i).1 <<< ((5 : Int32) &&& 0x3f).toInt64) ||| (((own_p cl i).2.toUInt64 >>> ((59 : Int32) &&& 0x3f).toInt64.toUInt64).toInt64))), .second, .val (.long (((own_p cl i).2 <<< ((5 : Int32) &&& 0x3f).toInt64) ||| (dg.toInt64))), .second, .val (.int (Int32.ofNat i)), .val (.int ch), .val (.int dg), .unset]) rfl (XT.iincV X14.here hx rfl (1 : Int32) (hb hby d14_148) (by decide) rfl (l' := #[.val (.ref a), .val (.long (((own_p cl i).1 <<< ((5 : Int32) &&& 0x3f).toInt64) ||| (((own_p cl i).2.toUInt64 >>> ((59 : Int32) &&& 0x3f).toInt64.toUInt64).toInt64))), .second, .val (.long (((own_p cl i).2 <<< ((5 : Int32) &&& 0x3f).toInt64) ||| (dg.toInt64))), .second, .val (.int ((Int32.ofNat i) + (1 : Int32))), .val (.int ch), .val (.int dg), .unset]) rfl k))))) ?_
            rw [own_inc]
            subst hdg
            subst hch
            refine Goes.pre (U' := T14.setTop (mkF m 35 #[.val (.ref a), .val (.long (((own_p cl i).1 <<< ((5 : Int32) &&& 0x3f).toInt64) ||| (((own_p cl i).2.toUInt64 >>> ((59 : Int32) &&& 0x3f).toInt64.toUInt64).toInt64))), .second, .val (.long (((own_p cl i).2 <<< ((5 : Int32) &&& 0x3f).toInt64) ||| ((own_tab.getD (cl.getD i 0).toNatClampNeg 0).toInt64))), .second, .val (.int (Int32.ofNat (i + 1))), .val (.int (cl.getD i 0)), .val (.int (own_tab.getD (cl.getD i 0).toNatClampNeg 0)), .unset] [])) (fun t k => XS.goto X14.here hx rfl (pc0 := 151) (pc' := 35) rfl (hb hby d14_151) (by decide) (by decide) k) ?_
            exact ih _ (by have := (own_i26 i hi hc39); omega) (i + 1) _ _ (Or.inr ⟨_, _, rfl, rfl⟩) (own_i26 i hi hc39) rfl _ _ _ X14 e14 N11 Z2 K2 O S_a
        ·
          refine Goes.pre (U' := T2.setTop (mkF m 154 #[.val (.ref a), .val (.long (own_p cl i).1), .second, .val (.long (own_p cl i).2), .second, .val (.int (Int32.ofNat i)), .val (.int z6), .val (.int z7), .unset] [])) (fun t k => XS.icmpYes X2.here hx rfl (pc0 := 39) (pc' := 154) rfl (hb hby d14_39) rfl (flt hc39).2.1 (by decide) (by decide) k) ?_
          obtain rfl := own_i26e i hi hc39
          obtain ⟨T16, h16, X16, e16, E16, A16, D16, -, st16⟩ := newO X2 hx hZ hown (wq hw 81 rfl) (wq hw 82 rfl) (wq hw 66 rfl) e2 (g := (mkF m 154 #[.val (.ref a), .val (.long (own_p cl 26).1), .second, .val (.long (own_p cl 26).2), .second, .val (.int (Int32.ofNat 26)), .val (.int z6), .val (.int z7), .unset] [])) rfl (hb hby d14_154) (by decide) (by decide)
          obtain ⟨nb16, g16⟩ : ∃ z, z = h2.size := ⟨_, rfl⟩
          rw [← g16] at A16 D16 st16
          have ne_a_nb16 : a ≠ nb16 := Nat.ne_of_lt (Nat.lt_of_lt_of_le S_a.lt (Nat.le_of_eq g16.symm))
          have ne_nb16_a := ne_a_nb16.symm
          have ne_b_nb16 : b ≠ nb16 := Nat.ne_of_lt (Nat.lt_of_lt_of_le S_a.ltb (Nat.le_of_eq g16.symm))
          have ne_nb16_b := ne_b_nb16.symm
          have ne_da_nb16 : da ≠ nb16 := Nat.ne_of_lt (Nat.lt_of_lt_of_le (V_da.ext O.2).lt (Nat.le_of_eq g16.symm))
          have ne_nb16_da := ne_da_nb16.symm
          have g_nb16 : n0 ≤ nb16 := Nat.le_trans Z2 (Nat.le_of_eq g16.symm)
          have sz_nb16 : h0.size ≤ nb16 := Nat.le_trans K2.1 (Nat.le_of_eq g16.symm)
          have S_a := S_a.ext E16
          have O := O.ext E16
          have Z16 : n0 ≤ h16.size := Nat.le_trans Z2 E16.1
          have K16 := K2.ext E16
          have E_nb16 := A16
          have F_high_nb16 : Fld Z h16 nb16 "com/example/known_paths/knownpaths/ulid/Ulid" "high" "J" (.long (0 : Int64)) := D16 (Or.inr (wq hw 88 rfl)) (ty := .long) (by decide)
          have F_low_nb16 : Fld Z h16 nb16 "com/example/known_paths/knownpaths/ulid/Ulid" "low" "J" (.long (0 : Int64)) := D16 (Or.inr (wq hw 90 rfl)) (ty := .long) (by decide)
          refine Goes.pre (U' := T16.setTop (mkF m 160 #[.val (.ref a), .val (.long (own_p cl 26).1), .second, .val (.long (own_p cl 26).2), .second, .val (.int (Int32.ofNat 26)), .val (.int z6), .val (.int z7), .unset] [(.long (own_p cl 26).2), (.long (own_p cl 26).1), (.ref nb16), (.ref nb16)])) (fun t k => st16 t (XS.dup X16.here hx rfl (hb hby d14_157) rfl rfl (XS.lloadN X16.here hx rfl (hb hby d14_158) rfl (XS.lloadN X16.here hx rfl (hb hby d14_159) rfl k)))) ?_
          obtain ⟨_, _, ⟨T17, L17, k17, n17⟩, -, X17, ⟨Lc17, hQ17, l17, y17, z17⟩, st17⟩ := X16.specialBack hx (y := (⟨"com/example/known_paths/knownpaths/ulid/Ulid", "<init>", "(JJ)V"⟩ : MethodName)) rfl hown (mvT hZ (wq hw 83 rfl)) (mvT hZ (wq hw 84 rfl)) (mvT hZ (wq hw 85 rfl)) (by decide) (backOf (W := 1) (rm_ulid l Z a0 hw [] nb16 (own_p cl 26).1 (own_p cl 26).2 h16 n0 Z16 E_nb16 F_high_nb16 F_low_nb16 g_nb16) hZ (wq hw 85 rfl) (wq hw 66 rfl) (by decide) (by decide)) (g := (mkF m 160 #[.val (.ref a), .val (.long (own_p cl 26).1), .second, .val (.long (own_p cl 26).2), .second, .val (.int (Int32.ofNat 26)), .val (.int z6), .val (.int z7), .unset] [(.long (own_p cl 26).2), (.long (own_p cl 26).1), (.ref nb16), (.ref nb16)])) rfl (by rw [hml]; rfl) (Steps.refl _) (a := nb16) (argsL := [(.long (own_p cl 26).1), (.long (own_p cl 26).2)]) (rest := [(.ref nb16)]) (lenOf pd__28JJ_29V rfl) rfl (by show 2 * 0 + _ ≤ _; exact Nat.le_of_eq rfl) (hb hby d14_160) (fun _ _ => ⟨rfl, e16, (by decide : 1 + 0 ≤ _), (by decide : 2 + 0 ≤ _)⟩)
          dsimp only [Pt.U, Pt.locs, Pt.cells, Pt.slots] at X17 l17 y17 z17 st17 hQ17
          rw [l17, y17, z17] at X17
          obtain ⟨rfl, N17q, KQ17, fo0_17, fo1_17⟩ := hQ17
          have N17 := Fr.app N2 N17q
          have S_a := S_a.keep KQ17 (ninS ne_a_nb16 nin0) (ninS ne_b_nb16 nin0)
          have E_nb16 := E_nb16.keep KQ17
          have Z18 : n0 ≤ T17.heap.size := Nat.le_trans Z16 KQ17.1
          have O := O.keep KQ17 (allS (P := fun x => n0 ≤ x) g_nb16 all0)
          have K18 := K16.trans KQ17 (allS (P := fun x => x ∈ [] ∨ h0.size ≤ x) (Or.inr sz_nb16) all0)
          have F_high_nb16 := fo0_17
          have F_low_nb16 := fo1_17
          refine Goes.pre (U' := T17.setTop (mkF m 163 #[.val (.ref a), .val (.long (own_p cl 26).1), .second, .val (.long (own_p cl 26).2), .second, .val (.int (Int32.ofNat 26)), .val (.int z6), .val (.int z7), .unset] [(.ref nb16)])) (fun t k => st17.trans k) ?_
          refine Goes.ret X17 (v := (some (.ref nb16))) (fun h => by rw [hret] at h; cases h) hlk (by decide) (by decide) rfl (fun fs hr => retOut X17 hx hret rfl (Or.inr (Or.inr (Or.inr (Or.inr ⟨rfl, rfl, rfl⟩)))) (hb hby d14_163) hr) ?_
          exact ⟨nb16, rfl, N17, K18, E_nb16, F_high_nb16, F_low_nb16, g_nb16, sz_nb16⟩
  exact J35_2 _ 0 _ _ (Or.inl ⟨rfl, rfl⟩) (Nat.zero_le _) rfl _ _ _ X1 HQ1 N1 Z0 K0 O S_a
def own_ts (hq lq : Int64) : List Int32 := [(own_dc ((own_q hq lq 25).2.toInt32 &&& (31 : Int32))), (own_dc ((own_q hq lq 24).2.toInt32 &&& (31 : Int32))), (own_dc ((own_q hq lq 23).2.toInt32 &&& (31 : Int32))), (own_dc ((own_q hq lq 22).2.toInt32 &&& (31 : Int32))), (own_dc ((own_q hq lq 21).2.toInt32 &&& (31 : Int32))), (own_dc ((own_q hq lq 20).2.toInt32 &&& (31 : Int32))), (own_dc ((own_q hq lq 19).2.toInt32 &&& (31 : Int32))), (own_dc ((own_q hq lq 18).2.toInt32 &&& (31 : Int32))), (own_dc ((own_q hq lq 17).2.toInt32 &&& (31 : Int32))), (own_dc ((own_q hq lq 16).2.toInt32 &&& (31 : Int32))), (own_dc ((own_q hq lq 15).2.toInt32 &&& (31 : Int32))), (own_dc ((own_q hq lq 14).2.toInt32 &&& (31 : Int32))), (own_dc ((own_q hq lq 13).2.toInt32 &&& (31 : Int32))), (own_dc ((own_q hq lq 12).2.toInt32 &&& (31 : Int32))), (own_dc ((own_q hq lq 11).2.toInt32 &&& (31 : Int32))), (own_dc ((own_q hq lq 10).2.toInt32 &&& (31 : Int32))), (own_dc ((own_q hq lq 9).2.toInt32 &&& (31 : Int32))), (own_dc ((own_q hq lq 8).2.toInt32 &&& (31 : Int32))), (own_dc ((own_q hq lq 7).2.toInt32 &&& (31 : Int32))), (own_dc ((own_q hq lq 6).2.toInt32 &&& (31 : Int32))), (own_dc ((own_q hq lq 5).2.toInt32 &&& (31 : Int32))), (own_dc ((own_q hq lq 4).2.toInt32 &&& (31 : Int32))), (own_dc ((own_q hq lq 3).2.toInt32 &&& (31 : Int32))), (own_dc ((own_q hq lq 2).2.toInt32 &&& (31 : Int32))), (own_dc ((own_q hq lq 1).2.toInt32 &&& (31 : Int32))), (own_dc ((own_q hq lq 0).2.toInt32 &&& (31 : Int32)))]
theorem ef_rm_ts (m : MethodId) (x0 : Addr) : entryFrame m #[(.ref x0)] 7 = mkF m 0 #[.val (.ref x0), .unset, .unset, .unset, .unset, .unset, .unset] [] := by first | (simp [entryFrame, mkF, argsToLocals, Value.category]; done) | rfl
abbrev M19 : MethodName := ⟨"com/example/known_paths/knownpaths/ulid/Ulid", "toString", "()Ljava/lang/String;"⟩
theorem d19_0 : decode prog_16_method_8_code 0 = .ok (.bipush 26, 2) := by decide +kernel
theorem d19_2 : decode prog_16_method_8_code 2 = .ok (.newarray .char, 2) := by decide +kernel
theorem d19_4 : decode prog_16_method_8_code 4 = .ok (.astore_n 1, 1) := by decide +kernel
theorem d19_5 : decode prog_16_method_8_code 5 = .ok (.aload_n 0, 1) := by decide +kernel
theorem d19_6 : decode prog_16_method_8_code 6 = .ok (.getfield 9, 3) := by decide +kernel
theorem d19_9 : decode prog_16_method_8_code 9 = .ok (.lstore_n 2, 1) := by decide +kernel
theorem d19_10 : decode prog_16_method_8_code 10 = .ok (.aload_n 0, 1) := by decide +kernel
theorem d19_11 : decode prog_16_method_8_code 11 = .ok (.getfield 13, 3) := by decide +kernel
theorem d19_14 : decode prog_16_method_8_code 14 = .ok (.lstore 4, 2) := by decide +kernel
theorem d19_16 : decode prog_16_method_8_code 16 = .ok (.bipush 25, 2) := by decide +kernel
theorem d19_18 : decode prog_16_method_8_code 18 = .ok (.istore 6, 2) := by decide +kernel
theorem d19_20 : decode prog_16_method_8_code 20 = .ok (.iload 6, 2) := by decide +kernel
theorem d19_22 : decode prog_16_method_8_code 22 = .ok (.ifCond .lt 39, 3) := by decide +kernel
theorem d19_25 : decode prog_16_method_8_code 25 = .ok (.aload_n 1, 1) := by decide +kernel
theorem d19_26 : decode prog_16_method_8_code 26 = .ok (.iload 6, 2) := by decide +kernel
theorem d19_28 : decode prog_16_method_8_code 28 = .ok (.ldc 91, 2) := by decide +kernel
theorem d19_30 : decode prog_16_method_8_code 30 = .ok (.lload 4, 2) := by decide +kernel
theorem d19_32 : decode prog_16_method_8_code 32 = .ok (.l2i, 1) := by decide +kernel
theorem d19_33 : decode prog_16_method_8_code 33 = .ok (.bipush 31, 2) := by decide +kernel
theorem d19_35 : decode prog_16_method_8_code 35 = .ok (.iand, 1) := by decide +kernel
theorem d19_36 : decode prog_16_method_8_code 36 = .ok (.invokevirtual 55, 3) := by decide +kernel
theorem d19_39 : decode prog_16_method_8_code 39 = .ok (.castore, 1) := by decide +kernel
theorem d19_40 : decode prog_16_method_8_code 40 = .ok (.lload 4, 2) := by decide +kernel
theorem d19_42 : decode prog_16_method_8_code 42 = .ok (.iconst 5, 1) := by decide +kernel
theorem d19_43 : decode prog_16_method_8_code 43 = .ok (.lushr, 1) := by decide +kernel
theorem d19_44 : decode prog_16_method_8_code 44 = .ok (.lload_n 2, 1) := by decide +kernel
theorem d19_45 : decode prog_16_method_8_code 45 = .ok (.bipush 59, 2) := by decide +kernel
theorem d19_47 : decode prog_16_method_8_code 47 = .ok (.lshl, 1) := by decide +kernel
theorem d19_48 : decode prog_16_method_8_code 48 = .ok (.lor, 1) := by decide +kernel
theorem d19_49 : decode prog_16_method_8_code 49 = .ok (.lstore 4, 2) := by decide +kernel
theorem d19_51 : decode prog_16_method_8_code 51 = .ok (.lload_n 2, 1) := by decide +kernel
theorem d19_52 : decode prog_16_method_8_code 52 = .ok (.iconst 5, 1) := by decide +kernel
theorem d19_53 : decode prog_16_method_8_code 53 = .ok (.lushr, 1) := by decide +kernel
theorem d19_54 : decode prog_16_method_8_code 54 = .ok (.lstore_n 2, 1) := by decide +kernel
theorem d19_55 : decode prog_16_method_8_code 55 = .ok (.iinc 6 (-1), 3) := by decide +kernel
theorem d19_58 : decode prog_16_method_8_code 58 = .ok (.goto (-38), 3) := by decide +kernel
theorem d19_61 : decode prog_16_method_8_code 61 = .ok (.new 39, 3) := by decide +kernel
theorem d19_64 : decode prog_16_method_8_code 64 = .ok (.dup, 1) := by decide +kernel
theorem d19_65 : decode prog_16_method_8_code 65 = .ok (.aload_n 1, 1) := by decide +kernel
theorem d19_66 : decode prog_16_method_8_code 66 = .ok (.invokespecial 73, 3) := by decide +kernel
theorem pd__28_5bC_29V : parseMethodDescriptor "([C)V" = some ⟨[(.array .char)], none⟩ := by decide +kernel
theorem d19_69 : decode prog_16_method_8_code 69 = .ok (.areturn, 1) := by decide +kernel
def Q_rm_ts (Z : State) (a : Addr) (hq : Int64) (lq : Int64) (cs : Int32) (sf : Value) (h0 : Heap) (n0 : Nat) (vm : Vm) (v : Option Value) (h : Heap) (L : List Loc) : Prop := ∃ (r : Addr) (b : Addr) (kb : ClassId), v = some (.ref r) ∧ Fr n0 L ∧ Keep h0 h [] ∧ OwnStr Z h r b kb (own_ts hq lq)
set_option maxRecDepth 65536 in
set_option maxHeartbeats 40000000 in
theorem rm_ts (l : Launch) (Z : State) (a0 : Array Value) (hw : ∀ d ∈ tables_1, d.before a0 Z = true) (hEL : EW Z a0 own_EL) (ws : List Jvm.Cond) (a : Addr) (hq : Int64) (lq : Int64) (cs : Int32) (sf : Value) (h0 : Heap) (n0 : Nat) (Z0 : n0 ≤ h0.size) (F_high_a : Fld Z h0 a "com/example/known_paths/knownpaths/ulid/Ulid" "high" "J" (.long hq)) (F_low_a : Fld Z h0 a "com/example/known_paths/knownpaths/ulid/Ulid" "low" "J" (.long lq)) (S_COMPACT_STRINGS : Sta Z Z.heap "java/lang/String" "COMPACT_STRINGS" "Z" (.int cs)) (S_SIOOBE_FORMATTER : Sta Z Z.heap "jdk/internal/util/Preconditions" "SIOOBE_FORMATTER" "Ljava/util/function/BiFunction;" sf) (hcs : ¬ (cs = (0 : Int32))) (hsf : sf.isRef = true) (O : Old Z n0 h0) :
    MetW l Z own_EL M19 prog_16_method_8_code 7 (some (.object "java/lang/String")) ws (Rm 4 5 188 66) #[(.ref a)] [] h0 (Q_rm_ts Z a hq lq cs sf h0 n0) := by
  refine metW_of (plainFor_of_name pn_com_example_known_paths_knownpaths_ulid_Ulid) (own := "com/example/known_paths/knownpaths/ulid/Ulid") rfl (fun m => ef_rm_ts m a) ?_
  intro p e s m below meth c s₁ hx hby hml hown hnm hZ X0 e0 hret hlk H hSf CR hS
  have N0 := Fr.nil n0
  have K0 := Keep.refl h0 []
  have hk := Nat.le_refl h0.size
  show GoesW p e below s Z own_EL _ _ _ (s₁.setTop (mkF m 0 #[.val (.ref a), .unset, .unset, .unset, .unset, .unset, .unset] []))
  refine GoesW.pre (U' := s₁.setTop (mkF m 2 #[.val (.ref a), .unset, .unset, .unset, .unset, .unset, .unset] [(.int (26 : Int32))])) (fun t k => XS.bipush X0.here hx rfl (hb hby d19_0) k) ?_
  obtain ⟨T1, h1, k1, X1, e1, E1, A1, B1, st1⟩ := newPE X0 hx hZ (wq hw 0 rfl) e0 (g := (mkF m 2 #[.val (.ref a), .unset, .unset, .unset, .unset, .unset, .unset] [(.int (26 : Int32))])) rfl (hb hby d19_2) rfl (by decide) (cap := 26) (by decide) (by decide) (by decide) (by decide) (ad := "[C") (by decide)
  obtain ⟨dd, g1⟩ : ∃ z, z = h0.size := ⟨_, rfl⟩
  rw [← g1] at A1 B1 st1
  have ne_a_dd : a ≠ dd := Nat.ne_of_lt (Nat.lt_of_lt_of_le F_high_a.lt (Nat.le_of_eq g1.symm))
  have ne_dd_a := ne_a_dd.symm
  have g_dd : n0 ≤ dd := Nat.le_trans Z0 (Nat.le_of_eq g1.symm)
  have sz_dd : h0.size ≤ dd := Nat.le_trans K0.1 (Nat.le_of_eq g1.symm)
  have F_high_a := F_high_a.ext E1
  have F_low_a := F_low_a.ext E1
  have O := O.ext E1
  have SF_dd := Safe.ext E1 H (Safe.new (x := dd) (Nat.le_of_eq g1.symm))
  have CR := CR.trans (CHr.ext E1 H)
  have H := H.ext E1
  have hk := Nat.le_trans hk E1.1
  have Z1 : n0 ≤ h1.size := Nat.le_trans Z0 E1.1
  have K1 := K0.ext E1
  have E_dd := B1
  have V_dd : Arv Z h1 dd k1 .char (26 : Int32) [(.int (0 : Int32)), (.int (0 : Int32)), (.int (0 : Int32)), (.int (0 : Int32)), (.int (0 : Int32)), (.int (0 : Int32)), (.int (0 : Int32)), (.int (0 : Int32)), (.int (0 : Int32)), (.int (0 : Int32)), (.int (0 : Int32)), (.int (0 : Int32)), (.int (0 : Int32)), (.int (0 : Int32)), (.int (0 : Int32)), (.int (0 : Int32)), (.int (0 : Int32)), (.int (0 : Int32)), (.int (0 : Int32)), (.int (0 : Int32)), (.int (0 : Int32)), (.int (0 : Int32)), (.int (0 : Int32)), (.int (0 : Int32)), (.int (0 : Int32)), (.int (0 : Int32))] (.int (0 : Int32)) := (Arv.new A1 (by decide)).pad (pad_rep [] (.int (0 : Int32)) 26)
  refine GoesW.pre (U' := T1.setTop (mkF m 6 #[.val (.ref a), .val (.ref dd), .unset, .unset, .unset, .unset, .unset] [(.ref a)])) (fun t k => st1 t (XS.astoreN X1.here hx rfl (hb hby d19_4) rfl rfl (l' := #[.val (.ref a), .val (.ref dd), .unset, .unset, .unset, .unset, .unset]) rfl (XS.aloadN X1.here hx rfl (hb hby d19_5) rfl rfl k))) ?_
  obtain ⟨T2, X2, e2, st2⟩ := getF X1 hx hZ hown (host := "") (Or.inl (wq hw 87 rfl)) Via.refl e1 F_high_a (g := (mkF m 6 #[.val (.ref a), .val (.ref dd), .unset, .unset, .unset, .unset, .unset] [(.ref a)])) rfl rfl (hb hby d19_6)
  refine GoesW.pre (U' := T2.setTop (mkF m 11 #[.val (.ref a), .val (.ref dd), .val (.long hq), .second, .unset, .unset, .unset] [(.ref a)])) (fun t k => st2 t (XS.lstoreN X2.here hx rfl (hb hby d19_9) rfl (l' := #[.val (.ref a), .val (.ref dd), .val (.long hq), .second, .unset, .unset, .unset]) rfl (XS.aloadN X2.here hx rfl (hb hby d19_10) rfl rfl k))) ?_
  obtain ⟨T3, X3, e3, st3⟩ := getF X2 hx hZ hown (host := "") (Or.inl (wq hw 89 rfl)) Via.refl e2 F_low_a (g := (mkF m 11 #[.val (.ref a), .val (.ref dd), .val (.long hq), .second, .unset, .unset, .unset] [(.ref a)])) rfl rfl (hb hby d19_11)
  refine GoesW.pre (U' := T3.setTop (mkF m 20 #[.val (.ref a), .val (.ref dd), .val (.long hq), .second, .val (.long lq), .second, .val (.int (25 : Int32))] [])) (fun t k => st3 t (XS.lstore X3.here hx rfl (hb hby d19_14) rfl (l' := #[.val (.ref a), .val (.ref dd), .val (.long hq), .second, .val (.long lq), .second, .unset]) rfl (XS.bipush X3.here hx rfl (hb hby d19_16) (XS.istore X3.here hx rfl (hb hby d19_18) rfl (l' := #[.val (.ref a), .val (.ref dd), .val (.long hq), .second, .val (.long lq), .second, .val (.int (25 : Int32))]) rfl k)))) ?_
  have eq0_ : own_q hq lq 0 = (hq, lq) := rfl
  refine GoesW.pre (U' := T3.setTop (mkF m 22 #[.val (.ref a), .val (.ref dd), .val (.long hq), .second, .val (.long lq), .second, .val (.int (25 : Int32))] [(.int (25 : Int32))])) (fun t k => XS.iload X3.here hx rfl (hb hby d19_20) rfl k) ?_
  have hc22 : ¬ ((25 : Int32) < (0 : Int32)) := by decide
  refine GoesW.pre (U' := T3.setTop (mkF m 28 #[.val (.ref a), .val (.ref dd), .val (.long hq), .second, .val (.long lq), .second, .val (.int (25 : Int32))] [(.int (25 : Int32)), (.ref dd)])) (fun t k => XS.ifNo X3.here hx rfl (hb hby d19_22) rfl ((if0 _ _).trans (flt hc22).1) (XS.aloadN X3.here hx rfl (hb hby d19_25) rfl rfl (XS.iload X3.here hx rfl (hb hby d19_26) rfl k))) ?_
  have lt0_dd := E_dd.lt
  obtain ⟨ls4, T4, h4, k1_4, lb4, kl4, X4, e4, E4, hS4, hk4, hZ4, hown4, El4, Fc4, Fv4, Av4, lta4, ltb4, CQ4, Li4, Sne4, st4⟩ := ldcCH X3 hx hZ hown (wq hw 103 rfl) (own_atoms hw) e3 hS hk hEL (List.mem_of_getElem? (i := 0) rfl) H (vs := [(.int (48 : Int32)), (.int (49 : Int32)), (.int (50 : Int32)), (.int (51 : Int32)), (.int (52 : Int32)), (.int (53 : Int32)), (.int (54 : Int32)), (.int (55 : Int32)), (.int (56 : Int32)), (.int (57 : Int32)), (.int (65 : Int32)), (.int (66 : Int32)), (.int (67 : Int32)), (.int (68 : Int32)), (.int (69 : Int32)), (.int (70 : Int32)), (.int (71 : Int32)), (.int (72 : Int32)), (.int (74 : Int32)), (.int (75 : Int32)), (.int (77 : Int32)), (.int (78 : Int32)), (.int (80 : Int32)), (.int (81 : Int32)), (.int (82 : Int32)), (.int (83 : Int32)), (.int (84 : Int32)), (.int (86 : Int32)), (.int (87 : Int32)), (.int (88 : Int32)), (.int (89 : Int32)), (.int (90 : Int32))]) (z := (32 : Int32)) ⟨by decide, by decide⟩ (by decide) (by decide) (g := (mkF m 28 #[.val (.ref a), .val (.ref dd), .val (.long hq), .second, .val (.long lq), .second, .val (.int (25 : Int32))] [(.int (25 : Int32)), (.ref dd)])) rfl (hb hby d19_28) (n := 128) (by decide) (by decide) (by decide) (by decide)
  have F_high_a := F_high_a.ext E4
  have F_low_a := F_low_a.ext E4
  have E_dd := E_dd.ext E4
  have V_dd := V_dd.ext E4
  have O := O.ext E4
  have SF_dd : Safe Z own_EL T4.vm h4 dd := CQ4.safe lt0_dd SF_dd
  have Z4 : n0 ≤ h4.size := Nat.le_trans Z1 E4.1
  have K4 := K1.ext E4
  have hS := hS4
  have hk := hk4
  have hZ := hZ4
  have hown := hown4
  have H := CQ4.1
  have CR := CR.trans CQ4
  obtain ⟨ne_dd_ls4, ne_dd_lb4⟩ := Sne4 dd SF_dd
  have ne_ls4_dd := ne_dd_ls4.symm
  have ne_lb4_dd := ne_dd_lb4.symm
  have E_ls4 := El4
  have F_coder_ls4 := Fc4
  have F_value_ls4 := Fv4
  have V_lb4 := Av4
  have Li_ls4 := Li4
  refine GoesW.pre (U' := T4.setTop (mkF m 30 #[.val (.ref a), .val (.ref dd), .val (.long hq), .second, .val (.long lq), .second, .val (.int (25 : Int32))] [(.ref ls4), (.int (25 : Int32)), (.ref dd)])) (fun t k => st4 t k) ?_
  have S_ls4 : OwnStr Z h4 ls4 lb4 kl4 own_lit := ⟨E_ls4, F_value_ls4, own_lit_all, F_coder_ls4, own_litV V_lb4, own_lit_le⟩
  refine GoesW.pre (U' := T4.setTop (mkF m 36 #[.val (.ref a), .val (.ref dd), .val (.long hq), .second, .val (.long lq), .second, .val (.int (25 : Int32))] [(.int ((lq.toInt32) &&& (31 : Int32))), (.ref ls4), (.int (25 : Int32)), (.ref dd)])) (fun t k => XS.lload X4.here hx rfl (hb hby d19_30) rfl (XS.l2i X4.here hx rfl (hb hby d19_32) rfl (XS.bipush X4.here hx rfl (hb hby d19_33) (XS.iand X4.here hx rfl (hb hby d19_35) rfl k)))) ?_
  obtain ⟨cq5, kq5, q5a, q5b, q5c⟩ := isOf hZ e4 S_ls4.1
  obtain ⟨_, _, ⟨T5, L5, k5, n5⟩, -, X5, ⟨Lc5, hQ5, l5, y5, z5⟩, st5⟩ := X4.virtualBack hx (y := (⟨"java/lang/String", "charAt", "(I)C"⟩ : MethodName)) (z := (⟨"java/lang/String", "charAt", "(I)C"⟩ : MethodName)) hown (mvT hZ (wq hw 78 rfl)) (mvT hZ (wq hw 15 rfl)) (notFace_of_selects (args := #[]) (mvT hZ (wq hw 17 rfl))) (mvT hZ (wq hw 17 rfl)) (mvT hZ (wq hw 16 rfl)) (by decide) (backOf (W := 2) (rm_chG l Z a0 hw [] ls4 lb4 kl4 own_lit ((lq.toInt32) &&& (31 : Int32)) cs sf h4 n0 Z4 S_ls4 S_COMPACT_STRINGS S_SIOOBE_FORMATTER (own_a31 _).1 (own_a31 _).2 (by decide) hcs hsf O) hZ (wq hw 18 rfl) (wq hw 7 rfl) (by decide) (by decide)) q5a q5c (g := (mkF m 36 #[.val (.ref a), .val (.ref dd), .val (.long hq), .second, .val (.long lq), .second, .val (.int (25 : Int32))] [(.int ((lq.toInt32) &&& (31 : Int32))), (.ref ls4), (.int (25 : Int32)), (.ref dd)])) rfl (by rw [hml]; rfl) (Steps.refl _) (argsL := [(.int ((lq.toInt32) &&& (31 : Int32)))]) (rest := [(.int (25 : Int32)), (.ref dd)]) (lenOf pd__28I_29C rfl) rfl (by show 2 * 0 + _ ≤ _; exact Nat.le_of_eq rfl) (hb hby d19_36) (fun _ _ => ⟨rfl, e4, (by decide : 3 + 0 ≤ _), (by decide : 158 + 0 ≤ _)⟩)
  dsimp only [Pt.U, Pt.locs, Pt.cells, Pt.slots] at X5 l5 y5 z5 st5 hQ5
  rw [l5, y5, z5] at X5
  obtain ⟨rfl, N5q, HQ5⟩ := hQ5
  have N5 := Fr.app N0 N5q
  refine GoesW.pre (U' := T5.setTop (mkF m 39 #[.val (.ref a), .val (.ref dd), .val (.long hq), .second, .val (.long lq), .second, .val (.int (25 : Int32))] [(.int (own_lit.getD ((lq.toInt32) &&& (31 : Int32)).toNatClampNeg 0)), (.int (25 : Int32)), (.ref dd)])) (fun t k => st5.trans k) ?_
  obtain ⟨cl6, Ar6, q6, Sz6, Ng6, Hs6, Ft6⟩ := id V_dd
  obtain ⟨T6, h6, X6, e6, W6, st6⟩ := stC X5 hx hZ HQ5 Ar6 (j := (25 : Int32)) (inb_of Sz6 ⟨by decide, by decide⟩) (g := (mkF m 39 #[.val (.ref a), .val (.ref dd), .val (.long hq), .second, .val (.long lq), .second, .val (.int (25 : Int32))] [(.int (own_lit.getD ((lq.toInt32) &&& (31 : Int32)).toNatClampNeg 0)), (.int (25 : Int32)), (.ref dd)])) rfl rfl (hb hby d19_39)
  have nr6 : nar .char (own_lit.getD ((lq.toInt32) &&& (31 : Int32)).toNatClampNeg 0) = (own_dc ((lq.toInt32) &&& (31 : Int32))) := own_nch _ (own_lit_ch _)
  have ft6 : fits .char (.int (own_dc ((lq.toInt32) &&& (31 : Int32)))) = true := nr6 ▸ (fits_nar_char (own_lit.getD ((lq.toInt32) &&& (31 : Int32)).toNatClampNeg 0) : fits .char (.int (nar .char (own_lit.getD ((lq.toInt32) &&& (31 : Int32)).toNatClampNeg 0))) = true)
  rw [nr6] at W6
  have F_high_a := F_high_a.other W6 (Or.inl ne_a_dd)
  have F_low_a := F_low_a.other W6 (Or.inl ne_a_dd)
  have E_dd := E_dd.wr W6
  have S_ls4 := S_ls4.keep (Keep.of_wr W6) (ninS ne_ls4_dd nin0) (ninS ne_lb4_dd nin0)
  have Z6 : n0 ≤ h6.size := Nat.le_trans Z4 (Keep.of_wr W6).1
  have O := O.wr W6 g_dd
  have SFo := SF_dd
  have SF_dd := Safe.wr W6 SFo H SF_dd
  have CR := CR.trans (CHr.wr W6 SFo H)
  have H := H.wr W6 SFo
  have hk := Nat.le_trans hk (Keep.of_wr W6).1
  have V_dd : Arv Z h6 dd k1 .char (26 : Int32) [(.int (0 : Int32)), (.int (0 : Int32)), (.int (0 : Int32)), (.int (0 : Int32)), (.int (0 : Int32)), (.int (0 : Int32)), (.int (0 : Int32)), (.int (0 : Int32)), (.int (0 : Int32)), (.int (0 : Int32)), (.int (0 : Int32)), (.int (0 : Int32)), (.int (0 : Int32)), (.int (0 : Int32)), (.int (0 : Int32)), (.int (0 : Int32)), (.int (0 : Int32)), (.int (0 : Int32)), (.int (0 : Int32)), (.int (0 : Int32)), (.int (0 : Int32)), (.int (0 : Int32)), (.int (0 : Int32)), (.int (0 : Int32)), (.int (0 : Int32)), (.int (own_dc ((lq.toInt32) &&& (31 : Int32))))] (.int (0 : Int32)) := Arv.set Ar6 q6 Sz6 Ng6 Hs6 Ft6 ft6 W6 25 rfl (Nat.le_of_ble_eq_true rfl)
  have K6 := K4.wr W6 (Or.inr sz_dd)
  have N6 := Fr.snoc X6 N5 g_dd
  refine GoesW.pre (U' := T6.setTop (mkF m 54 #[.val (.ref a), .val (.ref dd), .val (.long hq), .second, .val (.long (((lq.toUInt64 >>> ((5 : Int32) &&& 0x3f).toInt64.toUInt64).toInt64) ||| (hq <<< ((59 : Int32) &&& 0x3f).toInt64))), .second, .val (.int (25 : Int32))] [(.long ((hq.toUInt64 >>> ((5 : Int32) &&& 0x3f).toInt64.toUInt64).toInt64))])) (fun t k => st6 t (XS.lload X6.here hx rfl (hb hby d19_40) rfl (XS.iconst X6.here hx rfl (hb hby d19_42) (XS.lushr X6.here hx rfl (hb hby d19_43) rfl (XS.lloadN X6.here hx rfl (hb hby d19_44) rfl (XS.bipush X6.here hx rfl (hb hby d19_45) (XS.lshl X6.here hx rfl (hb hby d19_47) rfl (XS.lor X6.here hx rfl (hb hby d19_48) rfl (XS.lstore X6.here hx rfl (hb hby d19_49) rfl (l' := #[.val (.ref a), .val (.ref dd), .val (.long hq), .second, .val (.long (((lq.toUInt64 >>> ((5 : Int32) &&& 0x3f).toInt64.toUInt64).toInt64) ||| (hq <<< ((59 : Int32) &&& 0x3f).toInt64))), .second, .val (.int (25 : Int32))]) rfl (XS.lloadN X6.here hx rfl (hb hby d19_51) rfl (XS.iconst X6.here hx rfl (hb hby d19_52) (XS.lushr X6.here hx rfl (hb hby d19_53) rfl k)))))))))))) ?_
  refine GoesW.pre (U' := T6.setTop (mkF m 58 #[.val (.ref a), .val (.ref dd), .val (.long ((hq.toUInt64 >>> ((5 : Int32) &&& 0x3f).toInt64.toUInt64).toInt64)), .second, .val (.long (((lq.toUInt64 >>> ((5 : Int32) &&& 0x3f).toInt64.toUInt64).toInt64) ||| (hq <<< ((59 : Int32) &&& 0x3f).toInt64))), .second, .val (.int ((25 : Int32) + (-1 : Int32)))] [])) (fun t k => XS.lstoreN X6.here hx rfl (hb hby d19_54) rfl (l' := #[.val (.ref a), .val (.ref dd), .val (.long ((hq.toUInt64 >>> ((5 : Int32) &&& 0x3f).toInt64.toUInt64).toInt64)), .second, .val (.long (((lq.toUInt64 >>> ((5 : Int32) &&& 0x3f).toInt64.toUInt64).toInt64) ||| (hq <<< ((59 : Int32) &&& 0x3f).toInt64))), .second, .val (.int (25 : Int32))]) rfl (XT.iincV X6.here hx rfl (-1 : Int32) (hb hby d19_55) (by decide) rfl (l' := #[.val (.ref a), .val (.ref dd), .val (.long ((hq.toUInt64 >>> ((5 : Int32) &&& 0x3f).toInt64.toUInt64).toInt64)), .second, .val (.long (((lq.toUInt64 >>> ((5 : Int32) &&& 0x3f).toInt64.toUInt64).toInt64) ||| (hq <<< ((59 : Int32) &&& 0x3f).toInt64))), .second, .val (.int ((25 : Int32) + (-1 : Int32)))]) rfl k)) ?_
  rw [(by decide : ((25 : Int32) + (-1 : Int32)) = (24 : Int32))]
  refine GoesW.pre (U' := T6.setTop (mkF m 20 #[.val (.ref a), .val (.ref dd), .val (.long ((hq.toUInt64 >>> ((5 : Int32) &&& 0x3f).toInt64.toUInt64).toInt64)), .second, .val (.long (((lq.toUInt64 >>> ((5 : Int32) &&& 0x3f).toInt64.toUInt64).toInt64) ||| (hq <<< ((59 : Int32) &&& 0x3f).toInt64))), .second, .val (.int (24 : Int32))] [])) (fun t k => XS.goto X6.here hx rfl (pc0 := 58) (pc' := 20) rfl (hb hby d19_58) (by decide) (by decide) k) ?_
  obtain ⟨x1_, hx1_⟩ : ∃ z, z = ((hq.toUInt64 >>> ((5 : Int32) &&& 0x3f).toInt64.toUInt64).toInt64) := ⟨_, rfl⟩
  obtain ⟨y1_, hy1_⟩ : ∃ z, z = (((lq.toUInt64 >>> ((5 : Int32) &&& 0x3f).toInt64.toUInt64).toInt64) ||| (hq <<< ((59 : Int32) &&& 0x3f).toInt64)) := ⟨_, rfl⟩
  rw [← hx1_, ← hy1_]
  have eq1_ : own_q hq lq 1 = (x1_, y1_) := (own_qs hq lq 0).trans (by rw [eq0_, hx1_, hy1_]; rfl)
  refine GoesW.pre (U' := T6.setTop (mkF m 22 #[.val (.ref a), .val (.ref dd), .val (.long x1_), .second, .val (.long y1_), .second, .val (.int (24 : Int32))] [(.int (24 : Int32))])) (fun t k => XS.iload X6.here hx rfl (hb hby d19_20) rfl k) ?_
  have hc22 : ¬ ((24 : Int32) < (0 : Int32)) := by decide
  refine GoesW.pre (U' := T6.setTop (mkF m 36 #[.val (.ref a), .val (.ref dd), .val (.long x1_), .second, .val (.long y1_), .second, .val (.int (24 : Int32))] [(.int ((y1_.toInt32) &&& (31 : Int32))), (.ref ls4), (.int (24 : Int32)), (.ref dd)])) (fun t k => XS.ifNo X6.here hx rfl (hb hby d19_22) rfl ((if0 _ _).trans (flt hc22).1) (XS.aloadN X6.here hx rfl (hb hby d19_25) rfl rfl (XS.iload X6.here hx rfl (hb hby d19_26) rfl (ldcAgain X6 hx hZ hown (wq hw 103 rfl) Li_ls4 (g := (mkF m 28 #[.val (.ref a), .val (.ref dd), .val (.long x1_), .second, .val (.long y1_), .second, .val (.int (24 : Int32))] [(.int (24 : Int32)), (.ref dd)])) rfl (hb hby d19_28) t (XS.lload X6.here hx rfl (hb hby d19_30) rfl (XS.l2i X6.here hx rfl (hb hby d19_32) rfl (XS.bipush X6.here hx rfl (hb hby d19_33) (XS.iand X6.here hx rfl (hb hby d19_35) rfl k)))))))) ?_
  obtain ⟨cq7, kq7, q7a, q7b, q7c⟩ := isOf hZ e6 S_ls4.1
  obtain ⟨_, _, ⟨T7, L7, k7, n7⟩, -, X7, ⟨Lc7, hQ7, l7, y7, z7⟩, st7⟩ := X6.virtualBack hx (y := (⟨"java/lang/String", "charAt", "(I)C"⟩ : MethodName)) (z := (⟨"java/lang/String", "charAt", "(I)C"⟩ : MethodName)) hown (mvT hZ (wq hw 78 rfl)) (mvT hZ (wq hw 15 rfl)) (notFace_of_selects (args := #[]) (mvT hZ (wq hw 17 rfl))) (mvT hZ (wq hw 17 rfl)) (mvT hZ (wq hw 16 rfl)) (by decide) (backOf (W := 2) (rm_chG l Z a0 hw [] ls4 lb4 kl4 own_lit ((y1_.toInt32) &&& (31 : Int32)) cs sf h6 n0 Z6 S_ls4 S_COMPACT_STRINGS S_SIOOBE_FORMATTER (own_a31 _).1 (own_a31 _).2 (by decide) hcs hsf O) hZ (wq hw 18 rfl) (wq hw 7 rfl) (by decide) (by decide)) q7a q7c (g := (mkF m 36 #[.val (.ref a), .val (.ref dd), .val (.long x1_), .second, .val (.long y1_), .second, .val (.int (24 : Int32))] [(.int ((y1_.toInt32) &&& (31 : Int32))), (.ref ls4), (.int (24 : Int32)), (.ref dd)])) rfl (by rw [hml]; rfl) (Steps.refl _) (argsL := [(.int ((y1_.toInt32) &&& (31 : Int32)))]) (rest := [(.int (24 : Int32)), (.ref dd)]) (lenOf pd__28I_29C rfl) rfl (by show 2 * 0 + _ ≤ _; exact Nat.le_of_eq rfl) (hb hby d19_36) (fun _ _ => ⟨rfl, e6, (by decide : 3 + 0 ≤ _), (by decide : 158 + 0 ≤ _)⟩)
  dsimp only [Pt.U, Pt.locs, Pt.cells, Pt.slots] at X7 l7 y7 z7 st7 hQ7
  rw [l7, y7, z7] at X7
  obtain ⟨rfl, N7q, HQ7⟩ := hQ7
  have N7 := Fr.app N6 N7q
  refine GoesW.pre (U' := T7.setTop (mkF m 39 #[.val (.ref a), .val (.ref dd), .val (.long x1_), .second, .val (.long y1_), .second, .val (.int (24 : Int32))] [(.int (own_lit.getD ((y1_.toInt32) &&& (31 : Int32)).toNatClampNeg 0)), (.int (24 : Int32)), (.ref dd)])) (fun t k => st7.trans k) ?_
  obtain ⟨cl8, Ar8, q8, Sz8, Ng8, Hs8, Ft8⟩ := id V_dd
  obtain ⟨T8, h8, X8, e8, W8, st8⟩ := stC X7 hx hZ HQ7 Ar8 (j := (24 : Int32)) (inb_of Sz8 ⟨by decide, by decide⟩) (g := (mkF m 39 #[.val (.ref a), .val (.ref dd), .val (.long x1_), .second, .val (.long y1_), .second, .val (.int (24 : Int32))] [(.int (own_lit.getD ((y1_.toInt32) &&& (31 : Int32)).toNatClampNeg 0)), (.int (24 : Int32)), (.ref dd)])) rfl rfl (hb hby d19_39)
  have nr8 : nar .char (own_lit.getD ((y1_.toInt32) &&& (31 : Int32)).toNatClampNeg 0) = (own_dc ((y1_.toInt32) &&& (31 : Int32))) := own_nch _ (own_lit_ch _)
  have ft8 : fits .char (.int (own_dc ((y1_.toInt32) &&& (31 : Int32)))) = true := nr8 ▸ (fits_nar_char (own_lit.getD ((y1_.toInt32) &&& (31 : Int32)).toNatClampNeg 0) : fits .char (.int (nar .char (own_lit.getD ((y1_.toInt32) &&& (31 : Int32)).toNatClampNeg 0))) = true)
  rw [nr8] at W8
  have F_high_a := F_high_a.other W8 (Or.inl ne_a_dd)
  have F_low_a := F_low_a.other W8 (Or.inl ne_a_dd)
  have E_dd := E_dd.wr W8
  have S_ls4 := S_ls4.keep (Keep.of_wr W8) (ninS ne_ls4_dd nin0) (ninS ne_lb4_dd nin0)
  have Z8 : n0 ≤ h8.size := Nat.le_trans Z6 (Keep.of_wr W8).1
  have O := O.wr W8 g_dd
  have SFo := SF_dd
  have SF_dd := Safe.wr W8 SFo H SF_dd
  have CR := CR.trans (CHr.wr W8 SFo H)
  have H := H.wr W8 SFo
  have hk := Nat.le_trans hk (Keep.of_wr W8).1
  have V_dd : Arv Z h8 dd k1 .char (26 : Int32) [(.int (0 : Int32)), (.int (0 : Int32)), (.int (0 : Int32)), (.int (0 : Int32)), (.int (0 : Int32)), (.int (0 : Int32)), (.int (0 : Int32)), (.int (0 : Int32)), (.int (0 : Int32)), (.int (0 : Int32)), (.int (0 : Int32)), (.int (0 : Int32)), (.int (0 : Int32)), (.int (0 : Int32)), (.int (0 : Int32)), (.int (0 : Int32)), (.int (0 : Int32)), (.int (0 : Int32)), (.int (0 : Int32)), (.int (0 : Int32)), (.int (0 : Int32)), (.int (0 : Int32)), (.int (0 : Int32)), (.int (0 : Int32)), (.int (own_dc ((y1_.toInt32) &&& (31 : Int32)))), (.int (own_dc ((lq.toInt32) &&& (31 : Int32))))] (.int (0 : Int32)) := Arv.set Ar8 q8 Sz8 Ng8 Hs8 Ft8 ft8 W8 24 rfl (Nat.le_of_ble_eq_true rfl)
  have K8 := K6.wr W8 (Or.inr sz_dd)
  have N8 := Fr.snoc X8 N7 g_dd
  refine GoesW.pre (U' := T8.setTop (mkF m 54 #[.val (.ref a), .val (.ref dd), .val (.long x1_), .second, .val (.long (((y1_.toUInt64 >>> ((5 : Int32) &&& 0x3f).toInt64.toUInt64).toInt64) ||| (x1_ <<< ((59 : Int32) &&& 0x3f).toInt64))), .second, .val (.int (24 : Int32))] [(.long ((x1_.toUInt64 >>> ((5 : Int32) &&& 0x3f).toInt64.toUInt64).toInt64))])) (fun t k => st8 t (XS.lload X8.here hx rfl (hb hby d19_40) rfl (XS.iconst X8.here hx rfl (hb hby d19_42) (XS.lushr X8.here hx rfl (hb hby d19_43) rfl (XS.lloadN X8.here hx rfl (hb hby d19_44) rfl (XS.bipush X8.here hx rfl (hb hby d19_45) (XS.lshl X8.here hx rfl (hb hby d19_47) rfl (XS.lor X8.here hx rfl (hb hby d19_48) rfl (XS.lstore X8.here hx rfl (hb hby d19_49) rfl (l' := #[.val (.ref a), .val (.ref dd), .val (.long x1_), .second, .val (.long (((y1_.toUInt64 >>> ((5 : Int32) &&& 0x3f).toInt64.toUInt64).toInt64) ||| (x1_ <<< ((59 : Int32) &&& 0x3f).toInt64))), .second, .val (.int (24 : Int32))]) rfl (XS.lloadN X8.here hx rfl (hb hby d19_51) rfl (XS.iconst X8.here hx rfl (hb hby d19_52) (XS.lushr X8.here hx rfl (hb hby d19_53) rfl k)))))))))))) ?_
  refine GoesW.pre (U' := T8.setTop (mkF m 58 #[.val (.ref a), .val (.ref dd), .val (.long ((x1_.toUInt64 >>> ((5 : Int32) &&& 0x3f).toInt64.toUInt64).toInt64)), .second, .val (.long (((y1_.toUInt64 >>> ((5 : Int32) &&& 0x3f).toInt64.toUInt64).toInt64) ||| (x1_ <<< ((59 : Int32) &&& 0x3f).toInt64))), .second, .val (.int ((24 : Int32) + (-1 : Int32)))] [])) (fun t k => XS.lstoreN X8.here hx rfl (hb hby d19_54) rfl (l' := #[.val (.ref a), .val (.ref dd), .val (.long ((x1_.toUInt64 >>> ((5 : Int32) &&& 0x3f).toInt64.toUInt64).toInt64)), .second, .val (.long (((y1_.toUInt64 >>> ((5 : Int32) &&& 0x3f).toInt64.toUInt64).toInt64) ||| (x1_ <<< ((59 : Int32) &&& 0x3f).toInt64))), .second, .val (.int (24 : Int32))]) rfl (XT.iincV X8.here hx rfl (-1 : Int32) (hb hby d19_55) (by decide) rfl (l' := #[.val (.ref a), .val (.ref dd), .val (.long ((x1_.toUInt64 >>> ((5 : Int32) &&& 0x3f).toInt64.toUInt64).toInt64)), .second, .val (.long (((y1_.toUInt64 >>> ((5 : Int32) &&& 0x3f).toInt64.toUInt64).toInt64) ||| (x1_ <<< ((59 : Int32) &&& 0x3f).toInt64))), .second, .val (.int ((24 : Int32) + (-1 : Int32)))]) rfl k)) ?_
  rw [(by decide : ((24 : Int32) + (-1 : Int32)) = (23 : Int32))]
  refine GoesW.pre (U' := T8.setTop (mkF m 20 #[.val (.ref a), .val (.ref dd), .val (.long ((x1_.toUInt64 >>> ((5 : Int32) &&& 0x3f).toInt64.toUInt64).toInt64)), .second, .val (.long (((y1_.toUInt64 >>> ((5 : Int32) &&& 0x3f).toInt64.toUInt64).toInt64) ||| (x1_ <<< ((59 : Int32) &&& 0x3f).toInt64))), .second, .val (.int (23 : Int32))] [])) (fun t k => XS.goto X8.here hx rfl (pc0 := 58) (pc' := 20) rfl (hb hby d19_58) (by decide) (by decide) k) ?_
  obtain ⟨x2_, hx2_⟩ : ∃ z, z = ((x1_.toUInt64 >>> ((5 : Int32) &&& 0x3f).toInt64.toUInt64).toInt64) := ⟨_, rfl⟩
  obtain ⟨y2_, hy2_⟩ : ∃ z, z = (((y1_.toUInt64 >>> ((5 : Int32) &&& 0x3f).toInt64.toUInt64).toInt64) ||| (x1_ <<< ((59 : Int32) &&& 0x3f).toInt64)) := ⟨_, rfl⟩
  rw [← hx2_, ← hy2_]
  have eq2_ : own_q hq lq 2 = (x2_, y2_) := (own_qs hq lq 1).trans (by rw [eq1_, hx2_, hy2_]; rfl)
  refine GoesW.pre (U' := T8.setTop (mkF m 22 #[.val (.ref a), .val (.ref dd), .val (.long x2_), .second, .val (.long y2_), .second, .val (.int (23 : Int32))] [(.int (23 : Int32))])) (fun t k => XS.iload X8.here hx rfl (hb hby d19_20) rfl k) ?_
  have hc22 : ¬ ((23 : Int32) < (0 : Int32)) := by decide
  refine GoesW.pre (U' := T8.setTop (mkF m 36 #[.val (.ref a), .val (.ref dd), .val (.long x2_), .second, .val (.long y2_), .second, .val (.int (23 : Int32))] [(.int ((y2_.toInt32) &&& (31 : Int32))), (.ref ls4), (.int (23 : Int32)), (.ref dd)])) (fun t k => XS.ifNo X8.here hx rfl (hb hby d19_22) rfl ((if0 _ _).trans (flt hc22).1) (XS.aloadN X8.here hx rfl (hb hby d19_25) rfl rfl (XS.iload X8.here hx rfl (hb hby d19_26) rfl (ldcAgain X8 hx hZ hown (wq hw 103 rfl) Li_ls4 (g := (mkF m 28 #[.val (.ref a), .val (.ref dd), .val (.long x2_), .second, .val (.long y2_), .second, .val (.int (23 : Int32))] [(.int (23 : Int32)), (.ref dd)])) rfl (hb hby d19_28) t (XS.lload X8.here hx rfl (hb hby d19_30) rfl (XS.l2i X8.here hx rfl (hb hby d19_32) rfl (XS.bipush X8.here hx rfl (hb hby d19_33) (XS.iand X8.here hx rfl (hb hby d19_35) rfl k)))))))) ?_
  obtain ⟨cq9, kq9, q9a, q9b, q9c⟩ := isOf hZ e8 S_ls4.1
  obtain ⟨_, _, ⟨T9, L9, k9, n9⟩, -, X9, ⟨Lc9, hQ9, l9, y9, z9⟩, st9⟩ := X8.virtualBack hx (y := (⟨"java/lang/String", "charAt", "(I)C"⟩ : MethodName)) (z := (⟨"java/lang/String", "charAt", "(I)C"⟩ : MethodName)) hown (mvT hZ (wq hw 78 rfl)) (mvT hZ (wq hw 15 rfl)) (notFace_of_selects (args := #[]) (mvT hZ (wq hw 17 rfl))) (mvT hZ (wq hw 17 rfl)) (mvT hZ (wq hw 16 rfl)) (by decide) (backOf (W := 2) (rm_chG l Z a0 hw [] ls4 lb4 kl4 own_lit ((y2_.toInt32) &&& (31 : Int32)) cs sf h8 n0 Z8 S_ls4 S_COMPACT_STRINGS S_SIOOBE_FORMATTER (own_a31 _).1 (own_a31 _).2 (by decide) hcs hsf O) hZ (wq hw 18 rfl) (wq hw 7 rfl) (by decide) (by decide)) q9a q9c (g := (mkF m 36 #[.val (.ref a), .val (.ref dd), .val (.long x2_), .second, .val (.long y2_), .second, .val (.int (23 : Int32))] [(.int ((y2_.toInt32) &&& (31 : Int32))), (.ref ls4), (.int (23 : Int32)), (.ref dd)])) rfl (by rw [hml]; rfl) (Steps.refl _) (argsL := [(.int ((y2_.toInt32) &&& (31 : Int32)))]) (rest := [(.int (23 : Int32)), (.ref dd)]) (lenOf pd__28I_29C rfl) rfl (by show 2 * 0 + _ ≤ _; exact Nat.le_of_eq rfl) (hb hby d19_36) (fun _ _ => ⟨rfl, e8, (by decide : 3 + 0 ≤ _), (by decide : 158 + 0 ≤ _)⟩)
  dsimp only [Pt.U, Pt.locs, Pt.cells, Pt.slots] at X9 l9 y9 z9 st9 hQ9
  rw [l9, y9, z9] at X9
  obtain ⟨rfl, N9q, HQ9⟩ := hQ9
  have N9 := Fr.app N8 N9q
  refine GoesW.pre (U' := T9.setTop (mkF m 39 #[.val (.ref a), .val (.ref dd), .val (.long x2_), .second, .val (.long y2_), .second, .val (.int (23 : Int32))] [(.int (own_lit.getD ((y2_.toInt32) &&& (31 : Int32)).toNatClampNeg 0)), (.int (23 : Int32)), (.ref dd)])) (fun t k => st9.trans k) ?_
  obtain ⟨cl10, Ar10, q10, Sz10, Ng10, Hs10, Ft10⟩ := id V_dd
  obtain ⟨T10, h10, X10, e10, W10, st10⟩ := stC X9 hx hZ HQ9 Ar10 (j := (23 : Int32)) (inb_of Sz10 ⟨by decide, by decide⟩) (g := (mkF m 39 #[.val (.ref a), .val (.ref dd), .val (.long x2_), .second, .val (.long y2_), .second, .val (.int (23 : Int32))] [(.int (own_lit.getD ((y2_.toInt32) &&& (31 : Int32)).toNatClampNeg 0)), (.int (23 : Int32)), (.ref dd)])) rfl rfl (hb hby d19_39)
  have nr10 : nar .char (own_lit.getD ((y2_.toInt32) &&& (31 : Int32)).toNatClampNeg 0) = (own_dc ((y2_.toInt32) &&& (31 : Int32))) := own_nch _ (own_lit_ch _)
  have ft10 : fits .char (.int (own_dc ((y2_.toInt32) &&& (31 : Int32)))) = true := nr10 ▸ (fits_nar_char (own_lit.getD ((y2_.toInt32) &&& (31 : Int32)).toNatClampNeg 0) : fits .char (.int (nar .char (own_lit.getD ((y2_.toInt32) &&& (31 : Int32)).toNatClampNeg 0))) = true)
  rw [nr10] at W10
  have F_high_a := F_high_a.other W10 (Or.inl ne_a_dd)
  have F_low_a := F_low_a.other W10 (Or.inl ne_a_dd)
  have E_dd := E_dd.wr W10
  have S_ls4 := S_ls4.keep (Keep.of_wr W10) (ninS ne_ls4_dd nin0) (ninS ne_lb4_dd nin0)
  have Z10 : n0 ≤ h10.size := Nat.le_trans Z8 (Keep.of_wr W10).1
  have O := O.wr W10 g_dd
  have SFo := SF_dd
  have SF_dd := Safe.wr W10 SFo H SF_dd
  have CR := CR.trans (CHr.wr W10 SFo H)
  have H := H.wr W10 SFo
  have hk := Nat.le_trans hk (Keep.of_wr W10).1
  have V_dd : Arv Z h10 dd k1 .char (26 : Int32) [(.int (0 : Int32)), (.int (0 : Int32)), (.int (0 : Int32)), (.int (0 : Int32)), (.int (0 : Int32)), (.int (0 : Int32)), (.int (0 : Int32)), (.int (0 : Int32)), (.int (0 : Int32)), (.int (0 : Int32)), (.int (0 : Int32)), (.int (0 : Int32)), (.int (0 : Int32)), (.int (0 : Int32)), (.int (0 : Int32)), (.int (0 : Int32)), (.int (0 : Int32)), (.int (0 : Int32)), (.int (0 : Int32)), (.int (0 : Int32)), (.int (0 : Int32)), (.int (0 : Int32)), (.int (0 : Int32)), (.int (own_dc ((y2_.toInt32) &&& (31 : Int32)))), (.int (own_dc ((y1_.toInt32) &&& (31 : Int32)))), (.int (own_dc ((lq.toInt32) &&& (31 : Int32))))] (.int (0 : Int32)) := Arv.set Ar10 q10 Sz10 Ng10 Hs10 Ft10 ft10 W10 23 rfl (Nat.le_of_ble_eq_true rfl)
  have K10 := K8.wr W10 (Or.inr sz_dd)
  have N10 := Fr.snoc X10 N9 g_dd
  refine GoesW.pre (U' := T10.setTop (mkF m 54 #[.val (.ref a), .val (.ref dd), .val (.long x2_), .second, .val (.long (((y2_.toUInt64 >>> ((5 : Int32) &&& 0x3f).toInt64.toUInt64).toInt64) ||| (x2_ <<< ((59 : Int32) &&& 0x3f).toInt64))), .second, .val (.int (23 : Int32))] [(.long ((x2_.toUInt64 >>> ((5 : Int32) &&& 0x3f).toInt64.toUInt64).toInt64))])) (fun t k => st10 t (XS.lload X10.here hx rfl (hb hby d19_40) rfl (XS.iconst X10.here hx rfl (hb hby d19_42) (XS.lushr X10.here hx rfl (hb hby d19_43) rfl (XS.lloadN X10.here hx rfl (hb hby d19_44) rfl (XS.bipush X10.here hx rfl (hb hby d19_45) (XS.lshl X10.here hx rfl (hb hby d19_47) rfl (XS.lor X10.here hx rfl (hb hby d19_48) rfl (XS.lstore X10.here hx rfl (hb hby d19_49) rfl (l' := #[.val (.ref a), .val (.ref dd), .val (.long x2_), .second, .val (.long (((y2_.toUInt64 >>> ((5 : Int32) &&& 0x3f).toInt64.toUInt64).toInt64) ||| (x2_ <<< ((59 : Int32) &&& 0x3f).toInt64))), .second, .val (.int (23 : Int32))]) rfl (XS.lloadN X10.here hx rfl (hb hby d19_51) rfl (XS.iconst X10.here hx rfl (hb hby d19_52) (XS.lushr X10.here hx rfl (hb hby d19_53) rfl k)))))))))))) ?_
  refine GoesW.pre (U' := T10.setTop (mkF m 58 #[.val (.ref a), .val (.ref dd), .val (.long ((x2_.toUInt64 >>> ((5 : Int32) &&& 0x3f).toInt64.toUInt64).toInt64)), .second, .val (.long (((y2_.toUInt64 >>> ((5 : Int32) &&& 0x3f).toInt64.toUInt64).toInt64) ||| (x2_ <<< ((59 : Int32) &&& 0x3f).toInt64))), .second, .val (.int ((23 : Int32) + (-1 : Int32)))] [])) (fun t k => XS.lstoreN X10.here hx rfl (hb hby d19_54) rfl (l' := #[.val (.ref a), .val (.ref dd), .val (.long ((x2_.toUInt64 >>> ((5 : Int32) &&& 0x3f).toInt64.toUInt64).toInt64)), .second, .val (.long (((y2_.toUInt64 >>> ((5 : Int32) &&& 0x3f).toInt64.toUInt64).toInt64) ||| (x2_ <<< ((59 : Int32) &&& 0x3f).toInt64))), .second, .val (.int (23 : Int32))]) rfl (XT.iincV X10.here hx rfl (-1 : Int32) (hb hby d19_55) (by decide) rfl (l' := #[.val (.ref a), .val (.ref dd), .val (.long ((x2_.toUInt64 >>> ((5 : Int32) &&& 0x3f).toInt64.toUInt64).toInt64)), .second, .val (.long (((y2_.toUInt64 >>> ((5 : Int32) &&& 0x3f).toInt64.toUInt64).toInt64) ||| (x2_ <<< ((59 : Int32) &&& 0x3f).toInt64))), .second, .val (.int ((23 : Int32) + (-1 : Int32)))]) rfl k)) ?_
  rw [(by decide : ((23 : Int32) + (-1 : Int32)) = (22 : Int32))]
  refine GoesW.pre (U' := T10.setTop (mkF m 20 #[.val (.ref a), .val (.ref dd), .val (.long ((x2_.toUInt64 >>> ((5 : Int32) &&& 0x3f).toInt64.toUInt64).toInt64)), .second, .val (.long (((y2_.toUInt64 >>> ((5 : Int32) &&& 0x3f).toInt64.toUInt64).toInt64) ||| (x2_ <<< ((59 : Int32) &&& 0x3f).toInt64))), .second, .val (.int (22 : Int32))] [])) (fun t k => XS.goto X10.here hx rfl (pc0 := 58) (pc' := 20) rfl (hb hby d19_58) (by decide) (by decide) k) ?_
  obtain ⟨x3_, hx3_⟩ : ∃ z, z = ((x2_.toUInt64 >>> ((5 : Int32) &&& 0x3f).toInt64.toUInt64).toInt64) := ⟨_, rfl⟩
  obtain ⟨y3_, hy3_⟩ : ∃ z, z = (((y2_.toUInt64 >>> ((5 : Int32) &&& 0x3f).toInt64.toUInt64).toInt64) ||| (x2_ <<< ((59 : Int32) &&& 0x3f).toInt64)) := ⟨_, rfl⟩
  rw [← hx3_, ← hy3_]
  have eq3_ : own_q hq lq 3 = (x3_, y3_) := (own_qs hq lq 2).trans (by rw [eq2_, hx3_, hy3_]; rfl)
  refine GoesW.pre (U' := T10.setTop (mkF m 22 #[.val (.ref a), .val (.ref dd), .val (.long x3_), .second, .val (.long y3_), .second, .val (.int (22 : Int32))] [(.int (22 : Int32))])) (fun t k => XS.iload X10.here hx rfl (hb hby d19_20) rfl k) ?_
  have hc22 : ¬ ((22 : Int32) < (0 : Int32)) := by decide
  refine GoesW.pre (U' := T10.setTop (mkF m 36 #[.val (.ref a), .val (.ref dd), .val (.long x3_), .second, .val (.long y3_), .second, .val (.int (22 : Int32))] [(.int ((y3_.toInt32) &&& (31 : Int32))), (.ref ls4), (.int (22 : Int32)), (.ref dd)])) (fun t k => XS.ifNo X10.here hx rfl (hb hby d19_22) rfl ((if0 _ _).trans (flt hc22).1) (XS.aloadN X10.here hx rfl (hb hby d19_25) rfl rfl (XS.iload X10.here hx rfl (hb hby d19_26) rfl (ldcAgain X10 hx hZ hown (wq hw 103 rfl) Li_ls4 (g := (mkF m 28 #[.val (.ref a), .val (.ref dd), .val (.long x3_), .second, .val (.long y3_), .second, .val (.int (22 : Int32))] [(.int (22 : Int32)), (.ref dd)])) rfl (hb hby d19_28) t (XS.lload X10.here hx rfl (hb hby d19_30) rfl (XS.l2i X10.here hx rfl (hb hby d19_32) rfl (XS.bipush X10.here hx rfl (hb hby d19_33) (XS.iand X10.here hx rfl (hb hby d19_35) rfl k)))))))) ?_
  obtain ⟨cq11, kq11, q11a, q11b, q11c⟩ := isOf hZ e10 S_ls4.1
  obtain ⟨_, _, ⟨T11, L11, k11, n11⟩, -, X11, ⟨Lc11, hQ11, l11, y11, z11⟩, st11⟩ := X10.virtualBack hx (y := (⟨"java/lang/String", "charAt", "(I)C"⟩ : MethodName)) (z := (⟨"java/lang/String", "charAt", "(I)C"⟩ : MethodName)) hown (mvT hZ (wq hw 78 rfl)) (mvT hZ (wq hw 15 rfl)) (notFace_of_selects (args := #[]) (mvT hZ (wq hw 17 rfl))) (mvT hZ (wq hw 17 rfl)) (mvT hZ (wq hw 16 rfl)) (by decide) (backOf (W := 2) (rm_chG l Z a0 hw [] ls4 lb4 kl4 own_lit ((y3_.toInt32) &&& (31 : Int32)) cs sf h10 n0 Z10 S_ls4 S_COMPACT_STRINGS S_SIOOBE_FORMATTER (own_a31 _).1 (own_a31 _).2 (by decide) hcs hsf O) hZ (wq hw 18 rfl) (wq hw 7 rfl) (by decide) (by decide)) q11a q11c (g := (mkF m 36 #[.val (.ref a), .val (.ref dd), .val (.long x3_), .second, .val (.long y3_), .second, .val (.int (22 : Int32))] [(.int ((y3_.toInt32) &&& (31 : Int32))), (.ref ls4), (.int (22 : Int32)), (.ref dd)])) rfl (by rw [hml]; rfl) (Steps.refl _) (argsL := [(.int ((y3_.toInt32) &&& (31 : Int32)))]) (rest := [(.int (22 : Int32)), (.ref dd)]) (lenOf pd__28I_29C rfl) rfl (by show 2 * 0 + _ ≤ _; exact Nat.le_of_eq rfl) (hb hby d19_36) (fun _ _ => ⟨rfl, e10, (by decide : 3 + 0 ≤ _), (by decide : 158 + 0 ≤ _)⟩)
  dsimp only [Pt.U, Pt.locs, Pt.cells, Pt.slots] at X11 l11 y11 z11 st11 hQ11
  rw [l11, y11, z11] at X11
  obtain ⟨rfl, N11q, HQ11⟩ := hQ11
  have N11 := Fr.app N10 N11q
  refine GoesW.pre (U' := T11.setTop (mkF m 39 #[.val (.ref a), .val (.ref dd), .val (.long x3_), .second, .val (.long y3_), .second, .val (.int (22 : Int32))] [(.int (own_lit.getD ((y3_.toInt32) &&& (31 : Int32)).toNatClampNeg 0)), (.int (22 : Int32)), (.ref dd)])) (fun t k => st11.trans k) ?_
  obtain ⟨cl12, Ar12, q12, Sz12, Ng12, Hs12, Ft12⟩ := id V_dd
  obtain ⟨T12, h12, X12, e12, W12, st12⟩ := stC X11 hx hZ HQ11 Ar12 (j := (22 : Int32)) (inb_of Sz12 ⟨by decide, by decide⟩) (g := (mkF m 39 #[.val (.ref a), .val (.ref dd), .val (.long x3_), .second, .val (.long y3_), .second, .val (.int (22 : Int32))] [(.int (own_lit.getD ((y3_.toInt32) &&& (31 : Int32)).toNatClampNeg 0)), (.int (22 : Int32)), (.ref dd)])) rfl rfl (hb hby d19_39)
  have nr12 : nar .char (own_lit.getD ((y3_.toInt32) &&& (31 : Int32)).toNatClampNeg 0) = (own_dc ((y3_.toInt32) &&& (31 : Int32))) := own_nch _ (own_lit_ch _)
  have ft12 : fits .char (.int (own_dc ((y3_.toInt32) &&& (31 : Int32)))) = true := nr12 ▸ (fits_nar_char (own_lit.getD ((y3_.toInt32) &&& (31 : Int32)).toNatClampNeg 0) : fits .char (.int (nar .char (own_lit.getD ((y3_.toInt32) &&& (31 : Int32)).toNatClampNeg 0))) = true)
  rw [nr12] at W12
  have F_high_a := F_high_a.other W12 (Or.inl ne_a_dd)
  have F_low_a := F_low_a.other W12 (Or.inl ne_a_dd)
  have E_dd := E_dd.wr W12
  have S_ls4 := S_ls4.keep (Keep.of_wr W12) (ninS ne_ls4_dd nin0) (ninS ne_lb4_dd nin0)
  have Z12 : n0 ≤ h12.size := Nat.le_trans Z10 (Keep.of_wr W12).1
  have O := O.wr W12 g_dd
  have SFo := SF_dd
  have SF_dd := Safe.wr W12 SFo H SF_dd
  have CR := CR.trans (CHr.wr W12 SFo H)
  have H := H.wr W12 SFo
  have hk := Nat.le_trans hk (Keep.of_wr W12).1
  have V_dd : Arv Z h12 dd k1 .char (26 : Int32) [(.int (0 : Int32)), (.int (0 : Int32)), (.int (0 : Int32)), (.int (0 : Int32)), (.int (0 : Int32)), (.int (0 : Int32)), (.int (0 : Int32)), (.int (0 : Int32)), (.int (0 : Int32)), (.int (0 : Int32)), (.int (0 : Int32)), (.int (0 : Int32)), (.int (0 : Int32)), (.int (0 : Int32)), (.int (0 : Int32)), (.int (0 : Int32)), (.int (0 : Int32)), (.int (0 : Int32)), (.int (0 : Int32)), (.int (0 : Int32)), (.int (0 : Int32)), (.int (0 : Int32)), (.int (own_dc ((y3_.toInt32) &&& (31 : Int32)))), (.int (own_dc ((y2_.toInt32) &&& (31 : Int32)))), (.int (own_dc ((y1_.toInt32) &&& (31 : Int32)))), (.int (own_dc ((lq.toInt32) &&& (31 : Int32))))] (.int (0 : Int32)) := Arv.set Ar12 q12 Sz12 Ng12 Hs12 Ft12 ft12 W12 22 rfl (Nat.le_of_ble_eq_true rfl)
  have K12 := K10.wr W12 (Or.inr sz_dd)
  have N12 := Fr.snoc X12 N11 g_dd
  refine GoesW.pre (U' := T12.setTop (mkF m 54 #[.val (.ref a), .val (.ref dd), .val (.long x3_), .second, .val (.long (((y3_.toUInt64 >>> ((5 : Int32) &&& 0x3f).toInt64.toUInt64).toInt64) ||| (x3_ <<< ((59 : Int32) &&& 0x3f).toInt64))), .second, .val (.int (22 : Int32))] [(.long ((x3_.toUInt64 >>> ((5 : Int32) &&& 0x3f).toInt64.toUInt64).toInt64))])) (fun t k => st12 t (XS.lload X12.here hx rfl (hb hby d19_40) rfl (XS.iconst X12.here hx rfl (hb hby d19_42) (XS.lushr X12.here hx rfl (hb hby d19_43) rfl (XS.lloadN X12.here hx rfl (hb hby d19_44) rfl (XS.bipush X12.here hx rfl (hb hby d19_45) (XS.lshl X12.here hx rfl (hb hby d19_47) rfl (XS.lor X12.here hx rfl (hb hby d19_48) rfl (XS.lstore X12.here hx rfl (hb hby d19_49) rfl (l' := #[.val (.ref a), .val (.ref dd), .val (.long x3_), .second, .val (.long (((y3_.toUInt64 >>> ((5 : Int32) &&& 0x3f).toInt64.toUInt64).toInt64) ||| (x3_ <<< ((59 : Int32) &&& 0x3f).toInt64))), .second, .val (.int (22 : Int32))]) rfl (XS.lloadN X12.here hx rfl (hb hby d19_51) rfl (XS.iconst X12.here hx rfl (hb hby d19_52) (XS.lushr X12.here hx rfl (hb hby d19_53) rfl k)))))))))))) ?_
  refine GoesW.pre (U' := T12.setTop (mkF m 58 #[.val (.ref a), .val (.ref dd), .val (.long ((x3_.toUInt64 >>> ((5 : Int32) &&& 0x3f).toInt64.toUInt64).toInt64)), .second, .val (.long (((y3_.toUInt64 >>> ((5 : Int32) &&& 0x3f).toInt64.toUInt64).toInt64) ||| (x3_ <<< ((59 : Int32) &&& 0x3f).toInt64))), .second, .val (.int ((22 : Int32) + (-1 : Int32)))] [])) (fun t k => XS.lstoreN X12.here hx rfl (hb hby d19_54) rfl (l' := #[.val (.ref a), .val (.ref dd), .val (.long ((x3_.toUInt64 >>> ((5 : Int32) &&& 0x3f).toInt64.toUInt64).toInt64)), .second, .val (.long (((y3_.toUInt64 >>> ((5 : Int32) &&& 0x3f).toInt64.toUInt64).toInt64) ||| (x3_ <<< ((59 : Int32) &&& 0x3f).toInt64))), .second, .val (.int (22 : Int32))]) rfl (XT.iincV X12.here hx rfl (-1 : Int32) (hb hby d19_55) (by decide) rfl (l' := #[.val (.ref a), .val (.ref dd), .val (.long ((x3_.toUInt64 >>> ((5 : Int32) &&& 0x3f).toInt64.toUInt64).toInt64)), .second, .val (.long (((y3_.toUInt64 >>> ((5 : Int32) &&& 0x3f).toInt64.toUInt64).toInt64) ||| (x3_ <<< ((59 : Int32) &&& 0x3f).toInt64))), .second, .val (.int ((22 : Int32) + (-1 : Int32)))]) rfl k)) ?_
  rw [(by decide : ((22 : Int32) + (-1 : Int32)) = (21 : Int32))]
  refine GoesW.pre (U' := T12.setTop (mkF m 20 #[.val (.ref a), .val (.ref dd), .val (.long ((x3_.toUInt64 >>> ((5 : Int32) &&& 0x3f).toInt64.toUInt64).toInt64)), .second, .val (.long (((y3_.toUInt64 >>> ((5 : Int32) &&& 0x3f).toInt64.toUInt64).toInt64) ||| (x3_ <<< ((59 : Int32) &&& 0x3f).toInt64))), .second, .val (.int (21 : Int32))] [])) (fun t k => XS.goto X12.here hx rfl (pc0 := 58) (pc' := 20) rfl (hb hby d19_58) (by decide) (by decide) k) ?_
  obtain ⟨x4_, hx4_⟩ : ∃ z, z = ((x3_.toUInt64 >>> ((5 : Int32) &&& 0x3f).toInt64.toUInt64).toInt64) := ⟨_, rfl⟩
  obtain ⟨y4_, hy4_⟩ : ∃ z, z = (((y3_.toUInt64 >>> ((5 : Int32) &&& 0x3f).toInt64.toUInt64).toInt64) ||| (x3_ <<< ((59 : Int32) &&& 0x3f).toInt64)) := ⟨_, rfl⟩
  rw [← hx4_, ← hy4_]
  have eq4_ : own_q hq lq 4 = (x4_, y4_) := (own_qs hq lq 3).trans (by rw [eq3_, hx4_, hy4_]; rfl)
  refine GoesW.pre (U' := T12.setTop (mkF m 22 #[.val (.ref a), .val (.ref dd), .val (.long x4_), .second, .val (.long y4_), .second, .val (.int (21 : Int32))] [(.int (21 : Int32))])) (fun t k => XS.iload X12.here hx rfl (hb hby d19_20) rfl k) ?_
  have hc22 : ¬ ((21 : Int32) < (0 : Int32)) := by decide
  refine GoesW.pre (U' := T12.setTop (mkF m 36 #[.val (.ref a), .val (.ref dd), .val (.long x4_), .second, .val (.long y4_), .second, .val (.int (21 : Int32))] [(.int ((y4_.toInt32) &&& (31 : Int32))), (.ref ls4), (.int (21 : Int32)), (.ref dd)])) (fun t k => XS.ifNo X12.here hx rfl (hb hby d19_22) rfl ((if0 _ _).trans (flt hc22).1) (XS.aloadN X12.here hx rfl (hb hby d19_25) rfl rfl (XS.iload X12.here hx rfl (hb hby d19_26) rfl (ldcAgain X12 hx hZ hown (wq hw 103 rfl) Li_ls4 (g := (mkF m 28 #[.val (.ref a), .val (.ref dd), .val (.long x4_), .second, .val (.long y4_), .second, .val (.int (21 : Int32))] [(.int (21 : Int32)), (.ref dd)])) rfl (hb hby d19_28) t (XS.lload X12.here hx rfl (hb hby d19_30) rfl (XS.l2i X12.here hx rfl (hb hby d19_32) rfl (XS.bipush X12.here hx rfl (hb hby d19_33) (XS.iand X12.here hx rfl (hb hby d19_35) rfl k)))))))) ?_
  obtain ⟨cq13, kq13, q13a, q13b, q13c⟩ := isOf hZ e12 S_ls4.1
  obtain ⟨_, _, ⟨T13, L13, k13, n13⟩, -, X13, ⟨Lc13, hQ13, l13, y13, z13⟩, st13⟩ := X12.virtualBack hx (y := (⟨"java/lang/String", "charAt", "(I)C"⟩ : MethodName)) (z := (⟨"java/lang/String", "charAt", "(I)C"⟩ : MethodName)) hown (mvT hZ (wq hw 78 rfl)) (mvT hZ (wq hw 15 rfl)) (notFace_of_selects (args := #[]) (mvT hZ (wq hw 17 rfl))) (mvT hZ (wq hw 17 rfl)) (mvT hZ (wq hw 16 rfl)) (by decide) (backOf (W := 2) (rm_chG l Z a0 hw [] ls4 lb4 kl4 own_lit ((y4_.toInt32) &&& (31 : Int32)) cs sf h12 n0 Z12 S_ls4 S_COMPACT_STRINGS S_SIOOBE_FORMATTER (own_a31 _).1 (own_a31 _).2 (by decide) hcs hsf O) hZ (wq hw 18 rfl) (wq hw 7 rfl) (by decide) (by decide)) q13a q13c (g := (mkF m 36 #[.val (.ref a), .val (.ref dd), .val (.long x4_), .second, .val (.long y4_), .second, .val (.int (21 : Int32))] [(.int ((y4_.toInt32) &&& (31 : Int32))), (.ref ls4), (.int (21 : Int32)), (.ref dd)])) rfl (by rw [hml]; rfl) (Steps.refl _) (argsL := [(.int ((y4_.toInt32) &&& (31 : Int32)))]) (rest := [(.int (21 : Int32)), (.ref dd)]) (lenOf pd__28I_29C rfl) rfl (by show 2 * 0 + _ ≤ _; exact Nat.le_of_eq rfl) (hb hby d19_36) (fun _ _ => ⟨rfl, e12, (by decide : 3 + 0 ≤ _), (by decide : 158 + 0 ≤ _)⟩)
  dsimp only [Pt.U, Pt.locs, Pt.cells, Pt.slots] at X13 l13 y13 z13 st13 hQ13
  rw [l13, y13, z13] at X13
  obtain ⟨rfl, N13q, HQ13⟩ := hQ13
  have N13 := Fr.app N12 N13q
  refine GoesW.pre (U' := T13.setTop (mkF m 39 #[.val (.ref a), .val (.ref dd), .val (.long x4_), .second, .val (.long y4_), .second, .val (.int (21 : Int32))] [(.int (own_lit.getD ((y4_.toInt32) &&& (31 : Int32)).toNatClampNeg 0)), (.int (21 : Int32)), (.ref dd)])) (fun t k => st13.trans k) ?_
  obtain ⟨cl14, Ar14, q14, Sz14, Ng14, Hs14, Ft14⟩ := id V_dd
  obtain ⟨T14, h14, X14, e14, W14, st14⟩ := stC X13 hx hZ HQ13 Ar14 (j := (21 : Int32)) (inb_of Sz14 ⟨by decide, by decide⟩) (g := (mkF m 39 #[.val (.ref a), .val (.ref dd), .val (.long x4_), .second, .val (.long y4_), .second, .val (.int (21 : Int32))] [(.int (own_lit.getD ((y4_.toInt32) &&& (31 : Int32)).toNatClampNeg 0)), (.int (21 : Int32)), (.ref dd)])) rfl rfl (hb hby d19_39)
  have nr14 : nar .char (own_lit.getD ((y4_.toInt32) &&& (31 : Int32)).toNatClampNeg 0) = (own_dc ((y4_.toInt32) &&& (31 : Int32))) := own_nch _ (own_lit_ch _)
  have ft14 : fits .char (.int (own_dc ((y4_.toInt32) &&& (31 : Int32)))) = true := nr14 ▸ (fits_nar_char (own_lit.getD ((y4_.toInt32) &&& (31 : Int32)).toNatClampNeg 0) : fits .char (.int (nar .char (own_lit.getD ((y4_.toInt32) &&& (31 : Int32)).toNatClampNeg 0))) = true)
  rw [nr14] at W14
  have F_high_a := F_high_a.other W14 (Or.inl ne_a_dd)
  have F_low_a := F_low_a.other W14 (Or.inl ne_a_dd)
  have E_dd := E_dd.wr W14
  have S_ls4 := S_ls4.keep (Keep.of_wr W14) (ninS ne_ls4_dd nin0) (ninS ne_lb4_dd nin0)
  have Z14 : n0 ≤ h14.size := Nat.le_trans Z12 (Keep.of_wr W14).1
  have O := O.wr W14 g_dd
  have SFo := SF_dd
  have SF_dd := Safe.wr W14 SFo H SF_dd
  have CR := CR.trans (CHr.wr W14 SFo H)
  have H := H.wr W14 SFo
  have hk := Nat.le_trans hk (Keep.of_wr W14).1
  have V_dd : Arv Z h14 dd k1 .char (26 : Int32) [(.int (0 : Int32)), (.int (0 : Int32)), (.int (0 : Int32)), (.int (0 : Int32)), (.int (0 : Int32)), (.int (0 : Int32)), (.int (0 : Int32)), (.int (0 : Int32)), (.int (0 : Int32)), (.int (0 : Int32)), (.int (0 : Int32)), (.int (0 : Int32)), (.int (0 : Int32)), (.int (0 : Int32)), (.int (0 : Int32)), (.int (0 : Int32)), (.int (0 : Int32)), (.int (0 : Int32)), (.int (0 : Int32)), (.int (0 : Int32)), (.int (0 : Int32)), (.int (own_dc ((y4_.toInt32) &&& (31 : Int32)))), (.int (own_dc ((y3_.toInt32) &&& (31 : Int32)))), (.int (own_dc ((y2_.toInt32) &&& (31 : Int32)))), (.int (own_dc ((y1_.toInt32) &&& (31 : Int32)))), (.int (own_dc ((lq.toInt32) &&& (31 : Int32))))] (.int (0 : Int32)) := Arv.set Ar14 q14 Sz14 Ng14 Hs14 Ft14 ft14 W14 21 rfl (Nat.le_of_ble_eq_true rfl)
  have K14 := K12.wr W14 (Or.inr sz_dd)
  have N14 := Fr.snoc X14 N13 g_dd
  refine GoesW.pre (U' := T14.setTop (mkF m 54 #[.val (.ref a), .val (.ref dd), .val (.long x4_), .second, .val (.long (((y4_.toUInt64 >>> ((5 : Int32) &&& 0x3f).toInt64.toUInt64).toInt64) ||| (x4_ <<< ((59 : Int32) &&& 0x3f).toInt64))), .second, .val (.int (21 : Int32))] [(.long ((x4_.toUInt64 >>> ((5 : Int32) &&& 0x3f).toInt64.toUInt64).toInt64))])) (fun t k => st14 t (XS.lload X14.here hx rfl (hb hby d19_40) rfl (XS.iconst X14.here hx rfl (hb hby d19_42) (XS.lushr X14.here hx rfl (hb hby d19_43) rfl (XS.lloadN X14.here hx rfl (hb hby d19_44) rfl (XS.bipush X14.here hx rfl (hb hby d19_45) (XS.lshl X14.here hx rfl (hb hby d19_47) rfl (XS.lor X14.here hx rfl (hb hby d19_48) rfl (XS.lstore X14.here hx rfl (hb hby d19_49) rfl (l' := #[.val (.ref a), .val (.ref dd), .val (.long x4_), .second, .val (.long (((y4_.toUInt64 >>> ((5 : Int32) &&& 0x3f).toInt64.toUInt64).toInt64) ||| (x4_ <<< ((59 : Int32) &&& 0x3f).toInt64))), .second, .val (.int (21 : Int32))]) rfl (XS.lloadN X14.here hx rfl (hb hby d19_51) rfl (XS.iconst X14.here hx rfl (hb hby d19_52) (XS.lushr X14.here hx rfl (hb hby d19_53) rfl k)))))))))))) ?_
  refine GoesW.pre (U' := T14.setTop (mkF m 58 #[.val (.ref a), .val (.ref dd), .val (.long ((x4_.toUInt64 >>> ((5 : Int32) &&& 0x3f).toInt64.toUInt64).toInt64)), .second, .val (.long (((y4_.toUInt64 >>> ((5 : Int32) &&& 0x3f).toInt64.toUInt64).toInt64) ||| (x4_ <<< ((59 : Int32) &&& 0x3f).toInt64))), .second, .val (.int ((21 : Int32) + (-1 : Int32)))] [])) (fun t k => XS.lstoreN X14.here hx rfl (hb hby d19_54) rfl (l' := #[.val (.ref a), .val (.ref dd), .val (.long ((x4_.toUInt64 >>> ((5 : Int32) &&& 0x3f).toInt64.toUInt64).toInt64)), .second, .val (.long (((y4_.toUInt64 >>> ((5 : Int32) &&& 0x3f).toInt64.toUInt64).toInt64) ||| (x4_ <<< ((59 : Int32) &&& 0x3f).toInt64))), .second, .val (.int (21 : Int32))]) rfl (XT.iincV X14.here hx rfl (-1 : Int32) (hb hby d19_55) (by decide) rfl (l' := #[.val (.ref a), .val (.ref dd), .val (.long ((x4_.toUInt64 >>> ((5 : Int32) &&& 0x3f).toInt64.toUInt64).toInt64)), .second, .val (.long (((y4_.toUInt64 >>> ((5 : Int32) &&& 0x3f).toInt64.toUInt64).toInt64) ||| (x4_ <<< ((59 : Int32) &&& 0x3f).toInt64))), .second, .val (.int ((21 : Int32) + (-1 : Int32)))]) rfl k)) ?_
  rw [(by decide : ((21 : Int32) + (-1 : Int32)) = (20 : Int32))]
  refine GoesW.pre (U' := T14.setTop (mkF m 20 #[.val (.ref a), .val (.ref dd), .val (.long ((x4_.toUInt64 >>> ((5 : Int32) &&& 0x3f).toInt64.toUInt64).toInt64)), .second, .val (.long (((y4_.toUInt64 >>> ((5 : Int32) &&& 0x3f).toInt64.toUInt64).toInt64) ||| (x4_ <<< ((59 : Int32) &&& 0x3f).toInt64))), .second, .val (.int (20 : Int32))] [])) (fun t k => XS.goto X14.here hx rfl (pc0 := 58) (pc' := 20) rfl (hb hby d19_58) (by decide) (by decide) k) ?_
  obtain ⟨x5_, hx5_⟩ : ∃ z, z = ((x4_.toUInt64 >>> ((5 : Int32) &&& 0x3f).toInt64.toUInt64).toInt64) := ⟨_, rfl⟩
  obtain ⟨y5_, hy5_⟩ : ∃ z, z = (((y4_.toUInt64 >>> ((5 : Int32) &&& 0x3f).toInt64.toUInt64).toInt64) ||| (x4_ <<< ((59 : Int32) &&& 0x3f).toInt64)) := ⟨_, rfl⟩
  rw [← hx5_, ← hy5_]
  have eq5_ : own_q hq lq 5 = (x5_, y5_) := (own_qs hq lq 4).trans (by rw [eq4_, hx5_, hy5_]; rfl)
  refine GoesW.pre (U' := T14.setTop (mkF m 22 #[.val (.ref a), .val (.ref dd), .val (.long x5_), .second, .val (.long y5_), .second, .val (.int (20 : Int32))] [(.int (20 : Int32))])) (fun t k => XS.iload X14.here hx rfl (hb hby d19_20) rfl k) ?_
  have hc22 : ¬ ((20 : Int32) < (0 : Int32)) := by decide
  refine GoesW.pre (U' := T14.setTop (mkF m 36 #[.val (.ref a), .val (.ref dd), .val (.long x5_), .second, .val (.long y5_), .second, .val (.int (20 : Int32))] [(.int ((y5_.toInt32) &&& (31 : Int32))), (.ref ls4), (.int (20 : Int32)), (.ref dd)])) (fun t k => XS.ifNo X14.here hx rfl (hb hby d19_22) rfl ((if0 _ _).trans (flt hc22).1) (XS.aloadN X14.here hx rfl (hb hby d19_25) rfl rfl (XS.iload X14.here hx rfl (hb hby d19_26) rfl (ldcAgain X14 hx hZ hown (wq hw 103 rfl) Li_ls4 (g := (mkF m 28 #[.val (.ref a), .val (.ref dd), .val (.long x5_), .second, .val (.long y5_), .second, .val (.int (20 : Int32))] [(.int (20 : Int32)), (.ref dd)])) rfl (hb hby d19_28) t (XS.lload X14.here hx rfl (hb hby d19_30) rfl (XS.l2i X14.here hx rfl (hb hby d19_32) rfl (XS.bipush X14.here hx rfl (hb hby d19_33) (XS.iand X14.here hx rfl (hb hby d19_35) rfl k)))))))) ?_
  obtain ⟨cq15, kq15, q15a, q15b, q15c⟩ := isOf hZ e14 S_ls4.1
  obtain ⟨_, _, ⟨T15, L15, k15, n15⟩, -, X15, ⟨Lc15, hQ15, l15, y15, z15⟩, st15⟩ := X14.virtualBack hx (y := (⟨"java/lang/String", "charAt", "(I)C"⟩ : MethodName)) (z := (⟨"java/lang/String", "charAt", "(I)C"⟩ : MethodName)) hown (mvT hZ (wq hw 78 rfl)) (mvT hZ (wq hw 15 rfl)) (notFace_of_selects (args := #[]) (mvT hZ (wq hw 17 rfl))) (mvT hZ (wq hw 17 rfl)) (mvT hZ (wq hw 16 rfl)) (by decide) (backOf (W := 2) (rm_chG l Z a0 hw [] ls4 lb4 kl4 own_lit ((y5_.toInt32) &&& (31 : Int32)) cs sf h14 n0 Z14 S_ls4 S_COMPACT_STRINGS S_SIOOBE_FORMATTER (own_a31 _).1 (own_a31 _).2 (by decide) hcs hsf O) hZ (wq hw 18 rfl) (wq hw 7 rfl) (by decide) (by decide)) q15a q15c (g := (mkF m 36 #[.val (.ref a), .val (.ref dd), .val (.long x5_), .second, .val (.long y5_), .second, .val (.int (20 : Int32))] [(.int ((y5_.toInt32) &&& (31 : Int32))), (.ref ls4), (.int (20 : Int32)), (.ref dd)])) rfl (by rw [hml]; rfl) (Steps.refl _) (argsL := [(.int ((y5_.toInt32) &&& (31 : Int32)))]) (rest := [(.int (20 : Int32)), (.ref dd)]) (lenOf pd__28I_29C rfl) rfl (by show 2 * 0 + _ ≤ _; exact Nat.le_of_eq rfl) (hb hby d19_36) (fun _ _ => ⟨rfl, e14, (by decide : 3 + 0 ≤ _), (by decide : 158 + 0 ≤ _)⟩)
  dsimp only [Pt.U, Pt.locs, Pt.cells, Pt.slots] at X15 l15 y15 z15 st15 hQ15
  rw [l15, y15, z15] at X15
  obtain ⟨rfl, N15q, HQ15⟩ := hQ15
  have N15 := Fr.app N14 N15q
  refine GoesW.pre (U' := T15.setTop (mkF m 39 #[.val (.ref a), .val (.ref dd), .val (.long x5_), .second, .val (.long y5_), .second, .val (.int (20 : Int32))] [(.int (own_lit.getD ((y5_.toInt32) &&& (31 : Int32)).toNatClampNeg 0)), (.int (20 : Int32)), (.ref dd)])) (fun t k => st15.trans k) ?_
  obtain ⟨cl16, Ar16, q16, Sz16, Ng16, Hs16, Ft16⟩ := id V_dd
  obtain ⟨T16, h16, X16, e16, W16, st16⟩ := stC X15 hx hZ HQ15 Ar16 (j := (20 : Int32)) (inb_of Sz16 ⟨by decide, by decide⟩) (g := (mkF m 39 #[.val (.ref a), .val (.ref dd), .val (.long x5_), .second, .val (.long y5_), .second, .val (.int (20 : Int32))] [(.int (own_lit.getD ((y5_.toInt32) &&& (31 : Int32)).toNatClampNeg 0)), (.int (20 : Int32)), (.ref dd)])) rfl rfl (hb hby d19_39)
  have nr16 : nar .char (own_lit.getD ((y5_.toInt32) &&& (31 : Int32)).toNatClampNeg 0) = (own_dc ((y5_.toInt32) &&& (31 : Int32))) := own_nch _ (own_lit_ch _)
  have ft16 : fits .char (.int (own_dc ((y5_.toInt32) &&& (31 : Int32)))) = true := nr16 ▸ (fits_nar_char (own_lit.getD ((y5_.toInt32) &&& (31 : Int32)).toNatClampNeg 0) : fits .char (.int (nar .char (own_lit.getD ((y5_.toInt32) &&& (31 : Int32)).toNatClampNeg 0))) = true)
  rw [nr16] at W16
  have F_high_a := F_high_a.other W16 (Or.inl ne_a_dd)
  have F_low_a := F_low_a.other W16 (Or.inl ne_a_dd)
  have E_dd := E_dd.wr W16
  have S_ls4 := S_ls4.keep (Keep.of_wr W16) (ninS ne_ls4_dd nin0) (ninS ne_lb4_dd nin0)
  have Z16 : n0 ≤ h16.size := Nat.le_trans Z14 (Keep.of_wr W16).1
  have O := O.wr W16 g_dd
  have SFo := SF_dd
  have SF_dd := Safe.wr W16 SFo H SF_dd
  have CR := CR.trans (CHr.wr W16 SFo H)
  have H := H.wr W16 SFo
  have hk := Nat.le_trans hk (Keep.of_wr W16).1
  have V_dd : Arv Z h16 dd k1 .char (26 : Int32) [(.int (0 : Int32)), (.int (0 : Int32)), (.int (0 : Int32)), (.int (0 : Int32)), (.int (0 : Int32)), (.int (0 : Int32)), (.int (0 : Int32)), (.int (0 : Int32)), (.int (0 : Int32)), (.int (0 : Int32)), (.int (0 : Int32)), (.int (0 : Int32)), (.int (0 : Int32)), (.int (0 : Int32)), (.int (0 : Int32)), (.int (0 : Int32)), (.int (0 : Int32)), (.int (0 : Int32)), (.int (0 : Int32)), (.int (0 : Int32)), (.int (own_dc ((y5_.toInt32) &&& (31 : Int32)))), (.int (own_dc ((y4_.toInt32) &&& (31 : Int32)))), (.int (own_dc ((y3_.toInt32) &&& (31 : Int32)))), (.int (own_dc ((y2_.toInt32) &&& (31 : Int32)))), (.int (own_dc ((y1_.toInt32) &&& (31 : Int32)))), (.int (own_dc ((lq.toInt32) &&& (31 : Int32))))] (.int (0 : Int32)) := Arv.set Ar16 q16 Sz16 Ng16 Hs16 Ft16 ft16 W16 20 rfl (Nat.le_of_ble_eq_true rfl)
  have K16 := K14.wr W16 (Or.inr sz_dd)
  have N16 := Fr.snoc X16 N15 g_dd
  refine GoesW.pre (U' := T16.setTop (mkF m 54 #[.val (.ref a), .val (.ref dd), .val (.long x5_), .second, .val (.long (((y5_.toUInt64 >>> ((5 : Int32) &&& 0x3f).toInt64.toUInt64).toInt64) ||| (x5_ <<< ((59 : Int32) &&& 0x3f).toInt64))), .second, .val (.int (20 : Int32))] [(.long ((x5_.toUInt64 >>> ((5 : Int32) &&& 0x3f).toInt64.toUInt64).toInt64))])) (fun t k => st16 t (XS.lload X16.here hx rfl (hb hby d19_40) rfl (XS.iconst X16.here hx rfl (hb hby d19_42) (XS.lushr X16.here hx rfl (hb hby d19_43) rfl (XS.lloadN X16.here hx rfl (hb hby d19_44) rfl (XS.bipush X16.here hx rfl (hb hby d19_45) (XS.lshl X16.here hx rfl (hb hby d19_47) rfl (XS.lor X16.here hx rfl (hb hby d19_48) rfl (XS.lstore X16.here hx rfl (hb hby d19_49) rfl (l' := #[.val (.ref a), .val (.ref dd), .val (.long x5_), .second, .val (.long (((y5_.toUInt64 >>> ((5 : Int32) &&& 0x3f).toInt64.toUInt64).toInt64) ||| (x5_ <<< ((59 : Int32) &&& 0x3f).toInt64))), .second, .val (.int (20 : Int32))]) rfl (XS.lloadN X16.here hx rfl (hb hby d19_51) rfl (XS.iconst X16.here hx rfl (hb hby d19_52) (XS.lushr X16.here hx rfl (hb hby d19_53) rfl k)))))))))))) ?_
  refine GoesW.pre (U' := T16.setTop (mkF m 58 #[.val (.ref a), .val (.ref dd), .val (.long ((x5_.toUInt64 >>> ((5 : Int32) &&& 0x3f).toInt64.toUInt64).toInt64)), .second, .val (.long (((y5_.toUInt64 >>> ((5 : Int32) &&& 0x3f).toInt64.toUInt64).toInt64) ||| (x5_ <<< ((59 : Int32) &&& 0x3f).toInt64))), .second, .val (.int ((20 : Int32) + (-1 : Int32)))] [])) (fun t k => XS.lstoreN X16.here hx rfl (hb hby d19_54) rfl (l' := #[.val (.ref a), .val (.ref dd), .val (.long ((x5_.toUInt64 >>> ((5 : Int32) &&& 0x3f).toInt64.toUInt64).toInt64)), .second, .val (.long (((y5_.toUInt64 >>> ((5 : Int32) &&& 0x3f).toInt64.toUInt64).toInt64) ||| (x5_ <<< ((59 : Int32) &&& 0x3f).toInt64))), .second, .val (.int (20 : Int32))]) rfl (XT.iincV X16.here hx rfl (-1 : Int32) (hb hby d19_55) (by decide) rfl (l' := #[.val (.ref a), .val (.ref dd), .val (.long ((x5_.toUInt64 >>> ((5 : Int32) &&& 0x3f).toInt64.toUInt64).toInt64)), .second, .val (.long (((y5_.toUInt64 >>> ((5 : Int32) &&& 0x3f).toInt64.toUInt64).toInt64) ||| (x5_ <<< ((59 : Int32) &&& 0x3f).toInt64))), .second, .val (.int ((20 : Int32) + (-1 : Int32)))]) rfl k)) ?_
  rw [(by decide : ((20 : Int32) + (-1 : Int32)) = (19 : Int32))]
  refine GoesW.pre (U' := T16.setTop (mkF m 20 #[.val (.ref a), .val (.ref dd), .val (.long ((x5_.toUInt64 >>> ((5 : Int32) &&& 0x3f).toInt64.toUInt64).toInt64)), .second, .val (.long (((y5_.toUInt64 >>> ((5 : Int32) &&& 0x3f).toInt64.toUInt64).toInt64) ||| (x5_ <<< ((59 : Int32) &&& 0x3f).toInt64))), .second, .val (.int (19 : Int32))] [])) (fun t k => XS.goto X16.here hx rfl (pc0 := 58) (pc' := 20) rfl (hb hby d19_58) (by decide) (by decide) k) ?_
  obtain ⟨x6_, hx6_⟩ : ∃ z, z = ((x5_.toUInt64 >>> ((5 : Int32) &&& 0x3f).toInt64.toUInt64).toInt64) := ⟨_, rfl⟩
  obtain ⟨y6_, hy6_⟩ : ∃ z, z = (((y5_.toUInt64 >>> ((5 : Int32) &&& 0x3f).toInt64.toUInt64).toInt64) ||| (x5_ <<< ((59 : Int32) &&& 0x3f).toInt64)) := ⟨_, rfl⟩
  rw [← hx6_, ← hy6_]
  have eq6_ : own_q hq lq 6 = (x6_, y6_) := (own_qs hq lq 5).trans (by rw [eq5_, hx6_, hy6_]; rfl)
  refine GoesW.pre (U' := T16.setTop (mkF m 22 #[.val (.ref a), .val (.ref dd), .val (.long x6_), .second, .val (.long y6_), .second, .val (.int (19 : Int32))] [(.int (19 : Int32))])) (fun t k => XS.iload X16.here hx rfl (hb hby d19_20) rfl k) ?_
  have hc22 : ¬ ((19 : Int32) < (0 : Int32)) := by decide
  refine GoesW.pre (U' := T16.setTop (mkF m 36 #[.val (.ref a), .val (.ref dd), .val (.long x6_), .second, .val (.long y6_), .second, .val (.int (19 : Int32))] [(.int ((y6_.toInt32) &&& (31 : Int32))), (.ref ls4), (.int (19 : Int32)), (.ref dd)])) (fun t k => XS.ifNo X16.here hx rfl (hb hby d19_22) rfl ((if0 _ _).trans (flt hc22).1) (XS.aloadN X16.here hx rfl (hb hby d19_25) rfl rfl (XS.iload X16.here hx rfl (hb hby d19_26) rfl (ldcAgain X16 hx hZ hown (wq hw 103 rfl) Li_ls4 (g := (mkF m 28 #[.val (.ref a), .val (.ref dd), .val (.long x6_), .second, .val (.long y6_), .second, .val (.int (19 : Int32))] [(.int (19 : Int32)), (.ref dd)])) rfl (hb hby d19_28) t (XS.lload X16.here hx rfl (hb hby d19_30) rfl (XS.l2i X16.here hx rfl (hb hby d19_32) rfl (XS.bipush X16.here hx rfl (hb hby d19_33) (XS.iand X16.here hx rfl (hb hby d19_35) rfl k)))))))) ?_
  obtain ⟨cq17, kq17, q17a, q17b, q17c⟩ := isOf hZ e16 S_ls4.1
  obtain ⟨_, _, ⟨T17, L17, k17, n17⟩, -, X17, ⟨Lc17, hQ17, l17, y17, z17⟩, st17⟩ := X16.virtualBack hx (y := (⟨"java/lang/String", "charAt", "(I)C"⟩ : MethodName)) (z := (⟨"java/lang/String", "charAt", "(I)C"⟩ : MethodName)) hown (mvT hZ (wq hw 78 rfl)) (mvT hZ (wq hw 15 rfl)) (notFace_of_selects (args := #[]) (mvT hZ (wq hw 17 rfl))) (mvT hZ (wq hw 17 rfl)) (mvT hZ (wq hw 16 rfl)) (by decide) (backOf (W := 2) (rm_chG l Z a0 hw [] ls4 lb4 kl4 own_lit ((y6_.toInt32) &&& (31 : Int32)) cs sf h16 n0 Z16 S_ls4 S_COMPACT_STRINGS S_SIOOBE_FORMATTER (own_a31 _).1 (own_a31 _).2 (by decide) hcs hsf O) hZ (wq hw 18 rfl) (wq hw 7 rfl) (by decide) (by decide)) q17a q17c (g := (mkF m 36 #[.val (.ref a), .val (.ref dd), .val (.long x6_), .second, .val (.long y6_), .second, .val (.int (19 : Int32))] [(.int ((y6_.toInt32) &&& (31 : Int32))), (.ref ls4), (.int (19 : Int32)), (.ref dd)])) rfl (by rw [hml]; rfl) (Steps.refl _) (argsL := [(.int ((y6_.toInt32) &&& (31 : Int32)))]) (rest := [(.int (19 : Int32)), (.ref dd)]) (lenOf pd__28I_29C rfl) rfl (by show 2 * 0 + _ ≤ _; exact Nat.le_of_eq rfl) (hb hby d19_36) (fun _ _ => ⟨rfl, e16, (by decide : 3 + 0 ≤ _), (by decide : 158 + 0 ≤ _)⟩)
  dsimp only [Pt.U, Pt.locs, Pt.cells, Pt.slots] at X17 l17 y17 z17 st17 hQ17
  rw [l17, y17, z17] at X17
  obtain ⟨rfl, N17q, HQ17⟩ := hQ17
  have N17 := Fr.app N16 N17q
  refine GoesW.pre (U' := T17.setTop (mkF m 39 #[.val (.ref a), .val (.ref dd), .val (.long x6_), .second, .val (.long y6_), .second, .val (.int (19 : Int32))] [(.int (own_lit.getD ((y6_.toInt32) &&& (31 : Int32)).toNatClampNeg 0)), (.int (19 : Int32)), (.ref dd)])) (fun t k => st17.trans k) ?_
  obtain ⟨cl18, Ar18, q18, Sz18, Ng18, Hs18, Ft18⟩ := id V_dd
  obtain ⟨T18, h18, X18, e18, W18, st18⟩ := stC X17 hx hZ HQ17 Ar18 (j := (19 : Int32)) (inb_of Sz18 ⟨by decide, by decide⟩) (g := (mkF m 39 #[.val (.ref a), .val (.ref dd), .val (.long x6_), .second, .val (.long y6_), .second, .val (.int (19 : Int32))] [(.int (own_lit.getD ((y6_.toInt32) &&& (31 : Int32)).toNatClampNeg 0)), (.int (19 : Int32)), (.ref dd)])) rfl rfl (hb hby d19_39)
  have nr18 : nar .char (own_lit.getD ((y6_.toInt32) &&& (31 : Int32)).toNatClampNeg 0) = (own_dc ((y6_.toInt32) &&& (31 : Int32))) := own_nch _ (own_lit_ch _)
  have ft18 : fits .char (.int (own_dc ((y6_.toInt32) &&& (31 : Int32)))) = true := nr18 ▸ (fits_nar_char (own_lit.getD ((y6_.toInt32) &&& (31 : Int32)).toNatClampNeg 0) : fits .char (.int (nar .char (own_lit.getD ((y6_.toInt32) &&& (31 : Int32)).toNatClampNeg 0))) = true)
  rw [nr18] at W18
  have F_high_a := F_high_a.other W18 (Or.inl ne_a_dd)
  have F_low_a := F_low_a.other W18 (Or.inl ne_a_dd)
  have E_dd := E_dd.wr W18
  have S_ls4 := S_ls4.keep (Keep.of_wr W18) (ninS ne_ls4_dd nin0) (ninS ne_lb4_dd nin0)
  have Z18 : n0 ≤ h18.size := Nat.le_trans Z16 (Keep.of_wr W18).1
  have O := O.wr W18 g_dd
  have SFo := SF_dd
  have SF_dd := Safe.wr W18 SFo H SF_dd
  have CR := CR.trans (CHr.wr W18 SFo H)
  have H := H.wr W18 SFo
  have hk := Nat.le_trans hk (Keep.of_wr W18).1
  have V_dd : Arv Z h18 dd k1 .char (26 : Int32) [(.int (0 : Int32)), (.int (0 : Int32)), (.int (0 : Int32)), (.int (0 : Int32)), (.int (0 : Int32)), (.int (0 : Int32)), (.int (0 : Int32)), (.int (0 : Int32)), (.int (0 : Int32)), (.int (0 : Int32)), (.int (0 : Int32)), (.int (0 : Int32)), (.int (0 : Int32)), (.int (0 : Int32)), (.int (0 : Int32)), (.int (0 : Int32)), (.int (0 : Int32)), (.int (0 : Int32)), (.int (0 : Int32)), (.int (own_dc ((y6_.toInt32) &&& (31 : Int32)))), (.int (own_dc ((y5_.toInt32) &&& (31 : Int32)))), (.int (own_dc ((y4_.toInt32) &&& (31 : Int32)))), (.int (own_dc ((y3_.toInt32) &&& (31 : Int32)))), (.int (own_dc ((y2_.toInt32) &&& (31 : Int32)))), (.int (own_dc ((y1_.toInt32) &&& (31 : Int32)))), (.int (own_dc ((lq.toInt32) &&& (31 : Int32))))] (.int (0 : Int32)) := Arv.set Ar18 q18 Sz18 Ng18 Hs18 Ft18 ft18 W18 19 rfl (Nat.le_of_ble_eq_true rfl)
  have K18 := K16.wr W18 (Or.inr sz_dd)
  have N18 := Fr.snoc X18 N17 g_dd
  refine GoesW.pre (U' := T18.setTop (mkF m 54 #[.val (.ref a), .val (.ref dd), .val (.long x6_), .second, .val (.long (((y6_.toUInt64 >>> ((5 : Int32) &&& 0x3f).toInt64.toUInt64).toInt64) ||| (x6_ <<< ((59 : Int32) &&& 0x3f).toInt64))), .second, .val (.int (19 : Int32))] [(.long ((x6_.toUInt64 >>> ((5 : Int32) &&& 0x3f).toInt64.toUInt64).toInt64))])) (fun t k => st18 t (XS.lload X18.here hx rfl (hb hby d19_40) rfl (XS.iconst X18.here hx rfl (hb hby d19_42) (XS.lushr X18.here hx rfl (hb hby d19_43) rfl (XS.lloadN X18.here hx rfl (hb hby d19_44) rfl (XS.bipush X18.here hx rfl (hb hby d19_45) (XS.lshl X18.here hx rfl (hb hby d19_47) rfl (XS.lor X18.here hx rfl (hb hby d19_48) rfl (XS.lstore X18.here hx rfl (hb hby d19_49) rfl (l' := #[.val (.ref a), .val (.ref dd), .val (.long x6_), .second, .val (.long (((y6_.toUInt64 >>> ((5 : Int32) &&& 0x3f).toInt64.toUInt64).toInt64) ||| (x6_ <<< ((59 : Int32) &&& 0x3f).toInt64))), .second, .val (.int (19 : Int32))]) rfl (XS.lloadN X18.here hx rfl (hb hby d19_51) rfl (XS.iconst X18.here hx rfl (hb hby d19_52) (XS.lushr X18.here hx rfl (hb hby d19_53) rfl k)))))))))))) ?_
  refine GoesW.pre (U' := T18.setTop (mkF m 58 #[.val (.ref a), .val (.ref dd), .val (.long ((x6_.toUInt64 >>> ((5 : Int32) &&& 0x3f).toInt64.toUInt64).toInt64)), .second, .val (.long (((y6_.toUInt64 >>> ((5 : Int32) &&& 0x3f).toInt64.toUInt64).toInt64) ||| (x6_ <<< ((59 : Int32) &&& 0x3f).toInt64))), .second, .val (.int ((19 : Int32) + (-1 : Int32)))] [])) (fun t k => XS.lstoreN X18.here hx rfl (hb hby d19_54) rfl (l' := #[.val (.ref a), .val (.ref dd), .val (.long ((x6_.toUInt64 >>> ((5 : Int32) &&& 0x3f).toInt64.toUInt64).toInt64)), .second, .val (.long (((y6_.toUInt64 >>> ((5 : Int32) &&& 0x3f).toInt64.toUInt64).toInt64) ||| (x6_ <<< ((59 : Int32) &&& 0x3f).toInt64))), .second, .val (.int (19 : Int32))]) rfl (XT.iincV X18.here hx rfl (-1 : Int32) (hb hby d19_55) (by decide) rfl (l' := #[.val (.ref a), .val (.ref dd), .val (.long ((x6_.toUInt64 >>> ((5 : Int32) &&& 0x3f).toInt64.toUInt64).toInt64)), .second, .val (.long (((y6_.toUInt64 >>> ((5 : Int32) &&& 0x3f).toInt64.toUInt64).toInt64) ||| (x6_ <<< ((59 : Int32) &&& 0x3f).toInt64))), .second, .val (.int ((19 : Int32) + (-1 : Int32)))]) rfl k)) ?_
  rw [(by decide : ((19 : Int32) + (-1 : Int32)) = (18 : Int32))]
  refine GoesW.pre (U' := T18.setTop (mkF m 20 #[.val (.ref a), .val (.ref dd), .val (.long ((x6_.toUInt64 >>> ((5 : Int32) &&& 0x3f).toInt64.toUInt64).toInt64)), .second, .val (.long (((y6_.toUInt64 >>> ((5 : Int32) &&& 0x3f).toInt64.toUInt64).toInt64) ||| (x6_ <<< ((59 : Int32) &&& 0x3f).toInt64))), .second, .val (.int (18 : Int32))] [])) (fun t k => XS.goto X18.here hx rfl (pc0 := 58) (pc' := 20) rfl (hb hby d19_58) (by decide) (by decide) k) ?_
  obtain ⟨x7_, hx7_⟩ : ∃ z, z = ((x6_.toUInt64 >>> ((5 : Int32) &&& 0x3f).toInt64.toUInt64).toInt64) := ⟨_, rfl⟩
  obtain ⟨y7_, hy7_⟩ : ∃ z, z = (((y6_.toUInt64 >>> ((5 : Int32) &&& 0x3f).toInt64.toUInt64).toInt64) ||| (x6_ <<< ((59 : Int32) &&& 0x3f).toInt64)) := ⟨_, rfl⟩
  rw [← hx7_, ← hy7_]
  have eq7_ : own_q hq lq 7 = (x7_, y7_) := (own_qs hq lq 6).trans (by rw [eq6_, hx7_, hy7_]; rfl)
  refine GoesW.pre (U' := T18.setTop (mkF m 22 #[.val (.ref a), .val (.ref dd), .val (.long x7_), .second, .val (.long y7_), .second, .val (.int (18 : Int32))] [(.int (18 : Int32))])) (fun t k => XS.iload X18.here hx rfl (hb hby d19_20) rfl k) ?_
  have hc22 : ¬ ((18 : Int32) < (0 : Int32)) := by decide
  refine GoesW.pre (U' := T18.setTop (mkF m 36 #[.val (.ref a), .val (.ref dd), .val (.long x7_), .second, .val (.long y7_), .second, .val (.int (18 : Int32))] [(.int ((y7_.toInt32) &&& (31 : Int32))), (.ref ls4), (.int (18 : Int32)), (.ref dd)])) (fun t k => XS.ifNo X18.here hx rfl (hb hby d19_22) rfl ((if0 _ _).trans (flt hc22).1) (XS.aloadN X18.here hx rfl (hb hby d19_25) rfl rfl (XS.iload X18.here hx rfl (hb hby d19_26) rfl (ldcAgain X18 hx hZ hown (wq hw 103 rfl) Li_ls4 (g := (mkF m 28 #[.val (.ref a), .val (.ref dd), .val (.long x7_), .second, .val (.long y7_), .second, .val (.int (18 : Int32))] [(.int (18 : Int32)), (.ref dd)])) rfl (hb hby d19_28) t (XS.lload X18.here hx rfl (hb hby d19_30) rfl (XS.l2i X18.here hx rfl (hb hby d19_32) rfl (XS.bipush X18.here hx rfl (hb hby d19_33) (XS.iand X18.here hx rfl (hb hby d19_35) rfl k)))))))) ?_
  obtain ⟨cq19, kq19, q19a, q19b, q19c⟩ := isOf hZ e18 S_ls4.1
  obtain ⟨_, _, ⟨T19, L19, k19, n19⟩, -, X19, ⟨Lc19, hQ19, l19, y19, z19⟩, st19⟩ := X18.virtualBack hx (y := (⟨"java/lang/String", "charAt", "(I)C"⟩ : MethodName)) (z := (⟨"java/lang/String", "charAt", "(I)C"⟩ : MethodName)) hown (mvT hZ (wq hw 78 rfl)) (mvT hZ (wq hw 15 rfl)) (notFace_of_selects (args := #[]) (mvT hZ (wq hw 17 rfl))) (mvT hZ (wq hw 17 rfl)) (mvT hZ (wq hw 16 rfl)) (by decide) (backOf (W := 2) (rm_chG l Z a0 hw [] ls4 lb4 kl4 own_lit ((y7_.toInt32) &&& (31 : Int32)) cs sf h18 n0 Z18 S_ls4 S_COMPACT_STRINGS S_SIOOBE_FORMATTER (own_a31 _).1 (own_a31 _).2 (by decide) hcs hsf O) hZ (wq hw 18 rfl) (wq hw 7 rfl) (by decide) (by decide)) q19a q19c (g := (mkF m 36 #[.val (.ref a), .val (.ref dd), .val (.long x7_), .second, .val (.long y7_), .second, .val (.int (18 : Int32))] [(.int ((y7_.toInt32) &&& (31 : Int32))), (.ref ls4), (.int (18 : Int32)), (.ref dd)])) rfl (by rw [hml]; rfl) (Steps.refl _) (argsL := [(.int ((y7_.toInt32) &&& (31 : Int32)))]) (rest := [(.int (18 : Int32)), (.ref dd)]) (lenOf pd__28I_29C rfl) rfl (by show 2 * 0 + _ ≤ _; exact Nat.le_of_eq rfl) (hb hby d19_36) (fun _ _ => ⟨rfl, e18, (by decide : 3 + 0 ≤ _), (by decide : 158 + 0 ≤ _)⟩)
  dsimp only [Pt.U, Pt.locs, Pt.cells, Pt.slots] at X19 l19 y19 z19 st19 hQ19
  rw [l19, y19, z19] at X19
  obtain ⟨rfl, N19q, HQ19⟩ := hQ19
  have N19 := Fr.app N18 N19q
  refine GoesW.pre (U' := T19.setTop (mkF m 39 #[.val (.ref a), .val (.ref dd), .val (.long x7_), .second, .val (.long y7_), .second, .val (.int (18 : Int32))] [(.int (own_lit.getD ((y7_.toInt32) &&& (31 : Int32)).toNatClampNeg 0)), (.int (18 : Int32)), (.ref dd)])) (fun t k => st19.trans k) ?_
  obtain ⟨cl20, Ar20, q20, Sz20, Ng20, Hs20, Ft20⟩ := id V_dd
  obtain ⟨T20, h20, X20, e20, W20, st20⟩ := stC X19 hx hZ HQ19 Ar20 (j := (18 : Int32)) (inb_of Sz20 ⟨by decide, by decide⟩) (g := (mkF m 39 #[.val (.ref a), .val (.ref dd), .val (.long x7_), .second, .val (.long y7_), .second, .val (.int (18 : Int32))] [(.int (own_lit.getD ((y7_.toInt32) &&& (31 : Int32)).toNatClampNeg 0)), (.int (18 : Int32)), (.ref dd)])) rfl rfl (hb hby d19_39)
  have nr20 : nar .char (own_lit.getD ((y7_.toInt32) &&& (31 : Int32)).toNatClampNeg 0) = (own_dc ((y7_.toInt32) &&& (31 : Int32))) := own_nch _ (own_lit_ch _)
  have ft20 : fits .char (.int (own_dc ((y7_.toInt32) &&& (31 : Int32)))) = true := nr20 ▸ (fits_nar_char (own_lit.getD ((y7_.toInt32) &&& (31 : Int32)).toNatClampNeg 0) : fits .char (.int (nar .char (own_lit.getD ((y7_.toInt32) &&& (31 : Int32)).toNatClampNeg 0))) = true)
  rw [nr20] at W20
  have F_high_a := F_high_a.other W20 (Or.inl ne_a_dd)
  have F_low_a := F_low_a.other W20 (Or.inl ne_a_dd)
  have E_dd := E_dd.wr W20
  have S_ls4 := S_ls4.keep (Keep.of_wr W20) (ninS ne_ls4_dd nin0) (ninS ne_lb4_dd nin0)
  have Z20 : n0 ≤ h20.size := Nat.le_trans Z18 (Keep.of_wr W20).1
  have O := O.wr W20 g_dd
  have SFo := SF_dd
  have SF_dd := Safe.wr W20 SFo H SF_dd
  have CR := CR.trans (CHr.wr W20 SFo H)
  have H := H.wr W20 SFo
  have hk := Nat.le_trans hk (Keep.of_wr W20).1
  have V_dd : Arv Z h20 dd k1 .char (26 : Int32) [(.int (0 : Int32)), (.int (0 : Int32)), (.int (0 : Int32)), (.int (0 : Int32)), (.int (0 : Int32)), (.int (0 : Int32)), (.int (0 : Int32)), (.int (0 : Int32)), (.int (0 : Int32)), (.int (0 : Int32)), (.int (0 : Int32)), (.int (0 : Int32)), (.int (0 : Int32)), (.int (0 : Int32)), (.int (0 : Int32)), (.int (0 : Int32)), (.int (0 : Int32)), (.int (0 : Int32)), (.int (own_dc ((y7_.toInt32) &&& (31 : Int32)))), (.int (own_dc ((y6_.toInt32) &&& (31 : Int32)))), (.int (own_dc ((y5_.toInt32) &&& (31 : Int32)))), (.int (own_dc ((y4_.toInt32) &&& (31 : Int32)))), (.int (own_dc ((y3_.toInt32) &&& (31 : Int32)))), (.int (own_dc ((y2_.toInt32) &&& (31 : Int32)))), (.int (own_dc ((y1_.toInt32) &&& (31 : Int32)))), (.int (own_dc ((lq.toInt32) &&& (31 : Int32))))] (.int (0 : Int32)) := Arv.set Ar20 q20 Sz20 Ng20 Hs20 Ft20 ft20 W20 18 rfl (Nat.le_of_ble_eq_true rfl)
  have K20 := K18.wr W20 (Or.inr sz_dd)
  have N20 := Fr.snoc X20 N19 g_dd
  refine GoesW.pre (U' := T20.setTop (mkF m 54 #[.val (.ref a), .val (.ref dd), .val (.long x7_), .second, .val (.long (((y7_.toUInt64 >>> ((5 : Int32) &&& 0x3f).toInt64.toUInt64).toInt64) ||| (x7_ <<< ((59 : Int32) &&& 0x3f).toInt64))), .second, .val (.int (18 : Int32))] [(.long ((x7_.toUInt64 >>> ((5 : Int32) &&& 0x3f).toInt64.toUInt64).toInt64))])) (fun t k => st20 t (XS.lload X20.here hx rfl (hb hby d19_40) rfl (XS.iconst X20.here hx rfl (hb hby d19_42) (XS.lushr X20.here hx rfl (hb hby d19_43) rfl (XS.lloadN X20.here hx rfl (hb hby d19_44) rfl (XS.bipush X20.here hx rfl (hb hby d19_45) (XS.lshl X20.here hx rfl (hb hby d19_47) rfl (XS.lor X20.here hx rfl (hb hby d19_48) rfl (XS.lstore X20.here hx rfl (hb hby d19_49) rfl (l' := #[.val (.ref a), .val (.ref dd), .val (.long x7_), .second, .val (.long (((y7_.toUInt64 >>> ((5 : Int32) &&& 0x3f).toInt64.toUInt64).toInt64) ||| (x7_ <<< ((59 : Int32) &&& 0x3f).toInt64))), .second, .val (.int (18 : Int32))]) rfl (XS.lloadN X20.here hx rfl (hb hby d19_51) rfl (XS.iconst X20.here hx rfl (hb hby d19_52) (XS.lushr X20.here hx rfl (hb hby d19_53) rfl k)))))))))))) ?_
  refine GoesW.pre (U' := T20.setTop (mkF m 58 #[.val (.ref a), .val (.ref dd), .val (.long ((x7_.toUInt64 >>> ((5 : Int32) &&& 0x3f).toInt64.toUInt64).toInt64)), .second, .val (.long (((y7_.toUInt64 >>> ((5 : Int32) &&& 0x3f).toInt64.toUInt64).toInt64) ||| (x7_ <<< ((59 : Int32) &&& 0x3f).toInt64))), .second, .val (.int ((18 : Int32) + (-1 : Int32)))] [])) (fun t k => XS.lstoreN X20.here hx rfl (hb hby d19_54) rfl (l' := #[.val (.ref a), .val (.ref dd), .val (.long ((x7_.toUInt64 >>> ((5 : Int32) &&& 0x3f).toInt64.toUInt64).toInt64)), .second, .val (.long (((y7_.toUInt64 >>> ((5 : Int32) &&& 0x3f).toInt64.toUInt64).toInt64) ||| (x7_ <<< ((59 : Int32) &&& 0x3f).toInt64))), .second, .val (.int (18 : Int32))]) rfl (XT.iincV X20.here hx rfl (-1 : Int32) (hb hby d19_55) (by decide) rfl (l' := #[.val (.ref a), .val (.ref dd), .val (.long ((x7_.toUInt64 >>> ((5 : Int32) &&& 0x3f).toInt64.toUInt64).toInt64)), .second, .val (.long (((y7_.toUInt64 >>> ((5 : Int32) &&& 0x3f).toInt64.toUInt64).toInt64) ||| (x7_ <<< ((59 : Int32) &&& 0x3f).toInt64))), .second, .val (.int ((18 : Int32) + (-1 : Int32)))]) rfl k)) ?_
  rw [(by decide : ((18 : Int32) + (-1 : Int32)) = (17 : Int32))]
  refine GoesW.pre (U' := T20.setTop (mkF m 20 #[.val (.ref a), .val (.ref dd), .val (.long ((x7_.toUInt64 >>> ((5 : Int32) &&& 0x3f).toInt64.toUInt64).toInt64)), .second, .val (.long (((y7_.toUInt64 >>> ((5 : Int32) &&& 0x3f).toInt64.toUInt64).toInt64) ||| (x7_ <<< ((59 : Int32) &&& 0x3f).toInt64))), .second, .val (.int (17 : Int32))] [])) (fun t k => XS.goto X20.here hx rfl (pc0 := 58) (pc' := 20) rfl (hb hby d19_58) (by decide) (by decide) k) ?_
  obtain ⟨x8_, hx8_⟩ : ∃ z, z = ((x7_.toUInt64 >>> ((5 : Int32) &&& 0x3f).toInt64.toUInt64).toInt64) := ⟨_, rfl⟩
  obtain ⟨y8_, hy8_⟩ : ∃ z, z = (((y7_.toUInt64 >>> ((5 : Int32) &&& 0x3f).toInt64.toUInt64).toInt64) ||| (x7_ <<< ((59 : Int32) &&& 0x3f).toInt64)) := ⟨_, rfl⟩
  rw [← hx8_, ← hy8_]
  have eq8_ : own_q hq lq 8 = (x8_, y8_) := (own_qs hq lq 7).trans (by rw [eq7_, hx8_, hy8_]; rfl)
  refine GoesW.pre (U' := T20.setTop (mkF m 22 #[.val (.ref a), .val (.ref dd), .val (.long x8_), .second, .val (.long y8_), .second, .val (.int (17 : Int32))] [(.int (17 : Int32))])) (fun t k => XS.iload X20.here hx rfl (hb hby d19_20) rfl k) ?_
  have hc22 : ¬ ((17 : Int32) < (0 : Int32)) := by decide
  refine GoesW.pre (U' := T20.setTop (mkF m 36 #[.val (.ref a), .val (.ref dd), .val (.long x8_), .second, .val (.long y8_), .second, .val (.int (17 : Int32))] [(.int ((y8_.toInt32) &&& (31 : Int32))), (.ref ls4), (.int (17 : Int32)), (.ref dd)])) (fun t k => XS.ifNo X20.here hx rfl (hb hby d19_22) rfl ((if0 _ _).trans (flt hc22).1) (XS.aloadN X20.here hx rfl (hb hby d19_25) rfl rfl (XS.iload X20.here hx rfl (hb hby d19_26) rfl (ldcAgain X20 hx hZ hown (wq hw 103 rfl) Li_ls4 (g := (mkF m 28 #[.val (.ref a), .val (.ref dd), .val (.long x8_), .second, .val (.long y8_), .second, .val (.int (17 : Int32))] [(.int (17 : Int32)), (.ref dd)])) rfl (hb hby d19_28) t (XS.lload X20.here hx rfl (hb hby d19_30) rfl (XS.l2i X20.here hx rfl (hb hby d19_32) rfl (XS.bipush X20.here hx rfl (hb hby d19_33) (XS.iand X20.here hx rfl (hb hby d19_35) rfl k)))))))) ?_
  obtain ⟨cq21, kq21, q21a, q21b, q21c⟩ := isOf hZ e20 S_ls4.1
  obtain ⟨_, _, ⟨T21, L21, k21, n21⟩, -, X21, ⟨Lc21, hQ21, l21, y21, z21⟩, st21⟩ := X20.virtualBack hx (y := (⟨"java/lang/String", "charAt", "(I)C"⟩ : MethodName)) (z := (⟨"java/lang/String", "charAt", "(I)C"⟩ : MethodName)) hown (mvT hZ (wq hw 78 rfl)) (mvT hZ (wq hw 15 rfl)) (notFace_of_selects (args := #[]) (mvT hZ (wq hw 17 rfl))) (mvT hZ (wq hw 17 rfl)) (mvT hZ (wq hw 16 rfl)) (by decide) (backOf (W := 2) (rm_chG l Z a0 hw [] ls4 lb4 kl4 own_lit ((y8_.toInt32) &&& (31 : Int32)) cs sf h20 n0 Z20 S_ls4 S_COMPACT_STRINGS S_SIOOBE_FORMATTER (own_a31 _).1 (own_a31 _).2 (by decide) hcs hsf O) hZ (wq hw 18 rfl) (wq hw 7 rfl) (by decide) (by decide)) q21a q21c (g := (mkF m 36 #[.val (.ref a), .val (.ref dd), .val (.long x8_), .second, .val (.long y8_), .second, .val (.int (17 : Int32))] [(.int ((y8_.toInt32) &&& (31 : Int32))), (.ref ls4), (.int (17 : Int32)), (.ref dd)])) rfl (by rw [hml]; rfl) (Steps.refl _) (argsL := [(.int ((y8_.toInt32) &&& (31 : Int32)))]) (rest := [(.int (17 : Int32)), (.ref dd)]) (lenOf pd__28I_29C rfl) rfl (by show 2 * 0 + _ ≤ _; exact Nat.le_of_eq rfl) (hb hby d19_36) (fun _ _ => ⟨rfl, e20, (by decide : 3 + 0 ≤ _), (by decide : 158 + 0 ≤ _)⟩)
  dsimp only [Pt.U, Pt.locs, Pt.cells, Pt.slots] at X21 l21 y21 z21 st21 hQ21
  rw [l21, y21, z21] at X21
  obtain ⟨rfl, N21q, HQ21⟩ := hQ21
  have N21 := Fr.app N20 N21q
  refine GoesW.pre (U' := T21.setTop (mkF m 39 #[.val (.ref a), .val (.ref dd), .val (.long x8_), .second, .val (.long y8_), .second, .val (.int (17 : Int32))] [(.int (own_lit.getD ((y8_.toInt32) &&& (31 : Int32)).toNatClampNeg 0)), (.int (17 : Int32)), (.ref dd)])) (fun t k => st21.trans k) ?_
  obtain ⟨cl22, Ar22, q22, Sz22, Ng22, Hs22, Ft22⟩ := id V_dd
  obtain ⟨T22, h22, X22, e22, W22, st22⟩ := stC X21 hx hZ HQ21 Ar22 (j := (17 : Int32)) (inb_of Sz22 ⟨by decide, by decide⟩) (g := (mkF m 39 #[.val (.ref a), .val (.ref dd), .val (.long x8_), .second, .val (.long y8_), .second, .val (.int (17 : Int32))] [(.int (own_lit.getD ((y8_.toInt32) &&& (31 : Int32)).toNatClampNeg 0)), (.int (17 : Int32)), (.ref dd)])) rfl rfl (hb hby d19_39)
  have nr22 : nar .char (own_lit.getD ((y8_.toInt32) &&& (31 : Int32)).toNatClampNeg 0) = (own_dc ((y8_.toInt32) &&& (31 : Int32))) := own_nch _ (own_lit_ch _)
  have ft22 : fits .char (.int (own_dc ((y8_.toInt32) &&& (31 : Int32)))) = true := nr22 ▸ (fits_nar_char (own_lit.getD ((y8_.toInt32) &&& (31 : Int32)).toNatClampNeg 0) : fits .char (.int (nar .char (own_lit.getD ((y8_.toInt32) &&& (31 : Int32)).toNatClampNeg 0))) = true)
  rw [nr22] at W22
  have F_high_a := F_high_a.other W22 (Or.inl ne_a_dd)
  have F_low_a := F_low_a.other W22 (Or.inl ne_a_dd)
  have E_dd := E_dd.wr W22
  have S_ls4 := S_ls4.keep (Keep.of_wr W22) (ninS ne_ls4_dd nin0) (ninS ne_lb4_dd nin0)
  have Z22 : n0 ≤ h22.size := Nat.le_trans Z20 (Keep.of_wr W22).1
  have O := O.wr W22 g_dd
  have SFo := SF_dd
  have SF_dd := Safe.wr W22 SFo H SF_dd
  have CR := CR.trans (CHr.wr W22 SFo H)
  have H := H.wr W22 SFo
  have hk := Nat.le_trans hk (Keep.of_wr W22).1
  have V_dd : Arv Z h22 dd k1 .char (26 : Int32) [(.int (0 : Int32)), (.int (0 : Int32)), (.int (0 : Int32)), (.int (0 : Int32)), (.int (0 : Int32)), (.int (0 : Int32)), (.int (0 : Int32)), (.int (0 : Int32)), (.int (0 : Int32)), (.int (0 : Int32)), (.int (0 : Int32)), (.int (0 : Int32)), (.int (0 : Int32)), (.int (0 : Int32)), (.int (0 : Int32)), (.int (0 : Int32)), (.int (0 : Int32)), (.int (own_dc ((y8_.toInt32) &&& (31 : Int32)))), (.int (own_dc ((y7_.toInt32) &&& (31 : Int32)))), (.int (own_dc ((y6_.toInt32) &&& (31 : Int32)))), (.int (own_dc ((y5_.toInt32) &&& (31 : Int32)))), (.int (own_dc ((y4_.toInt32) &&& (31 : Int32)))), (.int (own_dc ((y3_.toInt32) &&& (31 : Int32)))), (.int (own_dc ((y2_.toInt32) &&& (31 : Int32)))), (.int (own_dc ((y1_.toInt32) &&& (31 : Int32)))), (.int (own_dc ((lq.toInt32) &&& (31 : Int32))))] (.int (0 : Int32)) := Arv.set Ar22 q22 Sz22 Ng22 Hs22 Ft22 ft22 W22 17 rfl (Nat.le_of_ble_eq_true rfl)
  have K22 := K20.wr W22 (Or.inr sz_dd)
  have N22 := Fr.snoc X22 N21 g_dd
  refine GoesW.pre (U' := T22.setTop (mkF m 54 #[.val (.ref a), .val (.ref dd), .val (.long x8_), .second, .val (.long (((y8_.toUInt64 >>> ((5 : Int32) &&& 0x3f).toInt64.toUInt64).toInt64) ||| (x8_ <<< ((59 : Int32) &&& 0x3f).toInt64))), .second, .val (.int (17 : Int32))] [(.long ((x8_.toUInt64 >>> ((5 : Int32) &&& 0x3f).toInt64.toUInt64).toInt64))])) (fun t k => st22 t (XS.lload X22.here hx rfl (hb hby d19_40) rfl (XS.iconst X22.here hx rfl (hb hby d19_42) (XS.lushr X22.here hx rfl (hb hby d19_43) rfl (XS.lloadN X22.here hx rfl (hb hby d19_44) rfl (XS.bipush X22.here hx rfl (hb hby d19_45) (XS.lshl X22.here hx rfl (hb hby d19_47) rfl (XS.lor X22.here hx rfl (hb hby d19_48) rfl (XS.lstore X22.here hx rfl (hb hby d19_49) rfl (l' := #[.val (.ref a), .val (.ref dd), .val (.long x8_), .second, .val (.long (((y8_.toUInt64 >>> ((5 : Int32) &&& 0x3f).toInt64.toUInt64).toInt64) ||| (x8_ <<< ((59 : Int32) &&& 0x3f).toInt64))), .second, .val (.int (17 : Int32))]) rfl (XS.lloadN X22.here hx rfl (hb hby d19_51) rfl (XS.iconst X22.here hx rfl (hb hby d19_52) (XS.lushr X22.here hx rfl (hb hby d19_53) rfl k)))))))))))) ?_
  refine GoesW.pre (U' := T22.setTop (mkF m 58 #[.val (.ref a), .val (.ref dd), .val (.long ((x8_.toUInt64 >>> ((5 : Int32) &&& 0x3f).toInt64.toUInt64).toInt64)), .second, .val (.long (((y8_.toUInt64 >>> ((5 : Int32) &&& 0x3f).toInt64.toUInt64).toInt64) ||| (x8_ <<< ((59 : Int32) &&& 0x3f).toInt64))), .second, .val (.int ((17 : Int32) + (-1 : Int32)))] [])) (fun t k => XS.lstoreN X22.here hx rfl (hb hby d19_54) rfl (l' := #[.val (.ref a), .val (.ref dd), .val (.long ((x8_.toUInt64 >>> ((5 : Int32) &&& 0x3f).toInt64.toUInt64).toInt64)), .second, .val (.long (((y8_.toUInt64 >>> ((5 : Int32) &&& 0x3f).toInt64.toUInt64).toInt64) ||| (x8_ <<< ((59 : Int32) &&& 0x3f).toInt64))), .second, .val (.int (17 : Int32))]) rfl (XT.iincV X22.here hx rfl (-1 : Int32) (hb hby d19_55) (by decide) rfl (l' := #[.val (.ref a), .val (.ref dd), .val (.long ((x8_.toUInt64 >>> ((5 : Int32) &&& 0x3f).toInt64.toUInt64).toInt64)), .second, .val (.long (((y8_.toUInt64 >>> ((5 : Int32) &&& 0x3f).toInt64.toUInt64).toInt64) ||| (x8_ <<< ((59 : Int32) &&& 0x3f).toInt64))), .second, .val (.int ((17 : Int32) + (-1 : Int32)))]) rfl k)) ?_
  rw [(by decide : ((17 : Int32) + (-1 : Int32)) = (16 : Int32))]
  refine GoesW.pre (U' := T22.setTop (mkF m 20 #[.val (.ref a), .val (.ref dd), .val (.long ((x8_.toUInt64 >>> ((5 : Int32) &&& 0x3f).toInt64.toUInt64).toInt64)), .second, .val (.long (((y8_.toUInt64 >>> ((5 : Int32) &&& 0x3f).toInt64.toUInt64).toInt64) ||| (x8_ <<< ((59 : Int32) &&& 0x3f).toInt64))), .second, .val (.int (16 : Int32))] [])) (fun t k => XS.goto X22.here hx rfl (pc0 := 58) (pc' := 20) rfl (hb hby d19_58) (by decide) (by decide) k) ?_
  obtain ⟨x9_, hx9_⟩ : ∃ z, z = ((x8_.toUInt64 >>> ((5 : Int32) &&& 0x3f).toInt64.toUInt64).toInt64) := ⟨_, rfl⟩
  obtain ⟨y9_, hy9_⟩ : ∃ z, z = (((y8_.toUInt64 >>> ((5 : Int32) &&& 0x3f).toInt64.toUInt64).toInt64) ||| (x8_ <<< ((59 : Int32) &&& 0x3f).toInt64)) := ⟨_, rfl⟩
  rw [← hx9_, ← hy9_]
  have eq9_ : own_q hq lq 9 = (x9_, y9_) := (own_qs hq lq 8).trans (by rw [eq8_, hx9_, hy9_]; rfl)
  refine GoesW.pre (U' := T22.setTop (mkF m 22 #[.val (.ref a), .val (.ref dd), .val (.long x9_), .second, .val (.long y9_), .second, .val (.int (16 : Int32))] [(.int (16 : Int32))])) (fun t k => XS.iload X22.here hx rfl (hb hby d19_20) rfl k) ?_
  have hc22 : ¬ ((16 : Int32) < (0 : Int32)) := by decide
  refine GoesW.pre (U' := T22.setTop (mkF m 36 #[.val (.ref a), .val (.ref dd), .val (.long x9_), .second, .val (.long y9_), .second, .val (.int (16 : Int32))] [(.int ((y9_.toInt32) &&& (31 : Int32))), (.ref ls4), (.int (16 : Int32)), (.ref dd)])) (fun t k => XS.ifNo X22.here hx rfl (hb hby d19_22) rfl ((if0 _ _).trans (flt hc22).1) (XS.aloadN X22.here hx rfl (hb hby d19_25) rfl rfl (XS.iload X22.here hx rfl (hb hby d19_26) rfl (ldcAgain X22 hx hZ hown (wq hw 103 rfl) Li_ls4 (g := (mkF m 28 #[.val (.ref a), .val (.ref dd), .val (.long x9_), .second, .val (.long y9_), .second, .val (.int (16 : Int32))] [(.int (16 : Int32)), (.ref dd)])) rfl (hb hby d19_28) t (XS.lload X22.here hx rfl (hb hby d19_30) rfl (XS.l2i X22.here hx rfl (hb hby d19_32) rfl (XS.bipush X22.here hx rfl (hb hby d19_33) (XS.iand X22.here hx rfl (hb hby d19_35) rfl k)))))))) ?_
  obtain ⟨cq23, kq23, q23a, q23b, q23c⟩ := isOf hZ e22 S_ls4.1
  obtain ⟨_, _, ⟨T23, L23, k23, n23⟩, -, X23, ⟨Lc23, hQ23, l23, y23, z23⟩, st23⟩ := X22.virtualBack hx (y := (⟨"java/lang/String", "charAt", "(I)C"⟩ : MethodName)) (z := (⟨"java/lang/String", "charAt", "(I)C"⟩ : MethodName)) hown (mvT hZ (wq hw 78 rfl)) (mvT hZ (wq hw 15 rfl)) (notFace_of_selects (args := #[]) (mvT hZ (wq hw 17 rfl))) (mvT hZ (wq hw 17 rfl)) (mvT hZ (wq hw 16 rfl)) (by decide) (backOf (W := 2) (rm_chG l Z a0 hw [] ls4 lb4 kl4 own_lit ((y9_.toInt32) &&& (31 : Int32)) cs sf h22 n0 Z22 S_ls4 S_COMPACT_STRINGS S_SIOOBE_FORMATTER (own_a31 _).1 (own_a31 _).2 (by decide) hcs hsf O) hZ (wq hw 18 rfl) (wq hw 7 rfl) (by decide) (by decide)) q23a q23c (g := (mkF m 36 #[.val (.ref a), .val (.ref dd), .val (.long x9_), .second, .val (.long y9_), .second, .val (.int (16 : Int32))] [(.int ((y9_.toInt32) &&& (31 : Int32))), (.ref ls4), (.int (16 : Int32)), (.ref dd)])) rfl (by rw [hml]; rfl) (Steps.refl _) (argsL := [(.int ((y9_.toInt32) &&& (31 : Int32)))]) (rest := [(.int (16 : Int32)), (.ref dd)]) (lenOf pd__28I_29C rfl) rfl (by show 2 * 0 + _ ≤ _; exact Nat.le_of_eq rfl) (hb hby d19_36) (fun _ _ => ⟨rfl, e22, (by decide : 3 + 0 ≤ _), (by decide : 158 + 0 ≤ _)⟩)
  dsimp only [Pt.U, Pt.locs, Pt.cells, Pt.slots] at X23 l23 y23 z23 st23 hQ23
  rw [l23, y23, z23] at X23
  obtain ⟨rfl, N23q, HQ23⟩ := hQ23
  have N23 := Fr.app N22 N23q
  refine GoesW.pre (U' := T23.setTop (mkF m 39 #[.val (.ref a), .val (.ref dd), .val (.long x9_), .second, .val (.long y9_), .second, .val (.int (16 : Int32))] [(.int (own_lit.getD ((y9_.toInt32) &&& (31 : Int32)).toNatClampNeg 0)), (.int (16 : Int32)), (.ref dd)])) (fun t k => st23.trans k) ?_
  obtain ⟨cl24, Ar24, q24, Sz24, Ng24, Hs24, Ft24⟩ := id V_dd
  obtain ⟨T24, h24, X24, e24, W24, st24⟩ := stC X23 hx hZ HQ23 Ar24 (j := (16 : Int32)) (inb_of Sz24 ⟨by decide, by decide⟩) (g := (mkF m 39 #[.val (.ref a), .val (.ref dd), .val (.long x9_), .second, .val (.long y9_), .second, .val (.int (16 : Int32))] [(.int (own_lit.getD ((y9_.toInt32) &&& (31 : Int32)).toNatClampNeg 0)), (.int (16 : Int32)), (.ref dd)])) rfl rfl (hb hby d19_39)
  have nr24 : nar .char (own_lit.getD ((y9_.toInt32) &&& (31 : Int32)).toNatClampNeg 0) = (own_dc ((y9_.toInt32) &&& (31 : Int32))) := own_nch _ (own_lit_ch _)
  have ft24 : fits .char (.int (own_dc ((y9_.toInt32) &&& (31 : Int32)))) = true := nr24 ▸ (fits_nar_char (own_lit.getD ((y9_.toInt32) &&& (31 : Int32)).toNatClampNeg 0) : fits .char (.int (nar .char (own_lit.getD ((y9_.toInt32) &&& (31 : Int32)).toNatClampNeg 0))) = true)
  rw [nr24] at W24
  have F_high_a := F_high_a.other W24 (Or.inl ne_a_dd)
  have F_low_a := F_low_a.other W24 (Or.inl ne_a_dd)
  have E_dd := E_dd.wr W24
  have S_ls4 := S_ls4.keep (Keep.of_wr W24) (ninS ne_ls4_dd nin0) (ninS ne_lb4_dd nin0)
  have Z24 : n0 ≤ h24.size := Nat.le_trans Z22 (Keep.of_wr W24).1
  have O := O.wr W24 g_dd
  have SFo := SF_dd
  have SF_dd := Safe.wr W24 SFo H SF_dd
  have CR := CR.trans (CHr.wr W24 SFo H)
  have H := H.wr W24 SFo
  have hk := Nat.le_trans hk (Keep.of_wr W24).1
  have V_dd : Arv Z h24 dd k1 .char (26 : Int32) [(.int (0 : Int32)), (.int (0 : Int32)), (.int (0 : Int32)), (.int (0 : Int32)), (.int (0 : Int32)), (.int (0 : Int32)), (.int (0 : Int32)), (.int (0 : Int32)), (.int (0 : Int32)), (.int (0 : Int32)), (.int (0 : Int32)), (.int (0 : Int32)), (.int (0 : Int32)), (.int (0 : Int32)), (.int (0 : Int32)), (.int (0 : Int32)), (.int (own_dc ((y9_.toInt32) &&& (31 : Int32)))), (.int (own_dc ((y8_.toInt32) &&& (31 : Int32)))), (.int (own_dc ((y7_.toInt32) &&& (31 : Int32)))), (.int (own_dc ((y6_.toInt32) &&& (31 : Int32)))), (.int (own_dc ((y5_.toInt32) &&& (31 : Int32)))), (.int (own_dc ((y4_.toInt32) &&& (31 : Int32)))), (.int (own_dc ((y3_.toInt32) &&& (31 : Int32)))), (.int (own_dc ((y2_.toInt32) &&& (31 : Int32)))), (.int (own_dc ((y1_.toInt32) &&& (31 : Int32)))), (.int (own_dc ((lq.toInt32) &&& (31 : Int32))))] (.int (0 : Int32)) := Arv.set Ar24 q24 Sz24 Ng24 Hs24 Ft24 ft24 W24 16 rfl (Nat.le_of_ble_eq_true rfl)
  have K24 := K22.wr W24 (Or.inr sz_dd)
  have N24 := Fr.snoc X24 N23 g_dd
  refine GoesW.pre (U' := T24.setTop (mkF m 54 #[.val (.ref a), .val (.ref dd), .val (.long x9_), .second, .val (.long (((y9_.toUInt64 >>> ((5 : Int32) &&& 0x3f).toInt64.toUInt64).toInt64) ||| (x9_ <<< ((59 : Int32) &&& 0x3f).toInt64))), .second, .val (.int (16 : Int32))] [(.long ((x9_.toUInt64 >>> ((5 : Int32) &&& 0x3f).toInt64.toUInt64).toInt64))])) (fun t k => st24 t (XS.lload X24.here hx rfl (hb hby d19_40) rfl (XS.iconst X24.here hx rfl (hb hby d19_42) (XS.lushr X24.here hx rfl (hb hby d19_43) rfl (XS.lloadN X24.here hx rfl (hb hby d19_44) rfl (XS.bipush X24.here hx rfl (hb hby d19_45) (XS.lshl X24.here hx rfl (hb hby d19_47) rfl (XS.lor X24.here hx rfl (hb hby d19_48) rfl (XS.lstore X24.here hx rfl (hb hby d19_49) rfl (l' := #[.val (.ref a), .val (.ref dd), .val (.long x9_), .second, .val (.long (((y9_.toUInt64 >>> ((5 : Int32) &&& 0x3f).toInt64.toUInt64).toInt64) ||| (x9_ <<< ((59 : Int32) &&& 0x3f).toInt64))), .second, .val (.int (16 : Int32))]) rfl (XS.lloadN X24.here hx rfl (hb hby d19_51) rfl (XS.iconst X24.here hx rfl (hb hby d19_52) (XS.lushr X24.here hx rfl (hb hby d19_53) rfl k)))))))))))) ?_
  refine GoesW.pre (U' := T24.setTop (mkF m 58 #[.val (.ref a), .val (.ref dd), .val (.long ((x9_.toUInt64 >>> ((5 : Int32) &&& 0x3f).toInt64.toUInt64).toInt64)), .second, .val (.long (((y9_.toUInt64 >>> ((5 : Int32) &&& 0x3f).toInt64.toUInt64).toInt64) ||| (x9_ <<< ((59 : Int32) &&& 0x3f).toInt64))), .second, .val (.int ((16 : Int32) + (-1 : Int32)))] [])) (fun t k => XS.lstoreN X24.here hx rfl (hb hby d19_54) rfl (l' := #[.val (.ref a), .val (.ref dd), .val (.long ((x9_.toUInt64 >>> ((5 : Int32) &&& 0x3f).toInt64.toUInt64).toInt64)), .second, .val (.long (((y9_.toUInt64 >>> ((5 : Int32) &&& 0x3f).toInt64.toUInt64).toInt64) ||| (x9_ <<< ((59 : Int32) &&& 0x3f).toInt64))), .second, .val (.int (16 : Int32))]) rfl (XT.iincV X24.here hx rfl (-1 : Int32) (hb hby d19_55) (by decide) rfl (l' := #[.val (.ref a), .val (.ref dd), .val (.long ((x9_.toUInt64 >>> ((5 : Int32) &&& 0x3f).toInt64.toUInt64).toInt64)), .second, .val (.long (((y9_.toUInt64 >>> ((5 : Int32) &&& 0x3f).toInt64.toUInt64).toInt64) ||| (x9_ <<< ((59 : Int32) &&& 0x3f).toInt64))), .second, .val (.int ((16 : Int32) + (-1 : Int32)))]) rfl k)) ?_
  rw [(by decide : ((16 : Int32) + (-1 : Int32)) = (15 : Int32))]
  refine GoesW.pre (U' := T24.setTop (mkF m 20 #[.val (.ref a), .val (.ref dd), .val (.long ((x9_.toUInt64 >>> ((5 : Int32) &&& 0x3f).toInt64.toUInt64).toInt64)), .second, .val (.long (((y9_.toUInt64 >>> ((5 : Int32) &&& 0x3f).toInt64.toUInt64).toInt64) ||| (x9_ <<< ((59 : Int32) &&& 0x3f).toInt64))), .second, .val (.int (15 : Int32))] [])) (fun t k => XS.goto X24.here hx rfl (pc0 := 58) (pc' := 20) rfl (hb hby d19_58) (by decide) (by decide) k) ?_
  obtain ⟨x10_, hx10_⟩ : ∃ z, z = ((x9_.toUInt64 >>> ((5 : Int32) &&& 0x3f).toInt64.toUInt64).toInt64) := ⟨_, rfl⟩
  obtain ⟨y10_, hy10_⟩ : ∃ z, z = (((y9_.toUInt64 >>> ((5 : Int32) &&& 0x3f).toInt64.toUInt64).toInt64) ||| (x9_ <<< ((59 : Int32) &&& 0x3f).toInt64)) := ⟨_, rfl⟩
  rw [← hx10_, ← hy10_]
  have eq10_ : own_q hq lq 10 = (x10_, y10_) := (own_qs hq lq 9).trans (by rw [eq9_, hx10_, hy10_]; rfl)
  refine GoesW.pre (U' := T24.setTop (mkF m 22 #[.val (.ref a), .val (.ref dd), .val (.long x10_), .second, .val (.long y10_), .second, .val (.int (15 : Int32))] [(.int (15 : Int32))])) (fun t k => XS.iload X24.here hx rfl (hb hby d19_20) rfl k) ?_
  have hc22 : ¬ ((15 : Int32) < (0 : Int32)) := by decide
  refine GoesW.pre (U' := T24.setTop (mkF m 36 #[.val (.ref a), .val (.ref dd), .val (.long x10_), .second, .val (.long y10_), .second, .val (.int (15 : Int32))] [(.int ((y10_.toInt32) &&& (31 : Int32))), (.ref ls4), (.int (15 : Int32)), (.ref dd)])) (fun t k => XS.ifNo X24.here hx rfl (hb hby d19_22) rfl ((if0 _ _).trans (flt hc22).1) (XS.aloadN X24.here hx rfl (hb hby d19_25) rfl rfl (XS.iload X24.here hx rfl (hb hby d19_26) rfl (ldcAgain X24 hx hZ hown (wq hw 103 rfl) Li_ls4 (g := (mkF m 28 #[.val (.ref a), .val (.ref dd), .val (.long x10_), .second, .val (.long y10_), .second, .val (.int (15 : Int32))] [(.int (15 : Int32)), (.ref dd)])) rfl (hb hby d19_28) t (XS.lload X24.here hx rfl (hb hby d19_30) rfl (XS.l2i X24.here hx rfl (hb hby d19_32) rfl (XS.bipush X24.here hx rfl (hb hby d19_33) (XS.iand X24.here hx rfl (hb hby d19_35) rfl k)))))))) ?_
  obtain ⟨cq25, kq25, q25a, q25b, q25c⟩ := isOf hZ e24 S_ls4.1
  obtain ⟨_, _, ⟨T25, L25, k25, n25⟩, -, X25, ⟨Lc25, hQ25, l25, y25, z25⟩, st25⟩ := X24.virtualBack hx (y := (⟨"java/lang/String", "charAt", "(I)C"⟩ : MethodName)) (z := (⟨"java/lang/String", "charAt", "(I)C"⟩ : MethodName)) hown (mvT hZ (wq hw 78 rfl)) (mvT hZ (wq hw 15 rfl)) (notFace_of_selects (args := #[]) (mvT hZ (wq hw 17 rfl))) (mvT hZ (wq hw 17 rfl)) (mvT hZ (wq hw 16 rfl)) (by decide) (backOf (W := 2) (rm_chG l Z a0 hw [] ls4 lb4 kl4 own_lit ((y10_.toInt32) &&& (31 : Int32)) cs sf h24 n0 Z24 S_ls4 S_COMPACT_STRINGS S_SIOOBE_FORMATTER (own_a31 _).1 (own_a31 _).2 (by decide) hcs hsf O) hZ (wq hw 18 rfl) (wq hw 7 rfl) (by decide) (by decide)) q25a q25c (g := (mkF m 36 #[.val (.ref a), .val (.ref dd), .val (.long x10_), .second, .val (.long y10_), .second, .val (.int (15 : Int32))] [(.int ((y10_.toInt32) &&& (31 : Int32))), (.ref ls4), (.int (15 : Int32)), (.ref dd)])) rfl (by rw [hml]; rfl) (Steps.refl _) (argsL := [(.int ((y10_.toInt32) &&& (31 : Int32)))]) (rest := [(.int (15 : Int32)), (.ref dd)]) (lenOf pd__28I_29C rfl) rfl (by show 2 * 0 + _ ≤ _; exact Nat.le_of_eq rfl) (hb hby d19_36) (fun _ _ => ⟨rfl, e24, (by decide : 3 + 0 ≤ _), (by decide : 158 + 0 ≤ _)⟩)
  dsimp only [Pt.U, Pt.locs, Pt.cells, Pt.slots] at X25 l25 y25 z25 st25 hQ25
  rw [l25, y25, z25] at X25
  obtain ⟨rfl, N25q, HQ25⟩ := hQ25
  have N25 := Fr.app N24 N25q
  refine GoesW.pre (U' := T25.setTop (mkF m 39 #[.val (.ref a), .val (.ref dd), .val (.long x10_), .second, .val (.long y10_), .second, .val (.int (15 : Int32))] [(.int (own_lit.getD ((y10_.toInt32) &&& (31 : Int32)).toNatClampNeg 0)), (.int (15 : Int32)), (.ref dd)])) (fun t k => st25.trans k) ?_
  obtain ⟨cl26, Ar26, q26, Sz26, Ng26, Hs26, Ft26⟩ := id V_dd
  obtain ⟨T26, h26, X26, e26, W26, st26⟩ := stC X25 hx hZ HQ25 Ar26 (j := (15 : Int32)) (inb_of Sz26 ⟨by decide, by decide⟩) (g := (mkF m 39 #[.val (.ref a), .val (.ref dd), .val (.long x10_), .second, .val (.long y10_), .second, .val (.int (15 : Int32))] [(.int (own_lit.getD ((y10_.toInt32) &&& (31 : Int32)).toNatClampNeg 0)), (.int (15 : Int32)), (.ref dd)])) rfl rfl (hb hby d19_39)
  have nr26 : nar .char (own_lit.getD ((y10_.toInt32) &&& (31 : Int32)).toNatClampNeg 0) = (own_dc ((y10_.toInt32) &&& (31 : Int32))) := own_nch _ (own_lit_ch _)
  have ft26 : fits .char (.int (own_dc ((y10_.toInt32) &&& (31 : Int32)))) = true := nr26 ▸ (fits_nar_char (own_lit.getD ((y10_.toInt32) &&& (31 : Int32)).toNatClampNeg 0) : fits .char (.int (nar .char (own_lit.getD ((y10_.toInt32) &&& (31 : Int32)).toNatClampNeg 0))) = true)
  rw [nr26] at W26
  have F_high_a := F_high_a.other W26 (Or.inl ne_a_dd)
  have F_low_a := F_low_a.other W26 (Or.inl ne_a_dd)
  have E_dd := E_dd.wr W26
  have S_ls4 := S_ls4.keep (Keep.of_wr W26) (ninS ne_ls4_dd nin0) (ninS ne_lb4_dd nin0)
  have Z26 : n0 ≤ h26.size := Nat.le_trans Z24 (Keep.of_wr W26).1
  have O := O.wr W26 g_dd
  have SFo := SF_dd
  have SF_dd := Safe.wr W26 SFo H SF_dd
  have CR := CR.trans (CHr.wr W26 SFo H)
  have H := H.wr W26 SFo
  have hk := Nat.le_trans hk (Keep.of_wr W26).1
  have V_dd : Arv Z h26 dd k1 .char (26 : Int32) [(.int (0 : Int32)), (.int (0 : Int32)), (.int (0 : Int32)), (.int (0 : Int32)), (.int (0 : Int32)), (.int (0 : Int32)), (.int (0 : Int32)), (.int (0 : Int32)), (.int (0 : Int32)), (.int (0 : Int32)), (.int (0 : Int32)), (.int (0 : Int32)), (.int (0 : Int32)), (.int (0 : Int32)), (.int (0 : Int32)), (.int (own_dc ((y10_.toInt32) &&& (31 : Int32)))), (.int (own_dc ((y9_.toInt32) &&& (31 : Int32)))), (.int (own_dc ((y8_.toInt32) &&& (31 : Int32)))), (.int (own_dc ((y7_.toInt32) &&& (31 : Int32)))), (.int (own_dc ((y6_.toInt32) &&& (31 : Int32)))), (.int (own_dc ((y5_.toInt32) &&& (31 : Int32)))), (.int (own_dc ((y4_.toInt32) &&& (31 : Int32)))), (.int (own_dc ((y3_.toInt32) &&& (31 : Int32)))), (.int (own_dc ((y2_.toInt32) &&& (31 : Int32)))), (.int (own_dc ((y1_.toInt32) &&& (31 : Int32)))), (.int (own_dc ((lq.toInt32) &&& (31 : Int32))))] (.int (0 : Int32)) := Arv.set Ar26 q26 Sz26 Ng26 Hs26 Ft26 ft26 W26 15 rfl (Nat.le_of_ble_eq_true rfl)
  have K26 := K24.wr W26 (Or.inr sz_dd)
  have N26 := Fr.snoc X26 N25 g_dd
  refine GoesW.pre (U' := T26.setTop (mkF m 54 #[.val (.ref a), .val (.ref dd), .val (.long x10_), .second, .val (.long (((y10_.toUInt64 >>> ((5 : Int32) &&& 0x3f).toInt64.toUInt64).toInt64) ||| (x10_ <<< ((59 : Int32) &&& 0x3f).toInt64))), .second, .val (.int (15 : Int32))] [(.long ((x10_.toUInt64 >>> ((5 : Int32) &&& 0x3f).toInt64.toUInt64).toInt64))])) (fun t k => st26 t (XS.lload X26.here hx rfl (hb hby d19_40) rfl (XS.iconst X26.here hx rfl (hb hby d19_42) (XS.lushr X26.here hx rfl (hb hby d19_43) rfl (XS.lloadN X26.here hx rfl (hb hby d19_44) rfl (XS.bipush X26.here hx rfl (hb hby d19_45) (XS.lshl X26.here hx rfl (hb hby d19_47) rfl (XS.lor X26.here hx rfl (hb hby d19_48) rfl (XS.lstore X26.here hx rfl (hb hby d19_49) rfl (l' := #[.val (.ref a), .val (.ref dd), .val (.long x10_), .second, .val (.long (((y10_.toUInt64 >>> ((5 : Int32) &&& 0x3f).toInt64.toUInt64).toInt64) ||| (x10_ <<< ((59 : Int32) &&& 0x3f).toInt64))), .second, .val (.int (15 : Int32))]) rfl (XS.lloadN X26.here hx rfl (hb hby d19_51) rfl (XS.iconst X26.here hx rfl (hb hby d19_52) (XS.lushr X26.here hx rfl (hb hby d19_53) rfl k)))))))))))) ?_
  refine GoesW.pre (U' := T26.setTop (mkF m 58 #[.val (.ref a), .val (.ref dd), .val (.long ((x10_.toUInt64 >>> ((5 : Int32) &&& 0x3f).toInt64.toUInt64).toInt64)), .second, .val (.long (((y10_.toUInt64 >>> ((5 : Int32) &&& 0x3f).toInt64.toUInt64).toInt64) ||| (x10_ <<< ((59 : Int32) &&& 0x3f).toInt64))), .second, .val (.int ((15 : Int32) + (-1 : Int32)))] [])) (fun t k => XS.lstoreN X26.here hx rfl (hb hby d19_54) rfl (l' := #[.val (.ref a), .val (.ref dd), .val (.long ((x10_.toUInt64 >>> ((5 : Int32) &&& 0x3f).toInt64.toUInt64).toInt64)), .second, .val (.long (((y10_.toUInt64 >>> ((5 : Int32) &&& 0x3f).toInt64.toUInt64).toInt64) ||| (x10_ <<< ((59 : Int32) &&& 0x3f).toInt64))), .second, .val (.int (15 : Int32))]) rfl (XT.iincV X26.here hx rfl (-1 : Int32) (hb hby d19_55) (by decide) rfl (l' := #[.val (.ref a), .val (.ref dd), .val (.long ((x10_.toUInt64 >>> ((5 : Int32) &&& 0x3f).toInt64.toUInt64).toInt64)), .second, .val (.long (((y10_.toUInt64 >>> ((5 : Int32) &&& 0x3f).toInt64.toUInt64).toInt64) ||| (x10_ <<< ((59 : Int32) &&& 0x3f).toInt64))), .second, .val (.int ((15 : Int32) + (-1 : Int32)))]) rfl k)) ?_
  rw [(by decide : ((15 : Int32) + (-1 : Int32)) = (14 : Int32))]
  refine GoesW.pre (U' := T26.setTop (mkF m 20 #[.val (.ref a), .val (.ref dd), .val (.long ((x10_.toUInt64 >>> ((5 : Int32) &&& 0x3f).toInt64.toUInt64).toInt64)), .second, .val (.long (((y10_.toUInt64 >>> ((5 : Int32) &&& 0x3f).toInt64.toUInt64).toInt64) ||| (x10_ <<< ((59 : Int32) &&& 0x3f).toInt64))), .second, .val (.int (14 : Int32))] [])) (fun t k => XS.goto X26.here hx rfl (pc0 := 58) (pc' := 20) rfl (hb hby d19_58) (by decide) (by decide) k) ?_
  obtain ⟨x11_, hx11_⟩ : ∃ z, z = ((x10_.toUInt64 >>> ((5 : Int32) &&& 0x3f).toInt64.toUInt64).toInt64) := ⟨_, rfl⟩
  obtain ⟨y11_, hy11_⟩ : ∃ z, z = (((y10_.toUInt64 >>> ((5 : Int32) &&& 0x3f).toInt64.toUInt64).toInt64) ||| (x10_ <<< ((59 : Int32) &&& 0x3f).toInt64)) := ⟨_, rfl⟩
  rw [← hx11_, ← hy11_]
  have eq11_ : own_q hq lq 11 = (x11_, y11_) := (own_qs hq lq 10).trans (by rw [eq10_, hx11_, hy11_]; rfl)
  refine GoesW.pre (U' := T26.setTop (mkF m 22 #[.val (.ref a), .val (.ref dd), .val (.long x11_), .second, .val (.long y11_), .second, .val (.int (14 : Int32))] [(.int (14 : Int32))])) (fun t k => XS.iload X26.here hx rfl (hb hby d19_20) rfl k) ?_
  have hc22 : ¬ ((14 : Int32) < (0 : Int32)) := by decide
  refine GoesW.pre (U' := T26.setTop (mkF m 36 #[.val (.ref a), .val (.ref dd), .val (.long x11_), .second, .val (.long y11_), .second, .val (.int (14 : Int32))] [(.int ((y11_.toInt32) &&& (31 : Int32))), (.ref ls4), (.int (14 : Int32)), (.ref dd)])) (fun t k => XS.ifNo X26.here hx rfl (hb hby d19_22) rfl ((if0 _ _).trans (flt hc22).1) (XS.aloadN X26.here hx rfl (hb hby d19_25) rfl rfl (XS.iload X26.here hx rfl (hb hby d19_26) rfl (ldcAgain X26 hx hZ hown (wq hw 103 rfl) Li_ls4 (g := (mkF m 28 #[.val (.ref a), .val (.ref dd), .val (.long x11_), .second, .val (.long y11_), .second, .val (.int (14 : Int32))] [(.int (14 : Int32)), (.ref dd)])) rfl (hb hby d19_28) t (XS.lload X26.here hx rfl (hb hby d19_30) rfl (XS.l2i X26.here hx rfl (hb hby d19_32) rfl (XS.bipush X26.here hx rfl (hb hby d19_33) (XS.iand X26.here hx rfl (hb hby d19_35) rfl k)))))))) ?_
  obtain ⟨cq27, kq27, q27a, q27b, q27c⟩ := isOf hZ e26 S_ls4.1
  obtain ⟨_, _, ⟨T27, L27, k27, n27⟩, -, X27, ⟨Lc27, hQ27, l27, y27, z27⟩, st27⟩ := X26.virtualBack hx (y := (⟨"java/lang/String", "charAt", "(I)C"⟩ : MethodName)) (z := (⟨"java/lang/String", "charAt", "(I)C"⟩ : MethodName)) hown (mvT hZ (wq hw 78 rfl)) (mvT hZ (wq hw 15 rfl)) (notFace_of_selects (args := #[]) (mvT hZ (wq hw 17 rfl))) (mvT hZ (wq hw 17 rfl)) (mvT hZ (wq hw 16 rfl)) (by decide) (backOf (W := 2) (rm_chG l Z a0 hw [] ls4 lb4 kl4 own_lit ((y11_.toInt32) &&& (31 : Int32)) cs sf h26 n0 Z26 S_ls4 S_COMPACT_STRINGS S_SIOOBE_FORMATTER (own_a31 _).1 (own_a31 _).2 (by decide) hcs hsf O) hZ (wq hw 18 rfl) (wq hw 7 rfl) (by decide) (by decide)) q27a q27c (g := (mkF m 36 #[.val (.ref a), .val (.ref dd), .val (.long x11_), .second, .val (.long y11_), .second, .val (.int (14 : Int32))] [(.int ((y11_.toInt32) &&& (31 : Int32))), (.ref ls4), (.int (14 : Int32)), (.ref dd)])) rfl (by rw [hml]; rfl) (Steps.refl _) (argsL := [(.int ((y11_.toInt32) &&& (31 : Int32)))]) (rest := [(.int (14 : Int32)), (.ref dd)]) (lenOf pd__28I_29C rfl) rfl (by show 2 * 0 + _ ≤ _; exact Nat.le_of_eq rfl) (hb hby d19_36) (fun _ _ => ⟨rfl, e26, (by decide : 3 + 0 ≤ _), (by decide : 158 + 0 ≤ _)⟩)
  dsimp only [Pt.U, Pt.locs, Pt.cells, Pt.slots] at X27 l27 y27 z27 st27 hQ27
  rw [l27, y27, z27] at X27
  obtain ⟨rfl, N27q, HQ27⟩ := hQ27
  have N27 := Fr.app N26 N27q
  refine GoesW.pre (U' := T27.setTop (mkF m 39 #[.val (.ref a), .val (.ref dd), .val (.long x11_), .second, .val (.long y11_), .second, .val (.int (14 : Int32))] [(.int (own_lit.getD ((y11_.toInt32) &&& (31 : Int32)).toNatClampNeg 0)), (.int (14 : Int32)), (.ref dd)])) (fun t k => st27.trans k) ?_
  obtain ⟨cl28, Ar28, q28, Sz28, Ng28, Hs28, Ft28⟩ := id V_dd
  obtain ⟨T28, h28, X28, e28, W28, st28⟩ := stC X27 hx hZ HQ27 Ar28 (j := (14 : Int32)) (inb_of Sz28 ⟨by decide, by decide⟩) (g := (mkF m 39 #[.val (.ref a), .val (.ref dd), .val (.long x11_), .second, .val (.long y11_), .second, .val (.int (14 : Int32))] [(.int (own_lit.getD ((y11_.toInt32) &&& (31 : Int32)).toNatClampNeg 0)), (.int (14 : Int32)), (.ref dd)])) rfl rfl (hb hby d19_39)
  have nr28 : nar .char (own_lit.getD ((y11_.toInt32) &&& (31 : Int32)).toNatClampNeg 0) = (own_dc ((y11_.toInt32) &&& (31 : Int32))) := own_nch _ (own_lit_ch _)
  have ft28 : fits .char (.int (own_dc ((y11_.toInt32) &&& (31 : Int32)))) = true := nr28 ▸ (fits_nar_char (own_lit.getD ((y11_.toInt32) &&& (31 : Int32)).toNatClampNeg 0) : fits .char (.int (nar .char (own_lit.getD ((y11_.toInt32) &&& (31 : Int32)).toNatClampNeg 0))) = true)
  rw [nr28] at W28
  have F_high_a := F_high_a.other W28 (Or.inl ne_a_dd)
  have F_low_a := F_low_a.other W28 (Or.inl ne_a_dd)
  have E_dd := E_dd.wr W28
  have S_ls4 := S_ls4.keep (Keep.of_wr W28) (ninS ne_ls4_dd nin0) (ninS ne_lb4_dd nin0)
  have Z28 : n0 ≤ h28.size := Nat.le_trans Z26 (Keep.of_wr W28).1
  have O := O.wr W28 g_dd
  have SFo := SF_dd
  have SF_dd := Safe.wr W28 SFo H SF_dd
  have CR := CR.trans (CHr.wr W28 SFo H)
  have H := H.wr W28 SFo
  have hk := Nat.le_trans hk (Keep.of_wr W28).1
  have V_dd : Arv Z h28 dd k1 .char (26 : Int32) [(.int (0 : Int32)), (.int (0 : Int32)), (.int (0 : Int32)), (.int (0 : Int32)), (.int (0 : Int32)), (.int (0 : Int32)), (.int (0 : Int32)), (.int (0 : Int32)), (.int (0 : Int32)), (.int (0 : Int32)), (.int (0 : Int32)), (.int (0 : Int32)), (.int (0 : Int32)), (.int (0 : Int32)), (.int (own_dc ((y11_.toInt32) &&& (31 : Int32)))), (.int (own_dc ((y10_.toInt32) &&& (31 : Int32)))), (.int (own_dc ((y9_.toInt32) &&& (31 : Int32)))), (.int (own_dc ((y8_.toInt32) &&& (31 : Int32)))), (.int (own_dc ((y7_.toInt32) &&& (31 : Int32)))), (.int (own_dc ((y6_.toInt32) &&& (31 : Int32)))), (.int (own_dc ((y5_.toInt32) &&& (31 : Int32)))), (.int (own_dc ((y4_.toInt32) &&& (31 : Int32)))), (.int (own_dc ((y3_.toInt32) &&& (31 : Int32)))), (.int (own_dc ((y2_.toInt32) &&& (31 : Int32)))), (.int (own_dc ((y1_.toInt32) &&& (31 : Int32)))), (.int (own_dc ((lq.toInt32) &&& (31 : Int32))))] (.int (0 : Int32)) := Arv.set Ar28 q28 Sz28 Ng28 Hs28 Ft28 ft28 W28 14 rfl (Nat.le_of_ble_eq_true rfl)
  have K28 := K26.wr W28 (Or.inr sz_dd)
  have N28 := Fr.snoc X28 N27 g_dd
  refine GoesW.pre (U' := T28.setTop (mkF m 54 #[.val (.ref a), .val (.ref dd), .val (.long x11_), .second, .val (.long (((y11_.toUInt64 >>> ((5 : Int32) &&& 0x3f).toInt64.toUInt64).toInt64) ||| (x11_ <<< ((59 : Int32) &&& 0x3f).toInt64))), .second, .val (.int (14 : Int32))] [(.long ((x11_.toUInt64 >>> ((5 : Int32) &&& 0x3f).toInt64.toUInt64).toInt64))])) (fun t k => st28 t (XS.lload X28.here hx rfl (hb hby d19_40) rfl (XS.iconst X28.here hx rfl (hb hby d19_42) (XS.lushr X28.here hx rfl (hb hby d19_43) rfl (XS.lloadN X28.here hx rfl (hb hby d19_44) rfl (XS.bipush X28.here hx rfl (hb hby d19_45) (XS.lshl X28.here hx rfl (hb hby d19_47) rfl (XS.lor X28.here hx rfl (hb hby d19_48) rfl (XS.lstore X28.here hx rfl (hb hby d19_49) rfl (l' := #[.val (.ref a), .val (.ref dd), .val (.long x11_), .second, .val (.long (((y11_.toUInt64 >>> ((5 : Int32) &&& 0x3f).toInt64.toUInt64).toInt64) ||| (x11_ <<< ((59 : Int32) &&& 0x3f).toInt64))), .second, .val (.int (14 : Int32))]) rfl (XS.lloadN X28.here hx rfl (hb hby d19_51) rfl (XS.iconst X28.here hx rfl (hb hby d19_52) (XS.lushr X28.here hx rfl (hb hby d19_53) rfl k)))))))))))) ?_
  refine GoesW.pre (U' := T28.setTop (mkF m 58 #[.val (.ref a), .val (.ref dd), .val (.long ((x11_.toUInt64 >>> ((5 : Int32) &&& 0x3f).toInt64.toUInt64).toInt64)), .second, .val (.long (((y11_.toUInt64 >>> ((5 : Int32) &&& 0x3f).toInt64.toUInt64).toInt64) ||| (x11_ <<< ((59 : Int32) &&& 0x3f).toInt64))), .second, .val (.int ((14 : Int32) + (-1 : Int32)))] [])) (fun t k => XS.lstoreN X28.here hx rfl (hb hby d19_54) rfl (l' := #[.val (.ref a), .val (.ref dd), .val (.long ((x11_.toUInt64 >>> ((5 : Int32) &&& 0x3f).toInt64.toUInt64).toInt64)), .second, .val (.long (((y11_.toUInt64 >>> ((5 : Int32) &&& 0x3f).toInt64.toUInt64).toInt64) ||| (x11_ <<< ((59 : Int32) &&& 0x3f).toInt64))), .second, .val (.int (14 : Int32))]) rfl (XT.iincV X28.here hx rfl (-1 : Int32) (hb hby d19_55) (by decide) rfl (l' := #[.val (.ref a), .val (.ref dd), .val (.long ((x11_.toUInt64 >>> ((5 : Int32) &&& 0x3f).toInt64.toUInt64).toInt64)), .second, .val (.long (((y11_.toUInt64 >>> ((5 : Int32) &&& 0x3f).toInt64.toUInt64).toInt64) ||| (x11_ <<< ((59 : Int32) &&& 0x3f).toInt64))), .second, .val (.int ((14 : Int32) + (-1 : Int32)))]) rfl k)) ?_
  rw [(by decide : ((14 : Int32) + (-1 : Int32)) = (13 : Int32))]
  refine GoesW.pre (U' := T28.setTop (mkF m 20 #[.val (.ref a), .val (.ref dd), .val (.long ((x11_.toUInt64 >>> ((5 : Int32) &&& 0x3f).toInt64.toUInt64).toInt64)), .second, .val (.long (((y11_.toUInt64 >>> ((5 : Int32) &&& 0x3f).toInt64.toUInt64).toInt64) ||| (x11_ <<< ((59 : Int32) &&& 0x3f).toInt64))), .second, .val (.int (13 : Int32))] [])) (fun t k => XS.goto X28.here hx rfl (pc0 := 58) (pc' := 20) rfl (hb hby d19_58) (by decide) (by decide) k) ?_
  obtain ⟨x12_, hx12_⟩ : ∃ z, z = ((x11_.toUInt64 >>> ((5 : Int32) &&& 0x3f).toInt64.toUInt64).toInt64) := ⟨_, rfl⟩
  obtain ⟨y12_, hy12_⟩ : ∃ z, z = (((y11_.toUInt64 >>> ((5 : Int32) &&& 0x3f).toInt64.toUInt64).toInt64) ||| (x11_ <<< ((59 : Int32) &&& 0x3f).toInt64)) := ⟨_, rfl⟩
  rw [← hx12_, ← hy12_]
  have eq12_ : own_q hq lq 12 = (x12_, y12_) := (own_qs hq lq 11).trans (by rw [eq11_, hx12_, hy12_]; rfl)
  refine GoesW.pre (U' := T28.setTop (mkF m 22 #[.val (.ref a), .val (.ref dd), .val (.long x12_), .second, .val (.long y12_), .second, .val (.int (13 : Int32))] [(.int (13 : Int32))])) (fun t k => XS.iload X28.here hx rfl (hb hby d19_20) rfl k) ?_
  have hc22 : ¬ ((13 : Int32) < (0 : Int32)) := by decide
  refine GoesW.pre (U' := T28.setTop (mkF m 36 #[.val (.ref a), .val (.ref dd), .val (.long x12_), .second, .val (.long y12_), .second, .val (.int (13 : Int32))] [(.int ((y12_.toInt32) &&& (31 : Int32))), (.ref ls4), (.int (13 : Int32)), (.ref dd)])) (fun t k => XS.ifNo X28.here hx rfl (hb hby d19_22) rfl ((if0 _ _).trans (flt hc22).1) (XS.aloadN X28.here hx rfl (hb hby d19_25) rfl rfl (XS.iload X28.here hx rfl (hb hby d19_26) rfl (ldcAgain X28 hx hZ hown (wq hw 103 rfl) Li_ls4 (g := (mkF m 28 #[.val (.ref a), .val (.ref dd), .val (.long x12_), .second, .val (.long y12_), .second, .val (.int (13 : Int32))] [(.int (13 : Int32)), (.ref dd)])) rfl (hb hby d19_28) t (XS.lload X28.here hx rfl (hb hby d19_30) rfl (XS.l2i X28.here hx rfl (hb hby d19_32) rfl (XS.bipush X28.here hx rfl (hb hby d19_33) (XS.iand X28.here hx rfl (hb hby d19_35) rfl k)))))))) ?_
  obtain ⟨cq29, kq29, q29a, q29b, q29c⟩ := isOf hZ e28 S_ls4.1
  obtain ⟨_, _, ⟨T29, L29, k29, n29⟩, -, X29, ⟨Lc29, hQ29, l29, y29, z29⟩, st29⟩ := X28.virtualBack hx (y := (⟨"java/lang/String", "charAt", "(I)C"⟩ : MethodName)) (z := (⟨"java/lang/String", "charAt", "(I)C"⟩ : MethodName)) hown (mvT hZ (wq hw 78 rfl)) (mvT hZ (wq hw 15 rfl)) (notFace_of_selects (args := #[]) (mvT hZ (wq hw 17 rfl))) (mvT hZ (wq hw 17 rfl)) (mvT hZ (wq hw 16 rfl)) (by decide) (backOf (W := 2) (rm_chG l Z a0 hw [] ls4 lb4 kl4 own_lit ((y12_.toInt32) &&& (31 : Int32)) cs sf h28 n0 Z28 S_ls4 S_COMPACT_STRINGS S_SIOOBE_FORMATTER (own_a31 _).1 (own_a31 _).2 (by decide) hcs hsf O) hZ (wq hw 18 rfl) (wq hw 7 rfl) (by decide) (by decide)) q29a q29c (g := (mkF m 36 #[.val (.ref a), .val (.ref dd), .val (.long x12_), .second, .val (.long y12_), .second, .val (.int (13 : Int32))] [(.int ((y12_.toInt32) &&& (31 : Int32))), (.ref ls4), (.int (13 : Int32)), (.ref dd)])) rfl (by rw [hml]; rfl) (Steps.refl _) (argsL := [(.int ((y12_.toInt32) &&& (31 : Int32)))]) (rest := [(.int (13 : Int32)), (.ref dd)]) (lenOf pd__28I_29C rfl) rfl (by show 2 * 0 + _ ≤ _; exact Nat.le_of_eq rfl) (hb hby d19_36) (fun _ _ => ⟨rfl, e28, (by decide : 3 + 0 ≤ _), (by decide : 158 + 0 ≤ _)⟩)
  dsimp only [Pt.U, Pt.locs, Pt.cells, Pt.slots] at X29 l29 y29 z29 st29 hQ29
  rw [l29, y29, z29] at X29
  obtain ⟨rfl, N29q, HQ29⟩ := hQ29
  have N29 := Fr.app N28 N29q
  refine GoesW.pre (U' := T29.setTop (mkF m 39 #[.val (.ref a), .val (.ref dd), .val (.long x12_), .second, .val (.long y12_), .second, .val (.int (13 : Int32))] [(.int (own_lit.getD ((y12_.toInt32) &&& (31 : Int32)).toNatClampNeg 0)), (.int (13 : Int32)), (.ref dd)])) (fun t k => st29.trans k) ?_
  obtain ⟨cl30, Ar30, q30, Sz30, Ng30, Hs30, Ft30⟩ := id V_dd
  obtain ⟨T30, h30, X30, e30, W30, st30⟩ := stC X29 hx hZ HQ29 Ar30 (j := (13 : Int32)) (inb_of Sz30 ⟨by decide, by decide⟩) (g := (mkF m 39 #[.val (.ref a), .val (.ref dd), .val (.long x12_), .second, .val (.long y12_), .second, .val (.int (13 : Int32))] [(.int (own_lit.getD ((y12_.toInt32) &&& (31 : Int32)).toNatClampNeg 0)), (.int (13 : Int32)), (.ref dd)])) rfl rfl (hb hby d19_39)
  have nr30 : nar .char (own_lit.getD ((y12_.toInt32) &&& (31 : Int32)).toNatClampNeg 0) = (own_dc ((y12_.toInt32) &&& (31 : Int32))) := own_nch _ (own_lit_ch _)
  have ft30 : fits .char (.int (own_dc ((y12_.toInt32) &&& (31 : Int32)))) = true := nr30 ▸ (fits_nar_char (own_lit.getD ((y12_.toInt32) &&& (31 : Int32)).toNatClampNeg 0) : fits .char (.int (nar .char (own_lit.getD ((y12_.toInt32) &&& (31 : Int32)).toNatClampNeg 0))) = true)
  rw [nr30] at W30
  have F_high_a := F_high_a.other W30 (Or.inl ne_a_dd)
  have F_low_a := F_low_a.other W30 (Or.inl ne_a_dd)
  have E_dd := E_dd.wr W30
  have S_ls4 := S_ls4.keep (Keep.of_wr W30) (ninS ne_ls4_dd nin0) (ninS ne_lb4_dd nin0)
  have Z30 : n0 ≤ h30.size := Nat.le_trans Z28 (Keep.of_wr W30).1
  have O := O.wr W30 g_dd
  have SFo := SF_dd
  have SF_dd := Safe.wr W30 SFo H SF_dd
  have CR := CR.trans (CHr.wr W30 SFo H)
  have H := H.wr W30 SFo
  have hk := Nat.le_trans hk (Keep.of_wr W30).1
  have V_dd : Arv Z h30 dd k1 .char (26 : Int32) [(.int (0 : Int32)), (.int (0 : Int32)), (.int (0 : Int32)), (.int (0 : Int32)), (.int (0 : Int32)), (.int (0 : Int32)), (.int (0 : Int32)), (.int (0 : Int32)), (.int (0 : Int32)), (.int (0 : Int32)), (.int (0 : Int32)), (.int (0 : Int32)), (.int (0 : Int32)), (.int (own_dc ((y12_.toInt32) &&& (31 : Int32)))), (.int (own_dc ((y11_.toInt32) &&& (31 : Int32)))), (.int (own_dc ((y10_.toInt32) &&& (31 : Int32)))), (.int (own_dc ((y9_.toInt32) &&& (31 : Int32)))), (.int (own_dc ((y8_.toInt32) &&& (31 : Int32)))), (.int (own_dc ((y7_.toInt32) &&& (31 : Int32)))), (.int (own_dc ((y6_.toInt32) &&& (31 : Int32)))), (.int (own_dc ((y5_.toInt32) &&& (31 : Int32)))), (.int (own_dc ((y4_.toInt32) &&& (31 : Int32)))), (.int (own_dc ((y3_.toInt32) &&& (31 : Int32)))), (.int (own_dc ((y2_.toInt32) &&& (31 : Int32)))), (.int (own_dc ((y1_.toInt32) &&& (31 : Int32)))), (.int (own_dc ((lq.toInt32) &&& (31 : Int32))))] (.int (0 : Int32)) := Arv.set Ar30 q30 Sz30 Ng30 Hs30 Ft30 ft30 W30 13 rfl (Nat.le_of_ble_eq_true rfl)
  have K30 := K28.wr W30 (Or.inr sz_dd)
  have N30 := Fr.snoc X30 N29 g_dd
  refine GoesW.pre (U' := T30.setTop (mkF m 54 #[.val (.ref a), .val (.ref dd), .val (.long x12_), .second, .val (.long (((y12_.toUInt64 >>> ((5 : Int32) &&& 0x3f).toInt64.toUInt64).toInt64) ||| (x12_ <<< ((59 : Int32) &&& 0x3f).toInt64))), .second, .val (.int (13 : Int32))] [(.long ((x12_.toUInt64 >>> ((5 : Int32) &&& 0x3f).toInt64.toUInt64).toInt64))])) (fun t k => st30 t (XS.lload X30.here hx rfl (hb hby d19_40) rfl (XS.iconst X30.here hx rfl (hb hby d19_42) (XS.lushr X30.here hx rfl (hb hby d19_43) rfl (XS.lloadN X30.here hx rfl (hb hby d19_44) rfl (XS.bipush X30.here hx rfl (hb hby d19_45) (XS.lshl X30.here hx rfl (hb hby d19_47) rfl (XS.lor X30.here hx rfl (hb hby d19_48) rfl (XS.lstore X30.here hx rfl (hb hby d19_49) rfl (l' := #[.val (.ref a), .val (.ref dd), .val (.long x12_), .second, .val (.long (((y12_.toUInt64 >>> ((5 : Int32) &&& 0x3f).toInt64.toUInt64).toInt64) ||| (x12_ <<< ((59 : Int32) &&& 0x3f).toInt64))), .second, .val (.int (13 : Int32))]) rfl (XS.lloadN X30.here hx rfl (hb hby d19_51) rfl (XS.iconst X30.here hx rfl (hb hby d19_52) (XS.lushr X30.here hx rfl (hb hby d19_53) rfl k)))))))))))) ?_
  refine GoesW.pre (U' := T30.setTop (mkF m 58 #[.val (.ref a), .val (.ref dd), .val (.long ((x12_.toUInt64 >>> ((5 : Int32) &&& 0x3f).toInt64.toUInt64).toInt64)), .second, .val (.long (((y12_.toUInt64 >>> ((5 : Int32) &&& 0x3f).toInt64.toUInt64).toInt64) ||| (x12_ <<< ((59 : Int32) &&& 0x3f).toInt64))), .second, .val (.int ((13 : Int32) + (-1 : Int32)))] [])) (fun t k => XS.lstoreN X30.here hx rfl (hb hby d19_54) rfl (l' := #[.val (.ref a), .val (.ref dd), .val (.long ((x12_.toUInt64 >>> ((5 : Int32) &&& 0x3f).toInt64.toUInt64).toInt64)), .second, .val (.long (((y12_.toUInt64 >>> ((5 : Int32) &&& 0x3f).toInt64.toUInt64).toInt64) ||| (x12_ <<< ((59 : Int32) &&& 0x3f).toInt64))), .second, .val (.int (13 : Int32))]) rfl (XT.iincV X30.here hx rfl (-1 : Int32) (hb hby d19_55) (by decide) rfl (l' := #[.val (.ref a), .val (.ref dd), .val (.long ((x12_.toUInt64 >>> ((5 : Int32) &&& 0x3f).toInt64.toUInt64).toInt64)), .second, .val (.long (((y12_.toUInt64 >>> ((5 : Int32) &&& 0x3f).toInt64.toUInt64).toInt64) ||| (x12_ <<< ((59 : Int32) &&& 0x3f).toInt64))), .second, .val (.int ((13 : Int32) + (-1 : Int32)))]) rfl k)) ?_
  rw [(by decide : ((13 : Int32) + (-1 : Int32)) = (12 : Int32))]
  refine GoesW.pre (U' := T30.setTop (mkF m 20 #[.val (.ref a), .val (.ref dd), .val (.long ((x12_.toUInt64 >>> ((5 : Int32) &&& 0x3f).toInt64.toUInt64).toInt64)), .second, .val (.long (((y12_.toUInt64 >>> ((5 : Int32) &&& 0x3f).toInt64.toUInt64).toInt64) ||| (x12_ <<< ((59 : Int32) &&& 0x3f).toInt64))), .second, .val (.int (12 : Int32))] [])) (fun t k => XS.goto X30.here hx rfl (pc0 := 58) (pc' := 20) rfl (hb hby d19_58) (by decide) (by decide) k) ?_
  obtain ⟨x13_, hx13_⟩ : ∃ z, z = ((x12_.toUInt64 >>> ((5 : Int32) &&& 0x3f).toInt64.toUInt64).toInt64) := ⟨_, rfl⟩
  obtain ⟨y13_, hy13_⟩ : ∃ z, z = (((y12_.toUInt64 >>> ((5 : Int32) &&& 0x3f).toInt64.toUInt64).toInt64) ||| (x12_ <<< ((59 : Int32) &&& 0x3f).toInt64)) := ⟨_, rfl⟩
  rw [← hx13_, ← hy13_]
  have eq13_ : own_q hq lq 13 = (x13_, y13_) := (own_qs hq lq 12).trans (by rw [eq12_, hx13_, hy13_]; rfl)
  refine GoesW.pre (U' := T30.setTop (mkF m 22 #[.val (.ref a), .val (.ref dd), .val (.long x13_), .second, .val (.long y13_), .second, .val (.int (12 : Int32))] [(.int (12 : Int32))])) (fun t k => XS.iload X30.here hx rfl (hb hby d19_20) rfl k) ?_
  have hc22 : ¬ ((12 : Int32) < (0 : Int32)) := by decide
  refine GoesW.pre (U' := T30.setTop (mkF m 36 #[.val (.ref a), .val (.ref dd), .val (.long x13_), .second, .val (.long y13_), .second, .val (.int (12 : Int32))] [(.int ((y13_.toInt32) &&& (31 : Int32))), (.ref ls4), (.int (12 : Int32)), (.ref dd)])) (fun t k => XS.ifNo X30.here hx rfl (hb hby d19_22) rfl ((if0 _ _).trans (flt hc22).1) (XS.aloadN X30.here hx rfl (hb hby d19_25) rfl rfl (XS.iload X30.here hx rfl (hb hby d19_26) rfl (ldcAgain X30 hx hZ hown (wq hw 103 rfl) Li_ls4 (g := (mkF m 28 #[.val (.ref a), .val (.ref dd), .val (.long x13_), .second, .val (.long y13_), .second, .val (.int (12 : Int32))] [(.int (12 : Int32)), (.ref dd)])) rfl (hb hby d19_28) t (XS.lload X30.here hx rfl (hb hby d19_30) rfl (XS.l2i X30.here hx rfl (hb hby d19_32) rfl (XS.bipush X30.here hx rfl (hb hby d19_33) (XS.iand X30.here hx rfl (hb hby d19_35) rfl k)))))))) ?_
  obtain ⟨cq31, kq31, q31a, q31b, q31c⟩ := isOf hZ e30 S_ls4.1
  obtain ⟨_, _, ⟨T31, L31, k31, n31⟩, -, X31, ⟨Lc31, hQ31, l31, y31, z31⟩, st31⟩ := X30.virtualBack hx (y := (⟨"java/lang/String", "charAt", "(I)C"⟩ : MethodName)) (z := (⟨"java/lang/String", "charAt", "(I)C"⟩ : MethodName)) hown (mvT hZ (wq hw 78 rfl)) (mvT hZ (wq hw 15 rfl)) (notFace_of_selects (args := #[]) (mvT hZ (wq hw 17 rfl))) (mvT hZ (wq hw 17 rfl)) (mvT hZ (wq hw 16 rfl)) (by decide) (backOf (W := 2) (rm_chG l Z a0 hw [] ls4 lb4 kl4 own_lit ((y13_.toInt32) &&& (31 : Int32)) cs sf h30 n0 Z30 S_ls4 S_COMPACT_STRINGS S_SIOOBE_FORMATTER (own_a31 _).1 (own_a31 _).2 (by decide) hcs hsf O) hZ (wq hw 18 rfl) (wq hw 7 rfl) (by decide) (by decide)) q31a q31c (g := (mkF m 36 #[.val (.ref a), .val (.ref dd), .val (.long x13_), .second, .val (.long y13_), .second, .val (.int (12 : Int32))] [(.int ((y13_.toInt32) &&& (31 : Int32))), (.ref ls4), (.int (12 : Int32)), (.ref dd)])) rfl (by rw [hml]; rfl) (Steps.refl _) (argsL := [(.int ((y13_.toInt32) &&& (31 : Int32)))]) (rest := [(.int (12 : Int32)), (.ref dd)]) (lenOf pd__28I_29C rfl) rfl (by show 2 * 0 + _ ≤ _; exact Nat.le_of_eq rfl) (hb hby d19_36) (fun _ _ => ⟨rfl, e30, (by decide : 3 + 0 ≤ _), (by decide : 158 + 0 ≤ _)⟩)
  dsimp only [Pt.U, Pt.locs, Pt.cells, Pt.slots] at X31 l31 y31 z31 st31 hQ31
  rw [l31, y31, z31] at X31
  obtain ⟨rfl, N31q, HQ31⟩ := hQ31
  have N31 := Fr.app N30 N31q
  refine GoesW.pre (U' := T31.setTop (mkF m 39 #[.val (.ref a), .val (.ref dd), .val (.long x13_), .second, .val (.long y13_), .second, .val (.int (12 : Int32))] [(.int (own_lit.getD ((y13_.toInt32) &&& (31 : Int32)).toNatClampNeg 0)), (.int (12 : Int32)), (.ref dd)])) (fun t k => st31.trans k) ?_
  obtain ⟨cl32, Ar32, q32, Sz32, Ng32, Hs32, Ft32⟩ := id V_dd
  obtain ⟨T32, h32, X32, e32, W32, st32⟩ := stC X31 hx hZ HQ31 Ar32 (j := (12 : Int32)) (inb_of Sz32 ⟨by decide, by decide⟩) (g := (mkF m 39 #[.val (.ref a), .val (.ref dd), .val (.long x13_), .second, .val (.long y13_), .second, .val (.int (12 : Int32))] [(.int (own_lit.getD ((y13_.toInt32) &&& (31 : Int32)).toNatClampNeg 0)), (.int (12 : Int32)), (.ref dd)])) rfl rfl (hb hby d19_39)
  have nr32 : nar .char (own_lit.getD ((y13_.toInt32) &&& (31 : Int32)).toNatClampNeg 0) = (own_dc ((y13_.toInt32) &&& (31 : Int32))) := own_nch _ (own_lit_ch _)
  have ft32 : fits .char (.int (own_dc ((y13_.toInt32) &&& (31 : Int32)))) = true := nr32 ▸ (fits_nar_char (own_lit.getD ((y13_.toInt32) &&& (31 : Int32)).toNatClampNeg 0) : fits .char (.int (nar .char (own_lit.getD ((y13_.toInt32) &&& (31 : Int32)).toNatClampNeg 0))) = true)
  rw [nr32] at W32
  have F_high_a := F_high_a.other W32 (Or.inl ne_a_dd)
  have F_low_a := F_low_a.other W32 (Or.inl ne_a_dd)
  have E_dd := E_dd.wr W32
  have S_ls4 := S_ls4.keep (Keep.of_wr W32) (ninS ne_ls4_dd nin0) (ninS ne_lb4_dd nin0)
  have Z32 : n0 ≤ h32.size := Nat.le_trans Z30 (Keep.of_wr W32).1
  have O := O.wr W32 g_dd
  have SFo := SF_dd
  have SF_dd := Safe.wr W32 SFo H SF_dd
  have CR := CR.trans (CHr.wr W32 SFo H)
  have H := H.wr W32 SFo
  have hk := Nat.le_trans hk (Keep.of_wr W32).1
  have V_dd : Arv Z h32 dd k1 .char (26 : Int32) [(.int (0 : Int32)), (.int (0 : Int32)), (.int (0 : Int32)), (.int (0 : Int32)), (.int (0 : Int32)), (.int (0 : Int32)), (.int (0 : Int32)), (.int (0 : Int32)), (.int (0 : Int32)), (.int (0 : Int32)), (.int (0 : Int32)), (.int (0 : Int32)), (.int (own_dc ((y13_.toInt32) &&& (31 : Int32)))), (.int (own_dc ((y12_.toInt32) &&& (31 : Int32)))), (.int (own_dc ((y11_.toInt32) &&& (31 : Int32)))), (.int (own_dc ((y10_.toInt32) &&& (31 : Int32)))), (.int (own_dc ((y9_.toInt32) &&& (31 : Int32)))), (.int (own_dc ((y8_.toInt32) &&& (31 : Int32)))), (.int (own_dc ((y7_.toInt32) &&& (31 : Int32)))), (.int (own_dc ((y6_.toInt32) &&& (31 : Int32)))), (.int (own_dc ((y5_.toInt32) &&& (31 : Int32)))), (.int (own_dc ((y4_.toInt32) &&& (31 : Int32)))), (.int (own_dc ((y3_.toInt32) &&& (31 : Int32)))), (.int (own_dc ((y2_.toInt32) &&& (31 : Int32)))), (.int (own_dc ((y1_.toInt32) &&& (31 : Int32)))), (.int (own_dc ((lq.toInt32) &&& (31 : Int32))))] (.int (0 : Int32)) := Arv.set Ar32 q32 Sz32 Ng32 Hs32 Ft32 ft32 W32 12 rfl (Nat.le_of_ble_eq_true rfl)
  have K32 := K30.wr W32 (Or.inr sz_dd)
  have N32 := Fr.snoc X32 N31 g_dd
  refine GoesW.pre (U' := T32.setTop (mkF m 54 #[.val (.ref a), .val (.ref dd), .val (.long x13_), .second, .val (.long (((y13_.toUInt64 >>> ((5 : Int32) &&& 0x3f).toInt64.toUInt64).toInt64) ||| (x13_ <<< ((59 : Int32) &&& 0x3f).toInt64))), .second, .val (.int (12 : Int32))] [(.long ((x13_.toUInt64 >>> ((5 : Int32) &&& 0x3f).toInt64.toUInt64).toInt64))])) (fun t k => st32 t (XS.lload X32.here hx rfl (hb hby d19_40) rfl (XS.iconst X32.here hx rfl (hb hby d19_42) (XS.lushr X32.here hx rfl (hb hby d19_43) rfl (XS.lloadN X32.here hx rfl (hb hby d19_44) rfl (XS.bipush X32.here hx rfl (hb hby d19_45) (XS.lshl X32.here hx rfl (hb hby d19_47) rfl (XS.lor X32.here hx rfl (hb hby d19_48) rfl (XS.lstore X32.here hx rfl (hb hby d19_49) rfl (l' := #[.val (.ref a), .val (.ref dd), .val (.long x13_), .second, .val (.long (((y13_.toUInt64 >>> ((5 : Int32) &&& 0x3f).toInt64.toUInt64).toInt64) ||| (x13_ <<< ((59 : Int32) &&& 0x3f).toInt64))), .second, .val (.int (12 : Int32))]) rfl (XS.lloadN X32.here hx rfl (hb hby d19_51) rfl (XS.iconst X32.here hx rfl (hb hby d19_52) (XS.lushr X32.here hx rfl (hb hby d19_53) rfl k)))))))))))) ?_
  refine GoesW.pre (U' := T32.setTop (mkF m 58 #[.val (.ref a), .val (.ref dd), .val (.long ((x13_.toUInt64 >>> ((5 : Int32) &&& 0x3f).toInt64.toUInt64).toInt64)), .second, .val (.long (((y13_.toUInt64 >>> ((5 : Int32) &&& 0x3f).toInt64.toUInt64).toInt64) ||| (x13_ <<< ((59 : Int32) &&& 0x3f).toInt64))), .second, .val (.int ((12 : Int32) + (-1 : Int32)))] [])) (fun t k => XS.lstoreN X32.here hx rfl (hb hby d19_54) rfl (l' := #[.val (.ref a), .val (.ref dd), .val (.long ((x13_.toUInt64 >>> ((5 : Int32) &&& 0x3f).toInt64.toUInt64).toInt64)), .second, .val (.long (((y13_.toUInt64 >>> ((5 : Int32) &&& 0x3f).toInt64.toUInt64).toInt64) ||| (x13_ <<< ((59 : Int32) &&& 0x3f).toInt64))), .second, .val (.int (12 : Int32))]) rfl (XT.iincV X32.here hx rfl (-1 : Int32) (hb hby d19_55) (by decide) rfl (l' := #[.val (.ref a), .val (.ref dd), .val (.long ((x13_.toUInt64 >>> ((5 : Int32) &&& 0x3f).toInt64.toUInt64).toInt64)), .second, .val (.long (((y13_.toUInt64 >>> ((5 : Int32) &&& 0x3f).toInt64.toUInt64).toInt64) ||| (x13_ <<< ((59 : Int32) &&& 0x3f).toInt64))), .second, .val (.int ((12 : Int32) + (-1 : Int32)))]) rfl k)) ?_
  rw [(by decide : ((12 : Int32) + (-1 : Int32)) = (11 : Int32))]
  refine GoesW.pre (U' := T32.setTop (mkF m 20 #[.val (.ref a), .val (.ref dd), .val (.long ((x13_.toUInt64 >>> ((5 : Int32) &&& 0x3f).toInt64.toUInt64).toInt64)), .second, .val (.long (((y13_.toUInt64 >>> ((5 : Int32) &&& 0x3f).toInt64.toUInt64).toInt64) ||| (x13_ <<< ((59 : Int32) &&& 0x3f).toInt64))), .second, .val (.int (11 : Int32))] [])) (fun t k => XS.goto X32.here hx rfl (pc0 := 58) (pc' := 20) rfl (hb hby d19_58) (by decide) (by decide) k) ?_
  obtain ⟨x14_, hx14_⟩ : ∃ z, z = ((x13_.toUInt64 >>> ((5 : Int32) &&& 0x3f).toInt64.toUInt64).toInt64) := ⟨_, rfl⟩
  obtain ⟨y14_, hy14_⟩ : ∃ z, z = (((y13_.toUInt64 >>> ((5 : Int32) &&& 0x3f).toInt64.toUInt64).toInt64) ||| (x13_ <<< ((59 : Int32) &&& 0x3f).toInt64)) := ⟨_, rfl⟩
  rw [← hx14_, ← hy14_]
  have eq14_ : own_q hq lq 14 = (x14_, y14_) := (own_qs hq lq 13).trans (by rw [eq13_, hx14_, hy14_]; rfl)
  refine GoesW.pre (U' := T32.setTop (mkF m 22 #[.val (.ref a), .val (.ref dd), .val (.long x14_), .second, .val (.long y14_), .second, .val (.int (11 : Int32))] [(.int (11 : Int32))])) (fun t k => XS.iload X32.here hx rfl (hb hby d19_20) rfl k) ?_
  have hc22 : ¬ ((11 : Int32) < (0 : Int32)) := by decide
  refine GoesW.pre (U' := T32.setTop (mkF m 36 #[.val (.ref a), .val (.ref dd), .val (.long x14_), .second, .val (.long y14_), .second, .val (.int (11 : Int32))] [(.int ((y14_.toInt32) &&& (31 : Int32))), (.ref ls4), (.int (11 : Int32)), (.ref dd)])) (fun t k => XS.ifNo X32.here hx rfl (hb hby d19_22) rfl ((if0 _ _).trans (flt hc22).1) (XS.aloadN X32.here hx rfl (hb hby d19_25) rfl rfl (XS.iload X32.here hx rfl (hb hby d19_26) rfl (ldcAgain X32 hx hZ hown (wq hw 103 rfl) Li_ls4 (g := (mkF m 28 #[.val (.ref a), .val (.ref dd), .val (.long x14_), .second, .val (.long y14_), .second, .val (.int (11 : Int32))] [(.int (11 : Int32)), (.ref dd)])) rfl (hb hby d19_28) t (XS.lload X32.here hx rfl (hb hby d19_30) rfl (XS.l2i X32.here hx rfl (hb hby d19_32) rfl (XS.bipush X32.here hx rfl (hb hby d19_33) (XS.iand X32.here hx rfl (hb hby d19_35) rfl k)))))))) ?_
  obtain ⟨cq33, kq33, q33a, q33b, q33c⟩ := isOf hZ e32 S_ls4.1
  obtain ⟨_, _, ⟨T33, L33, k33, n33⟩, -, X33, ⟨Lc33, hQ33, l33, y33, z33⟩, st33⟩ := X32.virtualBack hx (y := (⟨"java/lang/String", "charAt", "(I)C"⟩ : MethodName)) (z := (⟨"java/lang/String", "charAt", "(I)C"⟩ : MethodName)) hown (mvT hZ (wq hw 78 rfl)) (mvT hZ (wq hw 15 rfl)) (notFace_of_selects (args := #[]) (mvT hZ (wq hw 17 rfl))) (mvT hZ (wq hw 17 rfl)) (mvT hZ (wq hw 16 rfl)) (by decide) (backOf (W := 2) (rm_chG l Z a0 hw [] ls4 lb4 kl4 own_lit ((y14_.toInt32) &&& (31 : Int32)) cs sf h32 n0 Z32 S_ls4 S_COMPACT_STRINGS S_SIOOBE_FORMATTER (own_a31 _).1 (own_a31 _).2 (by decide) hcs hsf O) hZ (wq hw 18 rfl) (wq hw 7 rfl) (by decide) (by decide)) q33a q33c (g := (mkF m 36 #[.val (.ref a), .val (.ref dd), .val (.long x14_), .second, .val (.long y14_), .second, .val (.int (11 : Int32))] [(.int ((y14_.toInt32) &&& (31 : Int32))), (.ref ls4), (.int (11 : Int32)), (.ref dd)])) rfl (by rw [hml]; rfl) (Steps.refl _) (argsL := [(.int ((y14_.toInt32) &&& (31 : Int32)))]) (rest := [(.int (11 : Int32)), (.ref dd)]) (lenOf pd__28I_29C rfl) rfl (by show 2 * 0 + _ ≤ _; exact Nat.le_of_eq rfl) (hb hby d19_36) (fun _ _ => ⟨rfl, e32, (by decide : 3 + 0 ≤ _), (by decide : 158 + 0 ≤ _)⟩)
  dsimp only [Pt.U, Pt.locs, Pt.cells, Pt.slots] at X33 l33 y33 z33 st33 hQ33
  rw [l33, y33, z33] at X33
  obtain ⟨rfl, N33q, HQ33⟩ := hQ33
  have N33 := Fr.app N32 N33q
  refine GoesW.pre (U' := T33.setTop (mkF m 39 #[.val (.ref a), .val (.ref dd), .val (.long x14_), .second, .val (.long y14_), .second, .val (.int (11 : Int32))] [(.int (own_lit.getD ((y14_.toInt32) &&& (31 : Int32)).toNatClampNeg 0)), (.int (11 : Int32)), (.ref dd)])) (fun t k => st33.trans k) ?_
  obtain ⟨cl34, Ar34, q34, Sz34, Ng34, Hs34, Ft34⟩ := id V_dd
  obtain ⟨T34, h34, X34, e34, W34, st34⟩ := stC X33 hx hZ HQ33 Ar34 (j := (11 : Int32)) (inb_of Sz34 ⟨by decide, by decide⟩) (g := (mkF m 39 #[.val (.ref a), .val (.ref dd), .val (.long x14_), .second, .val (.long y14_), .second, .val (.int (11 : Int32))] [(.int (own_lit.getD ((y14_.toInt32) &&& (31 : Int32)).toNatClampNeg 0)), (.int (11 : Int32)), (.ref dd)])) rfl rfl (hb hby d19_39)
  have nr34 : nar .char (own_lit.getD ((y14_.toInt32) &&& (31 : Int32)).toNatClampNeg 0) = (own_dc ((y14_.toInt32) &&& (31 : Int32))) := own_nch _ (own_lit_ch _)
  have ft34 : fits .char (.int (own_dc ((y14_.toInt32) &&& (31 : Int32)))) = true := nr34 ▸ (fits_nar_char (own_lit.getD ((y14_.toInt32) &&& (31 : Int32)).toNatClampNeg 0) : fits .char (.int (nar .char (own_lit.getD ((y14_.toInt32) &&& (31 : Int32)).toNatClampNeg 0))) = true)
  rw [nr34] at W34
  have F_high_a := F_high_a.other W34 (Or.inl ne_a_dd)
  have F_low_a := F_low_a.other W34 (Or.inl ne_a_dd)
  have E_dd := E_dd.wr W34
  have S_ls4 := S_ls4.keep (Keep.of_wr W34) (ninS ne_ls4_dd nin0) (ninS ne_lb4_dd nin0)
  have Z34 : n0 ≤ h34.size := Nat.le_trans Z32 (Keep.of_wr W34).1
  have O := O.wr W34 g_dd
  have SFo := SF_dd
  have SF_dd := Safe.wr W34 SFo H SF_dd
  have CR := CR.trans (CHr.wr W34 SFo H)
  have H := H.wr W34 SFo
  have hk := Nat.le_trans hk (Keep.of_wr W34).1
  have V_dd : Arv Z h34 dd k1 .char (26 : Int32) [(.int (0 : Int32)), (.int (0 : Int32)), (.int (0 : Int32)), (.int (0 : Int32)), (.int (0 : Int32)), (.int (0 : Int32)), (.int (0 : Int32)), (.int (0 : Int32)), (.int (0 : Int32)), (.int (0 : Int32)), (.int (0 : Int32)), (.int (own_dc ((y14_.toInt32) &&& (31 : Int32)))), (.int (own_dc ((y13_.toInt32) &&& (31 : Int32)))), (.int (own_dc ((y12_.toInt32) &&& (31 : Int32)))), (.int (own_dc ((y11_.toInt32) &&& (31 : Int32)))), (.int (own_dc ((y10_.toInt32) &&& (31 : Int32)))), (.int (own_dc ((y9_.toInt32) &&& (31 : Int32)))), (.int (own_dc ((y8_.toInt32) &&& (31 : Int32)))), (.int (own_dc ((y7_.toInt32) &&& (31 : Int32)))), (.int (own_dc ((y6_.toInt32) &&& (31 : Int32)))), (.int (own_dc ((y5_.toInt32) &&& (31 : Int32)))), (.int (own_dc ((y4_.toInt32) &&& (31 : Int32)))), (.int (own_dc ((y3_.toInt32) &&& (31 : Int32)))), (.int (own_dc ((y2_.toInt32) &&& (31 : Int32)))), (.int (own_dc ((y1_.toInt32) &&& (31 : Int32)))), (.int (own_dc ((lq.toInt32) &&& (31 : Int32))))] (.int (0 : Int32)) := Arv.set Ar34 q34 Sz34 Ng34 Hs34 Ft34 ft34 W34 11 rfl (Nat.le_of_ble_eq_true rfl)
  have K34 := K32.wr W34 (Or.inr sz_dd)
  have N34 := Fr.snoc X34 N33 g_dd
  refine GoesW.pre (U' := T34.setTop (mkF m 54 #[.val (.ref a), .val (.ref dd), .val (.long x14_), .second, .val (.long (((y14_.toUInt64 >>> ((5 : Int32) &&& 0x3f).toInt64.toUInt64).toInt64) ||| (x14_ <<< ((59 : Int32) &&& 0x3f).toInt64))), .second, .val (.int (11 : Int32))] [(.long ((x14_.toUInt64 >>> ((5 : Int32) &&& 0x3f).toInt64.toUInt64).toInt64))])) (fun t k => st34 t (XS.lload X34.here hx rfl (hb hby d19_40) rfl (XS.iconst X34.here hx rfl (hb hby d19_42) (XS.lushr X34.here hx rfl (hb hby d19_43) rfl (XS.lloadN X34.here hx rfl (hb hby d19_44) rfl (XS.bipush X34.here hx rfl (hb hby d19_45) (XS.lshl X34.here hx rfl (hb hby d19_47) rfl (XS.lor X34.here hx rfl (hb hby d19_48) rfl (XS.lstore X34.here hx rfl (hb hby d19_49) rfl (l' := #[.val (.ref a), .val (.ref dd), .val (.long x14_), .second, .val (.long (((y14_.toUInt64 >>> ((5 : Int32) &&& 0x3f).toInt64.toUInt64).toInt64) ||| (x14_ <<< ((59 : Int32) &&& 0x3f).toInt64))), .second, .val (.int (11 : Int32))]) rfl (XS.lloadN X34.here hx rfl (hb hby d19_51) rfl (XS.iconst X34.here hx rfl (hb hby d19_52) (XS.lushr X34.here hx rfl (hb hby d19_53) rfl k)))))))))))) ?_
  refine GoesW.pre (U' := T34.setTop (mkF m 58 #[.val (.ref a), .val (.ref dd), .val (.long ((x14_.toUInt64 >>> ((5 : Int32) &&& 0x3f).toInt64.toUInt64).toInt64)), .second, .val (.long (((y14_.toUInt64 >>> ((5 : Int32) &&& 0x3f).toInt64.toUInt64).toInt64) ||| (x14_ <<< ((59 : Int32) &&& 0x3f).toInt64))), .second, .val (.int ((11 : Int32) + (-1 : Int32)))] [])) (fun t k => XS.lstoreN X34.here hx rfl (hb hby d19_54) rfl (l' := #[.val (.ref a), .val (.ref dd), .val (.long ((x14_.toUInt64 >>> ((5 : Int32) &&& 0x3f).toInt64.toUInt64).toInt64)), .second, .val (.long (((y14_.toUInt64 >>> ((5 : Int32) &&& 0x3f).toInt64.toUInt64).toInt64) ||| (x14_ <<< ((59 : Int32) &&& 0x3f).toInt64))), .second, .val (.int (11 : Int32))]) rfl (XT.iincV X34.here hx rfl (-1 : Int32) (hb hby d19_55) (by decide) rfl (l' := #[.val (.ref a), .val (.ref dd), .val (.long ((x14_.toUInt64 >>> ((5 : Int32) &&& 0x3f).toInt64.toUInt64).toInt64)), .second, .val (.long (((y14_.toUInt64 >>> ((5 : Int32) &&& 0x3f).toInt64.toUInt64).toInt64) ||| (x14_ <<< ((59 : Int32) &&& 0x3f).toInt64))), .second, .val (.int ((11 : Int32) + (-1 : Int32)))]) rfl k)) ?_
  rw [(by decide : ((11 : Int32) + (-1 : Int32)) = (10 : Int32))]
  refine GoesW.pre (U' := T34.setTop (mkF m 20 #[.val (.ref a), .val (.ref dd), .val (.long ((x14_.toUInt64 >>> ((5 : Int32) &&& 0x3f).toInt64.toUInt64).toInt64)), .second, .val (.long (((y14_.toUInt64 >>> ((5 : Int32) &&& 0x3f).toInt64.toUInt64).toInt64) ||| (x14_ <<< ((59 : Int32) &&& 0x3f).toInt64))), .second, .val (.int (10 : Int32))] [])) (fun t k => XS.goto X34.here hx rfl (pc0 := 58) (pc' := 20) rfl (hb hby d19_58) (by decide) (by decide) k) ?_
  obtain ⟨x15_, hx15_⟩ : ∃ z, z = ((x14_.toUInt64 >>> ((5 : Int32) &&& 0x3f).toInt64.toUInt64).toInt64) := ⟨_, rfl⟩
  obtain ⟨y15_, hy15_⟩ : ∃ z, z = (((y14_.toUInt64 >>> ((5 : Int32) &&& 0x3f).toInt64.toUInt64).toInt64) ||| (x14_ <<< ((59 : Int32) &&& 0x3f).toInt64)) := ⟨_, rfl⟩
  rw [← hx15_, ← hy15_]
  have eq15_ : own_q hq lq 15 = (x15_, y15_) := (own_qs hq lq 14).trans (by rw [eq14_, hx15_, hy15_]; rfl)
  refine GoesW.pre (U' := T34.setTop (mkF m 22 #[.val (.ref a), .val (.ref dd), .val (.long x15_), .second, .val (.long y15_), .second, .val (.int (10 : Int32))] [(.int (10 : Int32))])) (fun t k => XS.iload X34.here hx rfl (hb hby d19_20) rfl k) ?_
  have hc22 : ¬ ((10 : Int32) < (0 : Int32)) := by decide
  refine GoesW.pre (U' := T34.setTop (mkF m 36 #[.val (.ref a), .val (.ref dd), .val (.long x15_), .second, .val (.long y15_), .second, .val (.int (10 : Int32))] [(.int ((y15_.toInt32) &&& (31 : Int32))), (.ref ls4), (.int (10 : Int32)), (.ref dd)])) (fun t k => XS.ifNo X34.here hx rfl (hb hby d19_22) rfl ((if0 _ _).trans (flt hc22).1) (XS.aloadN X34.here hx rfl (hb hby d19_25) rfl rfl (XS.iload X34.here hx rfl (hb hby d19_26) rfl (ldcAgain X34 hx hZ hown (wq hw 103 rfl) Li_ls4 (g := (mkF m 28 #[.val (.ref a), .val (.ref dd), .val (.long x15_), .second, .val (.long y15_), .second, .val (.int (10 : Int32))] [(.int (10 : Int32)), (.ref dd)])) rfl (hb hby d19_28) t (XS.lload X34.here hx rfl (hb hby d19_30) rfl (XS.l2i X34.here hx rfl (hb hby d19_32) rfl (XS.bipush X34.here hx rfl (hb hby d19_33) (XS.iand X34.here hx rfl (hb hby d19_35) rfl k)))))))) ?_
  obtain ⟨cq35, kq35, q35a, q35b, q35c⟩ := isOf hZ e34 S_ls4.1
  obtain ⟨_, _, ⟨T35, L35, k35, n35⟩, -, X35, ⟨Lc35, hQ35, l35, y35, z35⟩, st35⟩ := X34.virtualBack hx (y := (⟨"java/lang/String", "charAt", "(I)C"⟩ : MethodName)) (z := (⟨"java/lang/String", "charAt", "(I)C"⟩ : MethodName)) hown (mvT hZ (wq hw 78 rfl)) (mvT hZ (wq hw 15 rfl)) (notFace_of_selects (args := #[]) (mvT hZ (wq hw 17 rfl))) (mvT hZ (wq hw 17 rfl)) (mvT hZ (wq hw 16 rfl)) (by decide) (backOf (W := 2) (rm_chG l Z a0 hw [] ls4 lb4 kl4 own_lit ((y15_.toInt32) &&& (31 : Int32)) cs sf h34 n0 Z34 S_ls4 S_COMPACT_STRINGS S_SIOOBE_FORMATTER (own_a31 _).1 (own_a31 _).2 (by decide) hcs hsf O) hZ (wq hw 18 rfl) (wq hw 7 rfl) (by decide) (by decide)) q35a q35c (g := (mkF m 36 #[.val (.ref a), .val (.ref dd), .val (.long x15_), .second, .val (.long y15_), .second, .val (.int (10 : Int32))] [(.int ((y15_.toInt32) &&& (31 : Int32))), (.ref ls4), (.int (10 : Int32)), (.ref dd)])) rfl (by rw [hml]; rfl) (Steps.refl _) (argsL := [(.int ((y15_.toInt32) &&& (31 : Int32)))]) (rest := [(.int (10 : Int32)), (.ref dd)]) (lenOf pd__28I_29C rfl) rfl (by show 2 * 0 + _ ≤ _; exact Nat.le_of_eq rfl) (hb hby d19_36) (fun _ _ => ⟨rfl, e34, (by decide : 3 + 0 ≤ _), (by decide : 158 + 0 ≤ _)⟩)
  dsimp only [Pt.U, Pt.locs, Pt.cells, Pt.slots] at X35 l35 y35 z35 st35 hQ35
  rw [l35, y35, z35] at X35
  obtain ⟨rfl, N35q, HQ35⟩ := hQ35
  have N35 := Fr.app N34 N35q
  refine GoesW.pre (U' := T35.setTop (mkF m 39 #[.val (.ref a), .val (.ref dd), .val (.long x15_), .second, .val (.long y15_), .second, .val (.int (10 : Int32))] [(.int (own_lit.getD ((y15_.toInt32) &&& (31 : Int32)).toNatClampNeg 0)), (.int (10 : Int32)), (.ref dd)])) (fun t k => st35.trans k) ?_
  obtain ⟨cl36, Ar36, q36, Sz36, Ng36, Hs36, Ft36⟩ := id V_dd
  obtain ⟨T36, h36, X36, e36, W36, st36⟩ := stC X35 hx hZ HQ35 Ar36 (j := (10 : Int32)) (inb_of Sz36 ⟨by decide, by decide⟩) (g := (mkF m 39 #[.val (.ref a), .val (.ref dd), .val (.long x15_), .second, .val (.long y15_), .second, .val (.int (10 : Int32))] [(.int (own_lit.getD ((y15_.toInt32) &&& (31 : Int32)).toNatClampNeg 0)), (.int (10 : Int32)), (.ref dd)])) rfl rfl (hb hby d19_39)
  have nr36 : nar .char (own_lit.getD ((y15_.toInt32) &&& (31 : Int32)).toNatClampNeg 0) = (own_dc ((y15_.toInt32) &&& (31 : Int32))) := own_nch _ (own_lit_ch _)
  have ft36 : fits .char (.int (own_dc ((y15_.toInt32) &&& (31 : Int32)))) = true := nr36 ▸ (fits_nar_char (own_lit.getD ((y15_.toInt32) &&& (31 : Int32)).toNatClampNeg 0) : fits .char (.int (nar .char (own_lit.getD ((y15_.toInt32) &&& (31 : Int32)).toNatClampNeg 0))) = true)
  rw [nr36] at W36
  have F_high_a := F_high_a.other W36 (Or.inl ne_a_dd)
  have F_low_a := F_low_a.other W36 (Or.inl ne_a_dd)
  have E_dd := E_dd.wr W36
  have S_ls4 := S_ls4.keep (Keep.of_wr W36) (ninS ne_ls4_dd nin0) (ninS ne_lb4_dd nin0)
  have Z36 : n0 ≤ h36.size := Nat.le_trans Z34 (Keep.of_wr W36).1
  have O := O.wr W36 g_dd
  have SFo := SF_dd
  have SF_dd := Safe.wr W36 SFo H SF_dd
  have CR := CR.trans (CHr.wr W36 SFo H)
  have H := H.wr W36 SFo
  have hk := Nat.le_trans hk (Keep.of_wr W36).1
  have V_dd : Arv Z h36 dd k1 .char (26 : Int32) [(.int (0 : Int32)), (.int (0 : Int32)), (.int (0 : Int32)), (.int (0 : Int32)), (.int (0 : Int32)), (.int (0 : Int32)), (.int (0 : Int32)), (.int (0 : Int32)), (.int (0 : Int32)), (.int (0 : Int32)), (.int (own_dc ((y15_.toInt32) &&& (31 : Int32)))), (.int (own_dc ((y14_.toInt32) &&& (31 : Int32)))), (.int (own_dc ((y13_.toInt32) &&& (31 : Int32)))), (.int (own_dc ((y12_.toInt32) &&& (31 : Int32)))), (.int (own_dc ((y11_.toInt32) &&& (31 : Int32)))), (.int (own_dc ((y10_.toInt32) &&& (31 : Int32)))), (.int (own_dc ((y9_.toInt32) &&& (31 : Int32)))), (.int (own_dc ((y8_.toInt32) &&& (31 : Int32)))), (.int (own_dc ((y7_.toInt32) &&& (31 : Int32)))), (.int (own_dc ((y6_.toInt32) &&& (31 : Int32)))), (.int (own_dc ((y5_.toInt32) &&& (31 : Int32)))), (.int (own_dc ((y4_.toInt32) &&& (31 : Int32)))), (.int (own_dc ((y3_.toInt32) &&& (31 : Int32)))), (.int (own_dc ((y2_.toInt32) &&& (31 : Int32)))), (.int (own_dc ((y1_.toInt32) &&& (31 : Int32)))), (.int (own_dc ((lq.toInt32) &&& (31 : Int32))))] (.int (0 : Int32)) := Arv.set Ar36 q36 Sz36 Ng36 Hs36 Ft36 ft36 W36 10 rfl (Nat.le_of_ble_eq_true rfl)
  have K36 := K34.wr W36 (Or.inr sz_dd)
  have N36 := Fr.snoc X36 N35 g_dd
  refine GoesW.pre (U' := T36.setTop (mkF m 54 #[.val (.ref a), .val (.ref dd), .val (.long x15_), .second, .val (.long (((y15_.toUInt64 >>> ((5 : Int32) &&& 0x3f).toInt64.toUInt64).toInt64) ||| (x15_ <<< ((59 : Int32) &&& 0x3f).toInt64))), .second, .val (.int (10 : Int32))] [(.long ((x15_.toUInt64 >>> ((5 : Int32) &&& 0x3f).toInt64.toUInt64).toInt64))])) (fun t k => st36 t (XS.lload X36.here hx rfl (hb hby d19_40) rfl (XS.iconst X36.here hx rfl (hb hby d19_42) (XS.lushr X36.here hx rfl (hb hby d19_43) rfl (XS.lloadN X36.here hx rfl (hb hby d19_44) rfl (XS.bipush X36.here hx rfl (hb hby d19_45) (XS.lshl X36.here hx rfl (hb hby d19_47) rfl (XS.lor X36.here hx rfl (hb hby d19_48) rfl (XS.lstore X36.here hx rfl (hb hby d19_49) rfl (l' := #[.val (.ref a), .val (.ref dd), .val (.long x15_), .second, .val (.long (((y15_.toUInt64 >>> ((5 : Int32) &&& 0x3f).toInt64.toUInt64).toInt64) ||| (x15_ <<< ((59 : Int32) &&& 0x3f).toInt64))), .second, .val (.int (10 : Int32))]) rfl (XS.lloadN X36.here hx rfl (hb hby d19_51) rfl (XS.iconst X36.here hx rfl (hb hby d19_52) (XS.lushr X36.here hx rfl (hb hby d19_53) rfl k)))))))))))) ?_
  refine GoesW.pre (U' := T36.setTop (mkF m 58 #[.val (.ref a), .val (.ref dd), .val (.long ((x15_.toUInt64 >>> ((5 : Int32) &&& 0x3f).toInt64.toUInt64).toInt64)), .second, .val (.long (((y15_.toUInt64 >>> ((5 : Int32) &&& 0x3f).toInt64.toUInt64).toInt64) ||| (x15_ <<< ((59 : Int32) &&& 0x3f).toInt64))), .second, .val (.int ((10 : Int32) + (-1 : Int32)))] [])) (fun t k => XS.lstoreN X36.here hx rfl (hb hby d19_54) rfl (l' := #[.val (.ref a), .val (.ref dd), .val (.long ((x15_.toUInt64 >>> ((5 : Int32) &&& 0x3f).toInt64.toUInt64).toInt64)), .second, .val (.long (((y15_.toUInt64 >>> ((5 : Int32) &&& 0x3f).toInt64.toUInt64).toInt64) ||| (x15_ <<< ((59 : Int32) &&& 0x3f).toInt64))), .second, .val (.int (10 : Int32))]) rfl (XT.iincV X36.here hx rfl (-1 : Int32) (hb hby d19_55) (by decide) rfl (l' := #[.val (.ref a), .val (.ref dd), .val (.long ((x15_.toUInt64 >>> ((5 : Int32) &&& 0x3f).toInt64.toUInt64).toInt64)), .second, .val (.long (((y15_.toUInt64 >>> ((5 : Int32) &&& 0x3f).toInt64.toUInt64).toInt64) ||| (x15_ <<< ((59 : Int32) &&& 0x3f).toInt64))), .second, .val (.int ((10 : Int32) + (-1 : Int32)))]) rfl k)) ?_
  rw [(by decide : ((10 : Int32) + (-1 : Int32)) = (9 : Int32))]
  refine GoesW.pre (U' := T36.setTop (mkF m 20 #[.val (.ref a), .val (.ref dd), .val (.long ((x15_.toUInt64 >>> ((5 : Int32) &&& 0x3f).toInt64.toUInt64).toInt64)), .second, .val (.long (((y15_.toUInt64 >>> ((5 : Int32) &&& 0x3f).toInt64.toUInt64).toInt64) ||| (x15_ <<< ((59 : Int32) &&& 0x3f).toInt64))), .second, .val (.int (9 : Int32))] [])) (fun t k => XS.goto X36.here hx rfl (pc0 := 58) (pc' := 20) rfl (hb hby d19_58) (by decide) (by decide) k) ?_
  obtain ⟨x16_, hx16_⟩ : ∃ z, z = ((x15_.toUInt64 >>> ((5 : Int32) &&& 0x3f).toInt64.toUInt64).toInt64) := ⟨_, rfl⟩
  obtain ⟨y16_, hy16_⟩ : ∃ z, z = (((y15_.toUInt64 >>> ((5 : Int32) &&& 0x3f).toInt64.toUInt64).toInt64) ||| (x15_ <<< ((59 : Int32) &&& 0x3f).toInt64)) := ⟨_, rfl⟩
  rw [← hx16_, ← hy16_]
  have eq16_ : own_q hq lq 16 = (x16_, y16_) := (own_qs hq lq 15).trans (by rw [eq15_, hx16_, hy16_]; rfl)
  refine GoesW.pre (U' := T36.setTop (mkF m 22 #[.val (.ref a), .val (.ref dd), .val (.long x16_), .second, .val (.long y16_), .second, .val (.int (9 : Int32))] [(.int (9 : Int32))])) (fun t k => XS.iload X36.here hx rfl (hb hby d19_20) rfl k) ?_
  have hc22 : ¬ ((9 : Int32) < (0 : Int32)) := by decide
  refine GoesW.pre (U' := T36.setTop (mkF m 36 #[.val (.ref a), .val (.ref dd), .val (.long x16_), .second, .val (.long y16_), .second, .val (.int (9 : Int32))] [(.int ((y16_.toInt32) &&& (31 : Int32))), (.ref ls4), (.int (9 : Int32)), (.ref dd)])) (fun t k => XS.ifNo X36.here hx rfl (hb hby d19_22) rfl ((if0 _ _).trans (flt hc22).1) (XS.aloadN X36.here hx rfl (hb hby d19_25) rfl rfl (XS.iload X36.here hx rfl (hb hby d19_26) rfl (ldcAgain X36 hx hZ hown (wq hw 103 rfl) Li_ls4 (g := (mkF m 28 #[.val (.ref a), .val (.ref dd), .val (.long x16_), .second, .val (.long y16_), .second, .val (.int (9 : Int32))] [(.int (9 : Int32)), (.ref dd)])) rfl (hb hby d19_28) t (XS.lload X36.here hx rfl (hb hby d19_30) rfl (XS.l2i X36.here hx rfl (hb hby d19_32) rfl (XS.bipush X36.here hx rfl (hb hby d19_33) (XS.iand X36.here hx rfl (hb hby d19_35) rfl k)))))))) ?_
  obtain ⟨cq37, kq37, q37a, q37b, q37c⟩ := isOf hZ e36 S_ls4.1
  obtain ⟨_, _, ⟨T37, L37, k37, n37⟩, -, X37, ⟨Lc37, hQ37, l37, y37, z37⟩, st37⟩ := X36.virtualBack hx (y := (⟨"java/lang/String", "charAt", "(I)C"⟩ : MethodName)) (z := (⟨"java/lang/String", "charAt", "(I)C"⟩ : MethodName)) hown (mvT hZ (wq hw 78 rfl)) (mvT hZ (wq hw 15 rfl)) (notFace_of_selects (args := #[]) (mvT hZ (wq hw 17 rfl))) (mvT hZ (wq hw 17 rfl)) (mvT hZ (wq hw 16 rfl)) (by decide) (backOf (W := 2) (rm_chG l Z a0 hw [] ls4 lb4 kl4 own_lit ((y16_.toInt32) &&& (31 : Int32)) cs sf h36 n0 Z36 S_ls4 S_COMPACT_STRINGS S_SIOOBE_FORMATTER (own_a31 _).1 (own_a31 _).2 (by decide) hcs hsf O) hZ (wq hw 18 rfl) (wq hw 7 rfl) (by decide) (by decide)) q37a q37c (g := (mkF m 36 #[.val (.ref a), .val (.ref dd), .val (.long x16_), .second, .val (.long y16_), .second, .val (.int (9 : Int32))] [(.int ((y16_.toInt32) &&& (31 : Int32))), (.ref ls4), (.int (9 : Int32)), (.ref dd)])) rfl (by rw [hml]; rfl) (Steps.refl _) (argsL := [(.int ((y16_.toInt32) &&& (31 : Int32)))]) (rest := [(.int (9 : Int32)), (.ref dd)]) (lenOf pd__28I_29C rfl) rfl (by show 2 * 0 + _ ≤ _; exact Nat.le_of_eq rfl) (hb hby d19_36) (fun _ _ => ⟨rfl, e36, (by decide : 3 + 0 ≤ _), (by decide : 158 + 0 ≤ _)⟩)
  dsimp only [Pt.U, Pt.locs, Pt.cells, Pt.slots] at X37 l37 y37 z37 st37 hQ37
  rw [l37, y37, z37] at X37
  obtain ⟨rfl, N37q, HQ37⟩ := hQ37
  have N37 := Fr.app N36 N37q
  refine GoesW.pre (U' := T37.setTop (mkF m 39 #[.val (.ref a), .val (.ref dd), .val (.long x16_), .second, .val (.long y16_), .second, .val (.int (9 : Int32))] [(.int (own_lit.getD ((y16_.toInt32) &&& (31 : Int32)).toNatClampNeg 0)), (.int (9 : Int32)), (.ref dd)])) (fun t k => st37.trans k) ?_
  obtain ⟨cl38, Ar38, q38, Sz38, Ng38, Hs38, Ft38⟩ := id V_dd
  obtain ⟨T38, h38, X38, e38, W38, st38⟩ := stC X37 hx hZ HQ37 Ar38 (j := (9 : Int32)) (inb_of Sz38 ⟨by decide, by decide⟩) (g := (mkF m 39 #[.val (.ref a), .val (.ref dd), .val (.long x16_), .second, .val (.long y16_), .second, .val (.int (9 : Int32))] [(.int (own_lit.getD ((y16_.toInt32) &&& (31 : Int32)).toNatClampNeg 0)), (.int (9 : Int32)), (.ref dd)])) rfl rfl (hb hby d19_39)
  have nr38 : nar .char (own_lit.getD ((y16_.toInt32) &&& (31 : Int32)).toNatClampNeg 0) = (own_dc ((y16_.toInt32) &&& (31 : Int32))) := own_nch _ (own_lit_ch _)
  have ft38 : fits .char (.int (own_dc ((y16_.toInt32) &&& (31 : Int32)))) = true := nr38 ▸ (fits_nar_char (own_lit.getD ((y16_.toInt32) &&& (31 : Int32)).toNatClampNeg 0) : fits .char (.int (nar .char (own_lit.getD ((y16_.toInt32) &&& (31 : Int32)).toNatClampNeg 0))) = true)
  rw [nr38] at W38
  have F_high_a := F_high_a.other W38 (Or.inl ne_a_dd)
  have F_low_a := F_low_a.other W38 (Or.inl ne_a_dd)
  have E_dd := E_dd.wr W38
  have S_ls4 := S_ls4.keep (Keep.of_wr W38) (ninS ne_ls4_dd nin0) (ninS ne_lb4_dd nin0)
  have Z38 : n0 ≤ h38.size := Nat.le_trans Z36 (Keep.of_wr W38).1
  have O := O.wr W38 g_dd
  have SFo := SF_dd
  have SF_dd := Safe.wr W38 SFo H SF_dd
  have CR := CR.trans (CHr.wr W38 SFo H)
  have H := H.wr W38 SFo
  have hk := Nat.le_trans hk (Keep.of_wr W38).1
  have V_dd : Arv Z h38 dd k1 .char (26 : Int32) [(.int (0 : Int32)), (.int (0 : Int32)), (.int (0 : Int32)), (.int (0 : Int32)), (.int (0 : Int32)), (.int (0 : Int32)), (.int (0 : Int32)), (.int (0 : Int32)), (.int (0 : Int32)), (.int (own_dc ((y16_.toInt32) &&& (31 : Int32)))), (.int (own_dc ((y15_.toInt32) &&& (31 : Int32)))), (.int (own_dc ((y14_.toInt32) &&& (31 : Int32)))), (.int (own_dc ((y13_.toInt32) &&& (31 : Int32)))), (.int (own_dc ((y12_.toInt32) &&& (31 : Int32)))), (.int (own_dc ((y11_.toInt32) &&& (31 : Int32)))), (.int (own_dc ((y10_.toInt32) &&& (31 : Int32)))), (.int (own_dc ((y9_.toInt32) &&& (31 : Int32)))), (.int (own_dc ((y8_.toInt32) &&& (31 : Int32)))), (.int (own_dc ((y7_.toInt32) &&& (31 : Int32)))), (.int (own_dc ((y6_.toInt32) &&& (31 : Int32)))), (.int (own_dc ((y5_.toInt32) &&& (31 : Int32)))), (.int (own_dc ((y4_.toInt32) &&& (31 : Int32)))), (.int (own_dc ((y3_.toInt32) &&& (31 : Int32)))), (.int (own_dc ((y2_.toInt32) &&& (31 : Int32)))), (.int (own_dc ((y1_.toInt32) &&& (31 : Int32)))), (.int (own_dc ((lq.toInt32) &&& (31 : Int32))))] (.int (0 : Int32)) := Arv.set Ar38 q38 Sz38 Ng38 Hs38 Ft38 ft38 W38 9 rfl (Nat.le_of_ble_eq_true rfl)
  have K38 := K36.wr W38 (Or.inr sz_dd)
  have N38 := Fr.snoc X38 N37 g_dd
  refine GoesW.pre (U' := T38.setTop (mkF m 54 #[.val (.ref a), .val (.ref dd), .val (.long x16_), .second, .val (.long (((y16_.toUInt64 >>> ((5 : Int32) &&& 0x3f).toInt64.toUInt64).toInt64) ||| (x16_ <<< ((59 : Int32) &&& 0x3f).toInt64))), .second, .val (.int (9 : Int32))] [(.long ((x16_.toUInt64 >>> ((5 : Int32) &&& 0x3f).toInt64.toUInt64).toInt64))])) (fun t k => st38 t (XS.lload X38.here hx rfl (hb hby d19_40) rfl (XS.iconst X38.here hx rfl (hb hby d19_42) (XS.lushr X38.here hx rfl (hb hby d19_43) rfl (XS.lloadN X38.here hx rfl (hb hby d19_44) rfl (XS.bipush X38.here hx rfl (hb hby d19_45) (XS.lshl X38.here hx rfl (hb hby d19_47) rfl (XS.lor X38.here hx rfl (hb hby d19_48) rfl (XS.lstore X38.here hx rfl (hb hby d19_49) rfl (l' := #[.val (.ref a), .val (.ref dd), .val (.long x16_), .second, .val (.long (((y16_.toUInt64 >>> ((5 : Int32) &&& 0x3f).toInt64.toUInt64).toInt64) ||| (x16_ <<< ((59 : Int32) &&& 0x3f).toInt64))), .second, .val (.int (9 : Int32))]) rfl (XS.lloadN X38.here hx rfl (hb hby d19_51) rfl (XS.iconst X38.here hx rfl (hb hby d19_52) (XS.lushr X38.here hx rfl (hb hby d19_53) rfl k)))))))))))) ?_
  refine GoesW.pre (U' := T38.setTop (mkF m 58 #[.val (.ref a), .val (.ref dd), .val (.long ((x16_.toUInt64 >>> ((5 : Int32) &&& 0x3f).toInt64.toUInt64).toInt64)), .second, .val (.long (((y16_.toUInt64 >>> ((5 : Int32) &&& 0x3f).toInt64.toUInt64).toInt64) ||| (x16_ <<< ((59 : Int32) &&& 0x3f).toInt64))), .second, .val (.int ((9 : Int32) + (-1 : Int32)))] [])) (fun t k => XS.lstoreN X38.here hx rfl (hb hby d19_54) rfl (l' := #[.val (.ref a), .val (.ref dd), .val (.long ((x16_.toUInt64 >>> ((5 : Int32) &&& 0x3f).toInt64.toUInt64).toInt64)), .second, .val (.long (((y16_.toUInt64 >>> ((5 : Int32) &&& 0x3f).toInt64.toUInt64).toInt64) ||| (x16_ <<< ((59 : Int32) &&& 0x3f).toInt64))), .second, .val (.int (9 : Int32))]) rfl (XT.iincV X38.here hx rfl (-1 : Int32) (hb hby d19_55) (by decide) rfl (l' := #[.val (.ref a), .val (.ref dd), .val (.long ((x16_.toUInt64 >>> ((5 : Int32) &&& 0x3f).toInt64.toUInt64).toInt64)), .second, .val (.long (((y16_.toUInt64 >>> ((5 : Int32) &&& 0x3f).toInt64.toUInt64).toInt64) ||| (x16_ <<< ((59 : Int32) &&& 0x3f).toInt64))), .second, .val (.int ((9 : Int32) + (-1 : Int32)))]) rfl k)) ?_
  rw [(by decide : ((9 : Int32) + (-1 : Int32)) = (8 : Int32))]
  refine GoesW.pre (U' := T38.setTop (mkF m 20 #[.val (.ref a), .val (.ref dd), .val (.long ((x16_.toUInt64 >>> ((5 : Int32) &&& 0x3f).toInt64.toUInt64).toInt64)), .second, .val (.long (((y16_.toUInt64 >>> ((5 : Int32) &&& 0x3f).toInt64.toUInt64).toInt64) ||| (x16_ <<< ((59 : Int32) &&& 0x3f).toInt64))), .second, .val (.int (8 : Int32))] [])) (fun t k => XS.goto X38.here hx rfl (pc0 := 58) (pc' := 20) rfl (hb hby d19_58) (by decide) (by decide) k) ?_
  obtain ⟨x17_, hx17_⟩ : ∃ z, z = ((x16_.toUInt64 >>> ((5 : Int32) &&& 0x3f).toInt64.toUInt64).toInt64) := ⟨_, rfl⟩
  obtain ⟨y17_, hy17_⟩ : ∃ z, z = (((y16_.toUInt64 >>> ((5 : Int32) &&& 0x3f).toInt64.toUInt64).toInt64) ||| (x16_ <<< ((59 : Int32) &&& 0x3f).toInt64)) := ⟨_, rfl⟩
  rw [← hx17_, ← hy17_]
  have eq17_ : own_q hq lq 17 = (x17_, y17_) := (own_qs hq lq 16).trans (by rw [eq16_, hx17_, hy17_]; rfl)
  refine GoesW.pre (U' := T38.setTop (mkF m 22 #[.val (.ref a), .val (.ref dd), .val (.long x17_), .second, .val (.long y17_), .second, .val (.int (8 : Int32))] [(.int (8 : Int32))])) (fun t k => XS.iload X38.here hx rfl (hb hby d19_20) rfl k) ?_
  have hc22 : ¬ ((8 : Int32) < (0 : Int32)) := by decide
  refine GoesW.pre (U' := T38.setTop (mkF m 36 #[.val (.ref a), .val (.ref dd), .val (.long x17_), .second, .val (.long y17_), .second, .val (.int (8 : Int32))] [(.int ((y17_.toInt32) &&& (31 : Int32))), (.ref ls4), (.int (8 : Int32)), (.ref dd)])) (fun t k => XS.ifNo X38.here hx rfl (hb hby d19_22) rfl ((if0 _ _).trans (flt hc22).1) (XS.aloadN X38.here hx rfl (hb hby d19_25) rfl rfl (XS.iload X38.here hx rfl (hb hby d19_26) rfl (ldcAgain X38 hx hZ hown (wq hw 103 rfl) Li_ls4 (g := (mkF m 28 #[.val (.ref a), .val (.ref dd), .val (.long x17_), .second, .val (.long y17_), .second, .val (.int (8 : Int32))] [(.int (8 : Int32)), (.ref dd)])) rfl (hb hby d19_28) t (XS.lload X38.here hx rfl (hb hby d19_30) rfl (XS.l2i X38.here hx rfl (hb hby d19_32) rfl (XS.bipush X38.here hx rfl (hb hby d19_33) (XS.iand X38.here hx rfl (hb hby d19_35) rfl k)))))))) ?_
  obtain ⟨cq39, kq39, q39a, q39b, q39c⟩ := isOf hZ e38 S_ls4.1
  obtain ⟨_, _, ⟨T39, L39, k39, n39⟩, -, X39, ⟨Lc39, hQ39, l39, y39, z39⟩, st39⟩ := X38.virtualBack hx (y := (⟨"java/lang/String", "charAt", "(I)C"⟩ : MethodName)) (z := (⟨"java/lang/String", "charAt", "(I)C"⟩ : MethodName)) hown (mvT hZ (wq hw 78 rfl)) (mvT hZ (wq hw 15 rfl)) (notFace_of_selects (args := #[]) (mvT hZ (wq hw 17 rfl))) (mvT hZ (wq hw 17 rfl)) (mvT hZ (wq hw 16 rfl)) (by decide) (backOf (W := 2) (rm_chG l Z a0 hw [] ls4 lb4 kl4 own_lit ((y17_.toInt32) &&& (31 : Int32)) cs sf h38 n0 Z38 S_ls4 S_COMPACT_STRINGS S_SIOOBE_FORMATTER (own_a31 _).1 (own_a31 _).2 (by decide) hcs hsf O) hZ (wq hw 18 rfl) (wq hw 7 rfl) (by decide) (by decide)) q39a q39c (g := (mkF m 36 #[.val (.ref a), .val (.ref dd), .val (.long x17_), .second, .val (.long y17_), .second, .val (.int (8 : Int32))] [(.int ((y17_.toInt32) &&& (31 : Int32))), (.ref ls4), (.int (8 : Int32)), (.ref dd)])) rfl (by rw [hml]; rfl) (Steps.refl _) (argsL := [(.int ((y17_.toInt32) &&& (31 : Int32)))]) (rest := [(.int (8 : Int32)), (.ref dd)]) (lenOf pd__28I_29C rfl) rfl (by show 2 * 0 + _ ≤ _; exact Nat.le_of_eq rfl) (hb hby d19_36) (fun _ _ => ⟨rfl, e38, (by decide : 3 + 0 ≤ _), (by decide : 158 + 0 ≤ _)⟩)
  dsimp only [Pt.U, Pt.locs, Pt.cells, Pt.slots] at X39 l39 y39 z39 st39 hQ39
  rw [l39, y39, z39] at X39
  obtain ⟨rfl, N39q, HQ39⟩ := hQ39
  have N39 := Fr.app N38 N39q
  refine GoesW.pre (U' := T39.setTop (mkF m 39 #[.val (.ref a), .val (.ref dd), .val (.long x17_), .second, .val (.long y17_), .second, .val (.int (8 : Int32))] [(.int (own_lit.getD ((y17_.toInt32) &&& (31 : Int32)).toNatClampNeg 0)), (.int (8 : Int32)), (.ref dd)])) (fun t k => st39.trans k) ?_
  obtain ⟨cl40, Ar40, q40, Sz40, Ng40, Hs40, Ft40⟩ := id V_dd
  obtain ⟨T40, h40, X40, e40, W40, st40⟩ := stC X39 hx hZ HQ39 Ar40 (j := (8 : Int32)) (inb_of Sz40 ⟨by decide, by decide⟩) (g := (mkF m 39 #[.val (.ref a), .val (.ref dd), .val (.long x17_), .second, .val (.long y17_), .second, .val (.int (8 : Int32))] [(.int (own_lit.getD ((y17_.toInt32) &&& (31 : Int32)).toNatClampNeg 0)), (.int (8 : Int32)), (.ref dd)])) rfl rfl (hb hby d19_39)
  have nr40 : nar .char (own_lit.getD ((y17_.toInt32) &&& (31 : Int32)).toNatClampNeg 0) = (own_dc ((y17_.toInt32) &&& (31 : Int32))) := own_nch _ (own_lit_ch _)
  have ft40 : fits .char (.int (own_dc ((y17_.toInt32) &&& (31 : Int32)))) = true := nr40 ▸ (fits_nar_char (own_lit.getD ((y17_.toInt32) &&& (31 : Int32)).toNatClampNeg 0) : fits .char (.int (nar .char (own_lit.getD ((y17_.toInt32) &&& (31 : Int32)).toNatClampNeg 0))) = true)
  rw [nr40] at W40
  have F_high_a := F_high_a.other W40 (Or.inl ne_a_dd)
  have F_low_a := F_low_a.other W40 (Or.inl ne_a_dd)
  have E_dd := E_dd.wr W40
  have S_ls4 := S_ls4.keep (Keep.of_wr W40) (ninS ne_ls4_dd nin0) (ninS ne_lb4_dd nin0)
  have Z40 : n0 ≤ h40.size := Nat.le_trans Z38 (Keep.of_wr W40).1
  have O := O.wr W40 g_dd
  have SFo := SF_dd
  have SF_dd := Safe.wr W40 SFo H SF_dd
  have CR := CR.trans (CHr.wr W40 SFo H)
  have H := H.wr W40 SFo
  have hk := Nat.le_trans hk (Keep.of_wr W40).1
  have V_dd : Arv Z h40 dd k1 .char (26 : Int32) [(.int (0 : Int32)), (.int (0 : Int32)), (.int (0 : Int32)), (.int (0 : Int32)), (.int (0 : Int32)), (.int (0 : Int32)), (.int (0 : Int32)), (.int (0 : Int32)), (.int (own_dc ((y17_.toInt32) &&& (31 : Int32)))), (.int (own_dc ((y16_.toInt32) &&& (31 : Int32)))), (.int (own_dc ((y15_.toInt32) &&& (31 : Int32)))), (.int (own_dc ((y14_.toInt32) &&& (31 : Int32)))), (.int (own_dc ((y13_.toInt32) &&& (31 : Int32)))), (.int (own_dc ((y12_.toInt32) &&& (31 : Int32)))), (.int (own_dc ((y11_.toInt32) &&& (31 : Int32)))), (.int (own_dc ((y10_.toInt32) &&& (31 : Int32)))), (.int (own_dc ((y9_.toInt32) &&& (31 : Int32)))), (.int (own_dc ((y8_.toInt32) &&& (31 : Int32)))), (.int (own_dc ((y7_.toInt32) &&& (31 : Int32)))), (.int (own_dc ((y6_.toInt32) &&& (31 : Int32)))), (.int (own_dc ((y5_.toInt32) &&& (31 : Int32)))), (.int (own_dc ((y4_.toInt32) &&& (31 : Int32)))), (.int (own_dc ((y3_.toInt32) &&& (31 : Int32)))), (.int (own_dc ((y2_.toInt32) &&& (31 : Int32)))), (.int (own_dc ((y1_.toInt32) &&& (31 : Int32)))), (.int (own_dc ((lq.toInt32) &&& (31 : Int32))))] (.int (0 : Int32)) := Arv.set Ar40 q40 Sz40 Ng40 Hs40 Ft40 ft40 W40 8 rfl (Nat.le_of_ble_eq_true rfl)
  have K40 := K38.wr W40 (Or.inr sz_dd)
  have N40 := Fr.snoc X40 N39 g_dd
  refine GoesW.pre (U' := T40.setTop (mkF m 54 #[.val (.ref a), .val (.ref dd), .val (.long x17_), .second, .val (.long (((y17_.toUInt64 >>> ((5 : Int32) &&& 0x3f).toInt64.toUInt64).toInt64) ||| (x17_ <<< ((59 : Int32) &&& 0x3f).toInt64))), .second, .val (.int (8 : Int32))] [(.long ((x17_.toUInt64 >>> ((5 : Int32) &&& 0x3f).toInt64.toUInt64).toInt64))])) (fun t k => st40 t (XS.lload X40.here hx rfl (hb hby d19_40) rfl (XS.iconst X40.here hx rfl (hb hby d19_42) (XS.lushr X40.here hx rfl (hb hby d19_43) rfl (XS.lloadN X40.here hx rfl (hb hby d19_44) rfl (XS.bipush X40.here hx rfl (hb hby d19_45) (XS.lshl X40.here hx rfl (hb hby d19_47) rfl (XS.lor X40.here hx rfl (hb hby d19_48) rfl (XS.lstore X40.here hx rfl (hb hby d19_49) rfl (l' := #[.val (.ref a), .val (.ref dd), .val (.long x17_), .second, .val (.long (((y17_.toUInt64 >>> ((5 : Int32) &&& 0x3f).toInt64.toUInt64).toInt64) ||| (x17_ <<< ((59 : Int32) &&& 0x3f).toInt64))), .second, .val (.int (8 : Int32))]) rfl (XS.lloadN X40.here hx rfl (hb hby d19_51) rfl (XS.iconst X40.here hx rfl (hb hby d19_52) (XS.lushr X40.here hx rfl (hb hby d19_53) rfl k)))))))))))) ?_
  refine GoesW.pre (U' := T40.setTop (mkF m 58 #[.val (.ref a), .val (.ref dd), .val (.long ((x17_.toUInt64 >>> ((5 : Int32) &&& 0x3f).toInt64.toUInt64).toInt64)), .second, .val (.long (((y17_.toUInt64 >>> ((5 : Int32) &&& 0x3f).toInt64.toUInt64).toInt64) ||| (x17_ <<< ((59 : Int32) &&& 0x3f).toInt64))), .second, .val (.int ((8 : Int32) + (-1 : Int32)))] [])) (fun t k => XS.lstoreN X40.here hx rfl (hb hby d19_54) rfl (l' := #[.val (.ref a), .val (.ref dd), .val (.long ((x17_.toUInt64 >>> ((5 : Int32) &&& 0x3f).toInt64.toUInt64).toInt64)), .second, .val (.long (((y17_.toUInt64 >>> ((5 : Int32) &&& 0x3f).toInt64.toUInt64).toInt64) ||| (x17_ <<< ((59 : Int32) &&& 0x3f).toInt64))), .second, .val (.int (8 : Int32))]) rfl (XT.iincV X40.here hx rfl (-1 : Int32) (hb hby d19_55) (by decide) rfl (l' := #[.val (.ref a), .val (.ref dd), .val (.long ((x17_.toUInt64 >>> ((5 : Int32) &&& 0x3f).toInt64.toUInt64).toInt64)), .second, .val (.long (((y17_.toUInt64 >>> ((5 : Int32) &&& 0x3f).toInt64.toUInt64).toInt64) ||| (x17_ <<< ((59 : Int32) &&& 0x3f).toInt64))), .second, .val (.int ((8 : Int32) + (-1 : Int32)))]) rfl k)) ?_
  rw [(by decide : ((8 : Int32) + (-1 : Int32)) = (7 : Int32))]
  refine GoesW.pre (U' := T40.setTop (mkF m 20 #[.val (.ref a), .val (.ref dd), .val (.long ((x17_.toUInt64 >>> ((5 : Int32) &&& 0x3f).toInt64.toUInt64).toInt64)), .second, .val (.long (((y17_.toUInt64 >>> ((5 : Int32) &&& 0x3f).toInt64.toUInt64).toInt64) ||| (x17_ <<< ((59 : Int32) &&& 0x3f).toInt64))), .second, .val (.int (7 : Int32))] [])) (fun t k => XS.goto X40.here hx rfl (pc0 := 58) (pc' := 20) rfl (hb hby d19_58) (by decide) (by decide) k) ?_
  obtain ⟨x18_, hx18_⟩ : ∃ z, z = ((x17_.toUInt64 >>> ((5 : Int32) &&& 0x3f).toInt64.toUInt64).toInt64) := ⟨_, rfl⟩
  obtain ⟨y18_, hy18_⟩ : ∃ z, z = (((y17_.toUInt64 >>> ((5 : Int32) &&& 0x3f).toInt64.toUInt64).toInt64) ||| (x17_ <<< ((59 : Int32) &&& 0x3f).toInt64)) := ⟨_, rfl⟩
  rw [← hx18_, ← hy18_]
  have eq18_ : own_q hq lq 18 = (x18_, y18_) := (own_qs hq lq 17).trans (by rw [eq17_, hx18_, hy18_]; rfl)
  refine GoesW.pre (U' := T40.setTop (mkF m 22 #[.val (.ref a), .val (.ref dd), .val (.long x18_), .second, .val (.long y18_), .second, .val (.int (7 : Int32))] [(.int (7 : Int32))])) (fun t k => XS.iload X40.here hx rfl (hb hby d19_20) rfl k) ?_
  have hc22 : ¬ ((7 : Int32) < (0 : Int32)) := by decide
  refine GoesW.pre (U' := T40.setTop (mkF m 36 #[.val (.ref a), .val (.ref dd), .val (.long x18_), .second, .val (.long y18_), .second, .val (.int (7 : Int32))] [(.int ((y18_.toInt32) &&& (31 : Int32))), (.ref ls4), (.int (7 : Int32)), (.ref dd)])) (fun t k => XS.ifNo X40.here hx rfl (hb hby d19_22) rfl ((if0 _ _).trans (flt hc22).1) (XS.aloadN X40.here hx rfl (hb hby d19_25) rfl rfl (XS.iload X40.here hx rfl (hb hby d19_26) rfl (ldcAgain X40 hx hZ hown (wq hw 103 rfl) Li_ls4 (g := (mkF m 28 #[.val (.ref a), .val (.ref dd), .val (.long x18_), .second, .val (.long y18_), .second, .val (.int (7 : Int32))] [(.int (7 : Int32)), (.ref dd)])) rfl (hb hby d19_28) t (XS.lload X40.here hx rfl (hb hby d19_30) rfl (XS.l2i X40.here hx rfl (hb hby d19_32) rfl (XS.bipush X40.here hx rfl (hb hby d19_33) (XS.iand X40.here hx rfl (hb hby d19_35) rfl k)))))))) ?_
  obtain ⟨cq41, kq41, q41a, q41b, q41c⟩ := isOf hZ e40 S_ls4.1
  obtain ⟨_, _, ⟨T41, L41, k41, n41⟩, -, X41, ⟨Lc41, hQ41, l41, y41, z41⟩, st41⟩ := X40.virtualBack hx (y := (⟨"java/lang/String", "charAt", "(I)C"⟩ : MethodName)) (z := (⟨"java/lang/String", "charAt", "(I)C"⟩ : MethodName)) hown (mvT hZ (wq hw 78 rfl)) (mvT hZ (wq hw 15 rfl)) (notFace_of_selects (args := #[]) (mvT hZ (wq hw 17 rfl))) (mvT hZ (wq hw 17 rfl)) (mvT hZ (wq hw 16 rfl)) (by decide) (backOf (W := 2) (rm_chG l Z a0 hw [] ls4 lb4 kl4 own_lit ((y18_.toInt32) &&& (31 : Int32)) cs sf h40 n0 Z40 S_ls4 S_COMPACT_STRINGS S_SIOOBE_FORMATTER (own_a31 _).1 (own_a31 _).2 (by decide) hcs hsf O) hZ (wq hw 18 rfl) (wq hw 7 rfl) (by decide) (by decide)) q41a q41c (g := (mkF m 36 #[.val (.ref a), .val (.ref dd), .val (.long x18_), .second, .val (.long y18_), .second, .val (.int (7 : Int32))] [(.int ((y18_.toInt32) &&& (31 : Int32))), (.ref ls4), (.int (7 : Int32)), (.ref dd)])) rfl (by rw [hml]; rfl) (Steps.refl _) (argsL := [(.int ((y18_.toInt32) &&& (31 : Int32)))]) (rest := [(.int (7 : Int32)), (.ref dd)]) (lenOf pd__28I_29C rfl) rfl (by show 2 * 0 + _ ≤ _; exact Nat.le_of_eq rfl) (hb hby d19_36) (fun _ _ => ⟨rfl, e40, (by decide : 3 + 0 ≤ _), (by decide : 158 + 0 ≤ _)⟩)
  dsimp only [Pt.U, Pt.locs, Pt.cells, Pt.slots] at X41 l41 y41 z41 st41 hQ41
  rw [l41, y41, z41] at X41
  obtain ⟨rfl, N41q, HQ41⟩ := hQ41
  have N41 := Fr.app N40 N41q
  refine GoesW.pre (U' := T41.setTop (mkF m 39 #[.val (.ref a), .val (.ref dd), .val (.long x18_), .second, .val (.long y18_), .second, .val (.int (7 : Int32))] [(.int (own_lit.getD ((y18_.toInt32) &&& (31 : Int32)).toNatClampNeg 0)), (.int (7 : Int32)), (.ref dd)])) (fun t k => st41.trans k) ?_
  obtain ⟨cl42, Ar42, q42, Sz42, Ng42, Hs42, Ft42⟩ := id V_dd
  obtain ⟨T42, h42, X42, e42, W42, st42⟩ := stC X41 hx hZ HQ41 Ar42 (j := (7 : Int32)) (inb_of Sz42 ⟨by decide, by decide⟩) (g := (mkF m 39 #[.val (.ref a), .val (.ref dd), .val (.long x18_), .second, .val (.long y18_), .second, .val (.int (7 : Int32))] [(.int (own_lit.getD ((y18_.toInt32) &&& (31 : Int32)).toNatClampNeg 0)), (.int (7 : Int32)), (.ref dd)])) rfl rfl (hb hby d19_39)
  have nr42 : nar .char (own_lit.getD ((y18_.toInt32) &&& (31 : Int32)).toNatClampNeg 0) = (own_dc ((y18_.toInt32) &&& (31 : Int32))) := own_nch _ (own_lit_ch _)
  have ft42 : fits .char (.int (own_dc ((y18_.toInt32) &&& (31 : Int32)))) = true := nr42 ▸ (fits_nar_char (own_lit.getD ((y18_.toInt32) &&& (31 : Int32)).toNatClampNeg 0) : fits .char (.int (nar .char (own_lit.getD ((y18_.toInt32) &&& (31 : Int32)).toNatClampNeg 0))) = true)
  rw [nr42] at W42
  have F_high_a := F_high_a.other W42 (Or.inl ne_a_dd)
  have F_low_a := F_low_a.other W42 (Or.inl ne_a_dd)
  have E_dd := E_dd.wr W42
  have S_ls4 := S_ls4.keep (Keep.of_wr W42) (ninS ne_ls4_dd nin0) (ninS ne_lb4_dd nin0)
  have Z42 : n0 ≤ h42.size := Nat.le_trans Z40 (Keep.of_wr W42).1
  have O := O.wr W42 g_dd
  have SFo := SF_dd
  have SF_dd := Safe.wr W42 SFo H SF_dd
  have CR := CR.trans (CHr.wr W42 SFo H)
  have H := H.wr W42 SFo
  have hk := Nat.le_trans hk (Keep.of_wr W42).1
  have V_dd : Arv Z h42 dd k1 .char (26 : Int32) [(.int (0 : Int32)), (.int (0 : Int32)), (.int (0 : Int32)), (.int (0 : Int32)), (.int (0 : Int32)), (.int (0 : Int32)), (.int (0 : Int32)), (.int (own_dc ((y18_.toInt32) &&& (31 : Int32)))), (.int (own_dc ((y17_.toInt32) &&& (31 : Int32)))), (.int (own_dc ((y16_.toInt32) &&& (31 : Int32)))), (.int (own_dc ((y15_.toInt32) &&& (31 : Int32)))), (.int (own_dc ((y14_.toInt32) &&& (31 : Int32)))), (.int (own_dc ((y13_.toInt32) &&& (31 : Int32)))), (.int (own_dc ((y12_.toInt32) &&& (31 : Int32)))), (.int (own_dc ((y11_.toInt32) &&& (31 : Int32)))), (.int (own_dc ((y10_.toInt32) &&& (31 : Int32)))), (.int (own_dc ((y9_.toInt32) &&& (31 : Int32)))), (.int (own_dc ((y8_.toInt32) &&& (31 : Int32)))), (.int (own_dc ((y7_.toInt32) &&& (31 : Int32)))), (.int (own_dc ((y6_.toInt32) &&& (31 : Int32)))), (.int (own_dc ((y5_.toInt32) &&& (31 : Int32)))), (.int (own_dc ((y4_.toInt32) &&& (31 : Int32)))), (.int (own_dc ((y3_.toInt32) &&& (31 : Int32)))), (.int (own_dc ((y2_.toInt32) &&& (31 : Int32)))), (.int (own_dc ((y1_.toInt32) &&& (31 : Int32)))), (.int (own_dc ((lq.toInt32) &&& (31 : Int32))))] (.int (0 : Int32)) := Arv.set Ar42 q42 Sz42 Ng42 Hs42 Ft42 ft42 W42 7 rfl (Nat.le_of_ble_eq_true rfl)
  have K42 := K40.wr W42 (Or.inr sz_dd)
  have N42 := Fr.snoc X42 N41 g_dd
  refine GoesW.pre (U' := T42.setTop (mkF m 54 #[.val (.ref a), .val (.ref dd), .val (.long x18_), .second, .val (.long (((y18_.toUInt64 >>> ((5 : Int32) &&& 0x3f).toInt64.toUInt64).toInt64) ||| (x18_ <<< ((59 : Int32) &&& 0x3f).toInt64))), .second, .val (.int (7 : Int32))] [(.long ((x18_.toUInt64 >>> ((5 : Int32) &&& 0x3f).toInt64.toUInt64).toInt64))])) (fun t k => st42 t (XS.lload X42.here hx rfl (hb hby d19_40) rfl (XS.iconst X42.here hx rfl (hb hby d19_42) (XS.lushr X42.here hx rfl (hb hby d19_43) rfl (XS.lloadN X42.here hx rfl (hb hby d19_44) rfl (XS.bipush X42.here hx rfl (hb hby d19_45) (XS.lshl X42.here hx rfl (hb hby d19_47) rfl (XS.lor X42.here hx rfl (hb hby d19_48) rfl (XS.lstore X42.here hx rfl (hb hby d19_49) rfl (l' := #[.val (.ref a), .val (.ref dd), .val (.long x18_), .second, .val (.long (((y18_.toUInt64 >>> ((5 : Int32) &&& 0x3f).toInt64.toUInt64).toInt64) ||| (x18_ <<< ((59 : Int32) &&& 0x3f).toInt64))), .second, .val (.int (7 : Int32))]) rfl (XS.lloadN X42.here hx rfl (hb hby d19_51) rfl (XS.iconst X42.here hx rfl (hb hby d19_52) (XS.lushr X42.here hx rfl (hb hby d19_53) rfl k)))))))))))) ?_
  refine GoesW.pre (U' := T42.setTop (mkF m 58 #[.val (.ref a), .val (.ref dd), .val (.long ((x18_.toUInt64 >>> ((5 : Int32) &&& 0x3f).toInt64.toUInt64).toInt64)), .second, .val (.long (((y18_.toUInt64 >>> ((5 : Int32) &&& 0x3f).toInt64.toUInt64).toInt64) ||| (x18_ <<< ((59 : Int32) &&& 0x3f).toInt64))), .second, .val (.int ((7 : Int32) + (-1 : Int32)))] [])) (fun t k => XS.lstoreN X42.here hx rfl (hb hby d19_54) rfl (l' := #[.val (.ref a), .val (.ref dd), .val (.long ((x18_.toUInt64 >>> ((5 : Int32) &&& 0x3f).toInt64.toUInt64).toInt64)), .second, .val (.long (((y18_.toUInt64 >>> ((5 : Int32) &&& 0x3f).toInt64.toUInt64).toInt64) ||| (x18_ <<< ((59 : Int32) &&& 0x3f).toInt64))), .second, .val (.int (7 : Int32))]) rfl (XT.iincV X42.here hx rfl (-1 : Int32) (hb hby d19_55) (by decide) rfl (l' := #[.val (.ref a), .val (.ref dd), .val (.long ((x18_.toUInt64 >>> ((5 : Int32) &&& 0x3f).toInt64.toUInt64).toInt64)), .second, .val (.long (((y18_.toUInt64 >>> ((5 : Int32) &&& 0x3f).toInt64.toUInt64).toInt64) ||| (x18_ <<< ((59 : Int32) &&& 0x3f).toInt64))), .second, .val (.int ((7 : Int32) + (-1 : Int32)))]) rfl k)) ?_
  rw [(by decide : ((7 : Int32) + (-1 : Int32)) = (6 : Int32))]
  refine GoesW.pre (U' := T42.setTop (mkF m 20 #[.val (.ref a), .val (.ref dd), .val (.long ((x18_.toUInt64 >>> ((5 : Int32) &&& 0x3f).toInt64.toUInt64).toInt64)), .second, .val (.long (((y18_.toUInt64 >>> ((5 : Int32) &&& 0x3f).toInt64.toUInt64).toInt64) ||| (x18_ <<< ((59 : Int32) &&& 0x3f).toInt64))), .second, .val (.int (6 : Int32))] [])) (fun t k => XS.goto X42.here hx rfl (pc0 := 58) (pc' := 20) rfl (hb hby d19_58) (by decide) (by decide) k) ?_
  obtain ⟨x19_, hx19_⟩ : ∃ z, z = ((x18_.toUInt64 >>> ((5 : Int32) &&& 0x3f).toInt64.toUInt64).toInt64) := ⟨_, rfl⟩
  obtain ⟨y19_, hy19_⟩ : ∃ z, z = (((y18_.toUInt64 >>> ((5 : Int32) &&& 0x3f).toInt64.toUInt64).toInt64) ||| (x18_ <<< ((59 : Int32) &&& 0x3f).toInt64)) := ⟨_, rfl⟩
  rw [← hx19_, ← hy19_]
  have eq19_ : own_q hq lq 19 = (x19_, y19_) := (own_qs hq lq 18).trans (by rw [eq18_, hx19_, hy19_]; rfl)
  refine GoesW.pre (U' := T42.setTop (mkF m 22 #[.val (.ref a), .val (.ref dd), .val (.long x19_), .second, .val (.long y19_), .second, .val (.int (6 : Int32))] [(.int (6 : Int32))])) (fun t k => XS.iload X42.here hx rfl (hb hby d19_20) rfl k) ?_
  have hc22 : ¬ ((6 : Int32) < (0 : Int32)) := by decide
  refine GoesW.pre (U' := T42.setTop (mkF m 36 #[.val (.ref a), .val (.ref dd), .val (.long x19_), .second, .val (.long y19_), .second, .val (.int (6 : Int32))] [(.int ((y19_.toInt32) &&& (31 : Int32))), (.ref ls4), (.int (6 : Int32)), (.ref dd)])) (fun t k => XS.ifNo X42.here hx rfl (hb hby d19_22) rfl ((if0 _ _).trans (flt hc22).1) (XS.aloadN X42.here hx rfl (hb hby d19_25) rfl rfl (XS.iload X42.here hx rfl (hb hby d19_26) rfl (ldcAgain X42 hx hZ hown (wq hw 103 rfl) Li_ls4 (g := (mkF m 28 #[.val (.ref a), .val (.ref dd), .val (.long x19_), .second, .val (.long y19_), .second, .val (.int (6 : Int32))] [(.int (6 : Int32)), (.ref dd)])) rfl (hb hby d19_28) t (XS.lload X42.here hx rfl (hb hby d19_30) rfl (XS.l2i X42.here hx rfl (hb hby d19_32) rfl (XS.bipush X42.here hx rfl (hb hby d19_33) (XS.iand X42.here hx rfl (hb hby d19_35) rfl k)))))))) ?_
  obtain ⟨cq43, kq43, q43a, q43b, q43c⟩ := isOf hZ e42 S_ls4.1
  obtain ⟨_, _, ⟨T43, L43, k43, n43⟩, -, X43, ⟨Lc43, hQ43, l43, y43, z43⟩, st43⟩ := X42.virtualBack hx (y := (⟨"java/lang/String", "charAt", "(I)C"⟩ : MethodName)) (z := (⟨"java/lang/String", "charAt", "(I)C"⟩ : MethodName)) hown (mvT hZ (wq hw 78 rfl)) (mvT hZ (wq hw 15 rfl)) (notFace_of_selects (args := #[]) (mvT hZ (wq hw 17 rfl))) (mvT hZ (wq hw 17 rfl)) (mvT hZ (wq hw 16 rfl)) (by decide) (backOf (W := 2) (rm_chG l Z a0 hw [] ls4 lb4 kl4 own_lit ((y19_.toInt32) &&& (31 : Int32)) cs sf h42 n0 Z42 S_ls4 S_COMPACT_STRINGS S_SIOOBE_FORMATTER (own_a31 _).1 (own_a31 _).2 (by decide) hcs hsf O) hZ (wq hw 18 rfl) (wq hw 7 rfl) (by decide) (by decide)) q43a q43c (g := (mkF m 36 #[.val (.ref a), .val (.ref dd), .val (.long x19_), .second, .val (.long y19_), .second, .val (.int (6 : Int32))] [(.int ((y19_.toInt32) &&& (31 : Int32))), (.ref ls4), (.int (6 : Int32)), (.ref dd)])) rfl (by rw [hml]; rfl) (Steps.refl _) (argsL := [(.int ((y19_.toInt32) &&& (31 : Int32)))]) (rest := [(.int (6 : Int32)), (.ref dd)]) (lenOf pd__28I_29C rfl) rfl (by show 2 * 0 + _ ≤ _; exact Nat.le_of_eq rfl) (hb hby d19_36) (fun _ _ => ⟨rfl, e42, (by decide : 3 + 0 ≤ _), (by decide : 158 + 0 ≤ _)⟩)
  dsimp only [Pt.U, Pt.locs, Pt.cells, Pt.slots] at X43 l43 y43 z43 st43 hQ43
  rw [l43, y43, z43] at X43
  obtain ⟨rfl, N43q, HQ43⟩ := hQ43
  have N43 := Fr.app N42 N43q
  refine GoesW.pre (U' := T43.setTop (mkF m 39 #[.val (.ref a), .val (.ref dd), .val (.long x19_), .second, .val (.long y19_), .second, .val (.int (6 : Int32))] [(.int (own_lit.getD ((y19_.toInt32) &&& (31 : Int32)).toNatClampNeg 0)), (.int (6 : Int32)), (.ref dd)])) (fun t k => st43.trans k) ?_
  obtain ⟨cl44, Ar44, q44, Sz44, Ng44, Hs44, Ft44⟩ := id V_dd
  obtain ⟨T44, h44, X44, e44, W44, st44⟩ := stC X43 hx hZ HQ43 Ar44 (j := (6 : Int32)) (inb_of Sz44 ⟨by decide, by decide⟩) (g := (mkF m 39 #[.val (.ref a), .val (.ref dd), .val (.long x19_), .second, .val (.long y19_), .second, .val (.int (6 : Int32))] [(.int (own_lit.getD ((y19_.toInt32) &&& (31 : Int32)).toNatClampNeg 0)), (.int (6 : Int32)), (.ref dd)])) rfl rfl (hb hby d19_39)
  have nr44 : nar .char (own_lit.getD ((y19_.toInt32) &&& (31 : Int32)).toNatClampNeg 0) = (own_dc ((y19_.toInt32) &&& (31 : Int32))) := own_nch _ (own_lit_ch _)
  have ft44 : fits .char (.int (own_dc ((y19_.toInt32) &&& (31 : Int32)))) = true := nr44 ▸ (fits_nar_char (own_lit.getD ((y19_.toInt32) &&& (31 : Int32)).toNatClampNeg 0) : fits .char (.int (nar .char (own_lit.getD ((y19_.toInt32) &&& (31 : Int32)).toNatClampNeg 0))) = true)
  rw [nr44] at W44
  have F_high_a := F_high_a.other W44 (Or.inl ne_a_dd)
  have F_low_a := F_low_a.other W44 (Or.inl ne_a_dd)
  have E_dd := E_dd.wr W44
  have S_ls4 := S_ls4.keep (Keep.of_wr W44) (ninS ne_ls4_dd nin0) (ninS ne_lb4_dd nin0)
  have Z44 : n0 ≤ h44.size := Nat.le_trans Z42 (Keep.of_wr W44).1
  have O := O.wr W44 g_dd
  have SFo := SF_dd
  have SF_dd := Safe.wr W44 SFo H SF_dd
  have CR := CR.trans (CHr.wr W44 SFo H)
  have H := H.wr W44 SFo
  have hk := Nat.le_trans hk (Keep.of_wr W44).1
  have V_dd : Arv Z h44 dd k1 .char (26 : Int32) [(.int (0 : Int32)), (.int (0 : Int32)), (.int (0 : Int32)), (.int (0 : Int32)), (.int (0 : Int32)), (.int (0 : Int32)), (.int (own_dc ((y19_.toInt32) &&& (31 : Int32)))), (.int (own_dc ((y18_.toInt32) &&& (31 : Int32)))), (.int (own_dc ((y17_.toInt32) &&& (31 : Int32)))), (.int (own_dc ((y16_.toInt32) &&& (31 : Int32)))), (.int (own_dc ((y15_.toInt32) &&& (31 : Int32)))), (.int (own_dc ((y14_.toInt32) &&& (31 : Int32)))), (.int (own_dc ((y13_.toInt32) &&& (31 : Int32)))), (.int (own_dc ((y12_.toInt32) &&& (31 : Int32)))), (.int (own_dc ((y11_.toInt32) &&& (31 : Int32)))), (.int (own_dc ((y10_.toInt32) &&& (31 : Int32)))), (.int (own_dc ((y9_.toInt32) &&& (31 : Int32)))), (.int (own_dc ((y8_.toInt32) &&& (31 : Int32)))), (.int (own_dc ((y7_.toInt32) &&& (31 : Int32)))), (.int (own_dc ((y6_.toInt32) &&& (31 : Int32)))), (.int (own_dc ((y5_.toInt32) &&& (31 : Int32)))), (.int (own_dc ((y4_.toInt32) &&& (31 : Int32)))), (.int (own_dc ((y3_.toInt32) &&& (31 : Int32)))), (.int (own_dc ((y2_.toInt32) &&& (31 : Int32)))), (.int (own_dc ((y1_.toInt32) &&& (31 : Int32)))), (.int (own_dc ((lq.toInt32) &&& (31 : Int32))))] (.int (0 : Int32)) := Arv.set Ar44 q44 Sz44 Ng44 Hs44 Ft44 ft44 W44 6 rfl (Nat.le_of_ble_eq_true rfl)
  have K44 := K42.wr W44 (Or.inr sz_dd)
  have N44 := Fr.snoc X44 N43 g_dd
  refine GoesW.pre (U' := T44.setTop (mkF m 54 #[.val (.ref a), .val (.ref dd), .val (.long x19_), .second, .val (.long (((y19_.toUInt64 >>> ((5 : Int32) &&& 0x3f).toInt64.toUInt64).toInt64) ||| (x19_ <<< ((59 : Int32) &&& 0x3f).toInt64))), .second, .val (.int (6 : Int32))] [(.long ((x19_.toUInt64 >>> ((5 : Int32) &&& 0x3f).toInt64.toUInt64).toInt64))])) (fun t k => st44 t (XS.lload X44.here hx rfl (hb hby d19_40) rfl (XS.iconst X44.here hx rfl (hb hby d19_42) (XS.lushr X44.here hx rfl (hb hby d19_43) rfl (XS.lloadN X44.here hx rfl (hb hby d19_44) rfl (XS.bipush X44.here hx rfl (hb hby d19_45) (XS.lshl X44.here hx rfl (hb hby d19_47) rfl (XS.lor X44.here hx rfl (hb hby d19_48) rfl (XS.lstore X44.here hx rfl (hb hby d19_49) rfl (l' := #[.val (.ref a), .val (.ref dd), .val (.long x19_), .second, .val (.long (((y19_.toUInt64 >>> ((5 : Int32) &&& 0x3f).toInt64.toUInt64).toInt64) ||| (x19_ <<< ((59 : Int32) &&& 0x3f).toInt64))), .second, .val (.int (6 : Int32))]) rfl (XS.lloadN X44.here hx rfl (hb hby d19_51) rfl (XS.iconst X44.here hx rfl (hb hby d19_52) (XS.lushr X44.here hx rfl (hb hby d19_53) rfl k)))))))))))) ?_
  refine GoesW.pre (U' := T44.setTop (mkF m 58 #[.val (.ref a), .val (.ref dd), .val (.long ((x19_.toUInt64 >>> ((5 : Int32) &&& 0x3f).toInt64.toUInt64).toInt64)), .second, .val (.long (((y19_.toUInt64 >>> ((5 : Int32) &&& 0x3f).toInt64.toUInt64).toInt64) ||| (x19_ <<< ((59 : Int32) &&& 0x3f).toInt64))), .second, .val (.int ((6 : Int32) + (-1 : Int32)))] [])) (fun t k => XS.lstoreN X44.here hx rfl (hb hby d19_54) rfl (l' := #[.val (.ref a), .val (.ref dd), .val (.long ((x19_.toUInt64 >>> ((5 : Int32) &&& 0x3f).toInt64.toUInt64).toInt64)), .second, .val (.long (((y19_.toUInt64 >>> ((5 : Int32) &&& 0x3f).toInt64.toUInt64).toInt64) ||| (x19_ <<< ((59 : Int32) &&& 0x3f).toInt64))), .second, .val (.int (6 : Int32))]) rfl (XT.iincV X44.here hx rfl (-1 : Int32) (hb hby d19_55) (by decide) rfl (l' := #[.val (.ref a), .val (.ref dd), .val (.long ((x19_.toUInt64 >>> ((5 : Int32) &&& 0x3f).toInt64.toUInt64).toInt64)), .second, .val (.long (((y19_.toUInt64 >>> ((5 : Int32) &&& 0x3f).toInt64.toUInt64).toInt64) ||| (x19_ <<< ((59 : Int32) &&& 0x3f).toInt64))), .second, .val (.int ((6 : Int32) + (-1 : Int32)))]) rfl k)) ?_
  rw [(by decide : ((6 : Int32) + (-1 : Int32)) = (5 : Int32))]
  refine GoesW.pre (U' := T44.setTop (mkF m 20 #[.val (.ref a), .val (.ref dd), .val (.long ((x19_.toUInt64 >>> ((5 : Int32) &&& 0x3f).toInt64.toUInt64).toInt64)), .second, .val (.long (((y19_.toUInt64 >>> ((5 : Int32) &&& 0x3f).toInt64.toUInt64).toInt64) ||| (x19_ <<< ((59 : Int32) &&& 0x3f).toInt64))), .second, .val (.int (5 : Int32))] [])) (fun t k => XS.goto X44.here hx rfl (pc0 := 58) (pc' := 20) rfl (hb hby d19_58) (by decide) (by decide) k) ?_
  obtain ⟨x20_, hx20_⟩ : ∃ z, z = ((x19_.toUInt64 >>> ((5 : Int32) &&& 0x3f).toInt64.toUInt64).toInt64) := ⟨_, rfl⟩
  obtain ⟨y20_, hy20_⟩ : ∃ z, z = (((y19_.toUInt64 >>> ((5 : Int32) &&& 0x3f).toInt64.toUInt64).toInt64) ||| (x19_ <<< ((59 : Int32) &&& 0x3f).toInt64)) := ⟨_, rfl⟩
  rw [← hx20_, ← hy20_]
  have eq20_ : own_q hq lq 20 = (x20_, y20_) := (own_qs hq lq 19).trans (by rw [eq19_, hx20_, hy20_]; rfl)
  refine GoesW.pre (U' := T44.setTop (mkF m 22 #[.val (.ref a), .val (.ref dd), .val (.long x20_), .second, .val (.long y20_), .second, .val (.int (5 : Int32))] [(.int (5 : Int32))])) (fun t k => XS.iload X44.here hx rfl (hb hby d19_20) rfl k) ?_
  have hc22 : ¬ ((5 : Int32) < (0 : Int32)) := by decide
  refine GoesW.pre (U' := T44.setTop (mkF m 36 #[.val (.ref a), .val (.ref dd), .val (.long x20_), .second, .val (.long y20_), .second, .val (.int (5 : Int32))] [(.int ((y20_.toInt32) &&& (31 : Int32))), (.ref ls4), (.int (5 : Int32)), (.ref dd)])) (fun t k => XS.ifNo X44.here hx rfl (hb hby d19_22) rfl ((if0 _ _).trans (flt hc22).1) (XS.aloadN X44.here hx rfl (hb hby d19_25) rfl rfl (XS.iload X44.here hx rfl (hb hby d19_26) rfl (ldcAgain X44 hx hZ hown (wq hw 103 rfl) Li_ls4 (g := (mkF m 28 #[.val (.ref a), .val (.ref dd), .val (.long x20_), .second, .val (.long y20_), .second, .val (.int (5 : Int32))] [(.int (5 : Int32)), (.ref dd)])) rfl (hb hby d19_28) t (XS.lload X44.here hx rfl (hb hby d19_30) rfl (XS.l2i X44.here hx rfl (hb hby d19_32) rfl (XS.bipush X44.here hx rfl (hb hby d19_33) (XS.iand X44.here hx rfl (hb hby d19_35) rfl k)))))))) ?_
  obtain ⟨cq45, kq45, q45a, q45b, q45c⟩ := isOf hZ e44 S_ls4.1
  obtain ⟨_, _, ⟨T45, L45, k45, n45⟩, -, X45, ⟨Lc45, hQ45, l45, y45, z45⟩, st45⟩ := X44.virtualBack hx (y := (⟨"java/lang/String", "charAt", "(I)C"⟩ : MethodName)) (z := (⟨"java/lang/String", "charAt", "(I)C"⟩ : MethodName)) hown (mvT hZ (wq hw 78 rfl)) (mvT hZ (wq hw 15 rfl)) (notFace_of_selects (args := #[]) (mvT hZ (wq hw 17 rfl))) (mvT hZ (wq hw 17 rfl)) (mvT hZ (wq hw 16 rfl)) (by decide) (backOf (W := 2) (rm_chG l Z a0 hw [] ls4 lb4 kl4 own_lit ((y20_.toInt32) &&& (31 : Int32)) cs sf h44 n0 Z44 S_ls4 S_COMPACT_STRINGS S_SIOOBE_FORMATTER (own_a31 _).1 (own_a31 _).2 (by decide) hcs hsf O) hZ (wq hw 18 rfl) (wq hw 7 rfl) (by decide) (by decide)) q45a q45c (g := (mkF m 36 #[.val (.ref a), .val (.ref dd), .val (.long x20_), .second, .val (.long y20_), .second, .val (.int (5 : Int32))] [(.int ((y20_.toInt32) &&& (31 : Int32))), (.ref ls4), (.int (5 : Int32)), (.ref dd)])) rfl (by rw [hml]; rfl) (Steps.refl _) (argsL := [(.int ((y20_.toInt32) &&& (31 : Int32)))]) (rest := [(.int (5 : Int32)), (.ref dd)]) (lenOf pd__28I_29C rfl) rfl (by show 2 * 0 + _ ≤ _; exact Nat.le_of_eq rfl) (hb hby d19_36) (fun _ _ => ⟨rfl, e44, (by decide : 3 + 0 ≤ _), (by decide : 158 + 0 ≤ _)⟩)
  dsimp only [Pt.U, Pt.locs, Pt.cells, Pt.slots] at X45 l45 y45 z45 st45 hQ45
  rw [l45, y45, z45] at X45
  obtain ⟨rfl, N45q, HQ45⟩ := hQ45
  have N45 := Fr.app N44 N45q
  refine GoesW.pre (U' := T45.setTop (mkF m 39 #[.val (.ref a), .val (.ref dd), .val (.long x20_), .second, .val (.long y20_), .second, .val (.int (5 : Int32))] [(.int (own_lit.getD ((y20_.toInt32) &&& (31 : Int32)).toNatClampNeg 0)), (.int (5 : Int32)), (.ref dd)])) (fun t k => st45.trans k) ?_
  obtain ⟨cl46, Ar46, q46, Sz46, Ng46, Hs46, Ft46⟩ := id V_dd
  obtain ⟨T46, h46, X46, e46, W46, st46⟩ := stC X45 hx hZ HQ45 Ar46 (j := (5 : Int32)) (inb_of Sz46 ⟨by decide, by decide⟩) (g := (mkF m 39 #[.val (.ref a), .val (.ref dd), .val (.long x20_), .second, .val (.long y20_), .second, .val (.int (5 : Int32))] [(.int (own_lit.getD ((y20_.toInt32) &&& (31 : Int32)).toNatClampNeg 0)), (.int (5 : Int32)), (.ref dd)])) rfl rfl (hb hby d19_39)
  have nr46 : nar .char (own_lit.getD ((y20_.toInt32) &&& (31 : Int32)).toNatClampNeg 0) = (own_dc ((y20_.toInt32) &&& (31 : Int32))) := own_nch _ (own_lit_ch _)
  have ft46 : fits .char (.int (own_dc ((y20_.toInt32) &&& (31 : Int32)))) = true := nr46 ▸ (fits_nar_char (own_lit.getD ((y20_.toInt32) &&& (31 : Int32)).toNatClampNeg 0) : fits .char (.int (nar .char (own_lit.getD ((y20_.toInt32) &&& (31 : Int32)).toNatClampNeg 0))) = true)
  rw [nr46] at W46
  have F_high_a := F_high_a.other W46 (Or.inl ne_a_dd)
  have F_low_a := F_low_a.other W46 (Or.inl ne_a_dd)
  have E_dd := E_dd.wr W46
  have S_ls4 := S_ls4.keep (Keep.of_wr W46) (ninS ne_ls4_dd nin0) (ninS ne_lb4_dd nin0)
  have Z46 : n0 ≤ h46.size := Nat.le_trans Z44 (Keep.of_wr W46).1
  have O := O.wr W46 g_dd
  have SFo := SF_dd
  have SF_dd := Safe.wr W46 SFo H SF_dd
  have CR := CR.trans (CHr.wr W46 SFo H)
  have H := H.wr W46 SFo
  have hk := Nat.le_trans hk (Keep.of_wr W46).1
  have V_dd : Arv Z h46 dd k1 .char (26 : Int32) [(.int (0 : Int32)), (.int (0 : Int32)), (.int (0 : Int32)), (.int (0 : Int32)), (.int (0 : Int32)), (.int (own_dc ((y20_.toInt32) &&& (31 : Int32)))), (.int (own_dc ((y19_.toInt32) &&& (31 : Int32)))), (.int (own_dc ((y18_.toInt32) &&& (31 : Int32)))), (.int (own_dc ((y17_.toInt32) &&& (31 : Int32)))), (.int (own_dc ((y16_.toInt32) &&& (31 : Int32)))), (.int (own_dc ((y15_.toInt32) &&& (31 : Int32)))), (.int (own_dc ((y14_.toInt32) &&& (31 : Int32)))), (.int (own_dc ((y13_.toInt32) &&& (31 : Int32)))), (.int (own_dc ((y12_.toInt32) &&& (31 : Int32)))), (.int (own_dc ((y11_.toInt32) &&& (31 : Int32)))), (.int (own_dc ((y10_.toInt32) &&& (31 : Int32)))), (.int (own_dc ((y9_.toInt32) &&& (31 : Int32)))), (.int (own_dc ((y8_.toInt32) &&& (31 : Int32)))), (.int (own_dc ((y7_.toInt32) &&& (31 : Int32)))), (.int (own_dc ((y6_.toInt32) &&& (31 : Int32)))), (.int (own_dc ((y5_.toInt32) &&& (31 : Int32)))), (.int (own_dc ((y4_.toInt32) &&& (31 : Int32)))), (.int (own_dc ((y3_.toInt32) &&& (31 : Int32)))), (.int (own_dc ((y2_.toInt32) &&& (31 : Int32)))), (.int (own_dc ((y1_.toInt32) &&& (31 : Int32)))), (.int (own_dc ((lq.toInt32) &&& (31 : Int32))))] (.int (0 : Int32)) := Arv.set Ar46 q46 Sz46 Ng46 Hs46 Ft46 ft46 W46 5 rfl (Nat.le_of_ble_eq_true rfl)
  have K46 := K44.wr W46 (Or.inr sz_dd)
  have N46 := Fr.snoc X46 N45 g_dd
  refine GoesW.pre (U' := T46.setTop (mkF m 54 #[.val (.ref a), .val (.ref dd), .val (.long x20_), .second, .val (.long (((y20_.toUInt64 >>> ((5 : Int32) &&& 0x3f).toInt64.toUInt64).toInt64) ||| (x20_ <<< ((59 : Int32) &&& 0x3f).toInt64))), .second, .val (.int (5 : Int32))] [(.long ((x20_.toUInt64 >>> ((5 : Int32) &&& 0x3f).toInt64.toUInt64).toInt64))])) (fun t k => st46 t (XS.lload X46.here hx rfl (hb hby d19_40) rfl (XS.iconst X46.here hx rfl (hb hby d19_42) (XS.lushr X46.here hx rfl (hb hby d19_43) rfl (XS.lloadN X46.here hx rfl (hb hby d19_44) rfl (XS.bipush X46.here hx rfl (hb hby d19_45) (XS.lshl X46.here hx rfl (hb hby d19_47) rfl (XS.lor X46.here hx rfl (hb hby d19_48) rfl (XS.lstore X46.here hx rfl (hb hby d19_49) rfl (l' := #[.val (.ref a), .val (.ref dd), .val (.long x20_), .second, .val (.long (((y20_.toUInt64 >>> ((5 : Int32) &&& 0x3f).toInt64.toUInt64).toInt64) ||| (x20_ <<< ((59 : Int32) &&& 0x3f).toInt64))), .second, .val (.int (5 : Int32))]) rfl (XS.lloadN X46.here hx rfl (hb hby d19_51) rfl (XS.iconst X46.here hx rfl (hb hby d19_52) (XS.lushr X46.here hx rfl (hb hby d19_53) rfl k)))))))))))) ?_
  refine GoesW.pre (U' := T46.setTop (mkF m 58 #[.val (.ref a), .val (.ref dd), .val (.long ((x20_.toUInt64 >>> ((5 : Int32) &&& 0x3f).toInt64.toUInt64).toInt64)), .second, .val (.long (((y20_.toUInt64 >>> ((5 : Int32) &&& 0x3f).toInt64.toUInt64).toInt64) ||| (x20_ <<< ((59 : Int32) &&& 0x3f).toInt64))), .second, .val (.int ((5 : Int32) + (-1 : Int32)))] [])) (fun t k => XS.lstoreN X46.here hx rfl (hb hby d19_54) rfl (l' := #[.val (.ref a), .val (.ref dd), .val (.long ((x20_.toUInt64 >>> ((5 : Int32) &&& 0x3f).toInt64.toUInt64).toInt64)), .second, .val (.long (((y20_.toUInt64 >>> ((5 : Int32) &&& 0x3f).toInt64.toUInt64).toInt64) ||| (x20_ <<< ((59 : Int32) &&& 0x3f).toInt64))), .second, .val (.int (5 : Int32))]) rfl (XT.iincV X46.here hx rfl (-1 : Int32) (hb hby d19_55) (by decide) rfl (l' := #[.val (.ref a), .val (.ref dd), .val (.long ((x20_.toUInt64 >>> ((5 : Int32) &&& 0x3f).toInt64.toUInt64).toInt64)), .second, .val (.long (((y20_.toUInt64 >>> ((5 : Int32) &&& 0x3f).toInt64.toUInt64).toInt64) ||| (x20_ <<< ((59 : Int32) &&& 0x3f).toInt64))), .second, .val (.int ((5 : Int32) + (-1 : Int32)))]) rfl k)) ?_
  rw [(by decide : ((5 : Int32) + (-1 : Int32)) = (4 : Int32))]
  refine GoesW.pre (U' := T46.setTop (mkF m 20 #[.val (.ref a), .val (.ref dd), .val (.long ((x20_.toUInt64 >>> ((5 : Int32) &&& 0x3f).toInt64.toUInt64).toInt64)), .second, .val (.long (((y20_.toUInt64 >>> ((5 : Int32) &&& 0x3f).toInt64.toUInt64).toInt64) ||| (x20_ <<< ((59 : Int32) &&& 0x3f).toInt64))), .second, .val (.int (4 : Int32))] [])) (fun t k => XS.goto X46.here hx rfl (pc0 := 58) (pc' := 20) rfl (hb hby d19_58) (by decide) (by decide) k) ?_
  obtain ⟨x21_, hx21_⟩ : ∃ z, z = ((x20_.toUInt64 >>> ((5 : Int32) &&& 0x3f).toInt64.toUInt64).toInt64) := ⟨_, rfl⟩
  obtain ⟨y21_, hy21_⟩ : ∃ z, z = (((y20_.toUInt64 >>> ((5 : Int32) &&& 0x3f).toInt64.toUInt64).toInt64) ||| (x20_ <<< ((59 : Int32) &&& 0x3f).toInt64)) := ⟨_, rfl⟩
  rw [← hx21_, ← hy21_]
  have eq21_ : own_q hq lq 21 = (x21_, y21_) := (own_qs hq lq 20).trans (by rw [eq20_, hx21_, hy21_]; rfl)
  refine GoesW.pre (U' := T46.setTop (mkF m 22 #[.val (.ref a), .val (.ref dd), .val (.long x21_), .second, .val (.long y21_), .second, .val (.int (4 : Int32))] [(.int (4 : Int32))])) (fun t k => XS.iload X46.here hx rfl (hb hby d19_20) rfl k) ?_
  have hc22 : ¬ ((4 : Int32) < (0 : Int32)) := by decide
  refine GoesW.pre (U' := T46.setTop (mkF m 36 #[.val (.ref a), .val (.ref dd), .val (.long x21_), .second, .val (.long y21_), .second, .val (.int (4 : Int32))] [(.int ((y21_.toInt32) &&& (31 : Int32))), (.ref ls4), (.int (4 : Int32)), (.ref dd)])) (fun t k => XS.ifNo X46.here hx rfl (hb hby d19_22) rfl ((if0 _ _).trans (flt hc22).1) (XS.aloadN X46.here hx rfl (hb hby d19_25) rfl rfl (XS.iload X46.here hx rfl (hb hby d19_26) rfl (ldcAgain X46 hx hZ hown (wq hw 103 rfl) Li_ls4 (g := (mkF m 28 #[.val (.ref a), .val (.ref dd), .val (.long x21_), .second, .val (.long y21_), .second, .val (.int (4 : Int32))] [(.int (4 : Int32)), (.ref dd)])) rfl (hb hby d19_28) t (XS.lload X46.here hx rfl (hb hby d19_30) rfl (XS.l2i X46.here hx rfl (hb hby d19_32) rfl (XS.bipush X46.here hx rfl (hb hby d19_33) (XS.iand X46.here hx rfl (hb hby d19_35) rfl k)))))))) ?_
  obtain ⟨cq47, kq47, q47a, q47b, q47c⟩ := isOf hZ e46 S_ls4.1
  obtain ⟨_, _, ⟨T47, L47, k47, n47⟩, -, X47, ⟨Lc47, hQ47, l47, y47, z47⟩, st47⟩ := X46.virtualBack hx (y := (⟨"java/lang/String", "charAt", "(I)C"⟩ : MethodName)) (z := (⟨"java/lang/String", "charAt", "(I)C"⟩ : MethodName)) hown (mvT hZ (wq hw 78 rfl)) (mvT hZ (wq hw 15 rfl)) (notFace_of_selects (args := #[]) (mvT hZ (wq hw 17 rfl))) (mvT hZ (wq hw 17 rfl)) (mvT hZ (wq hw 16 rfl)) (by decide) (backOf (W := 2) (rm_chG l Z a0 hw [] ls4 lb4 kl4 own_lit ((y21_.toInt32) &&& (31 : Int32)) cs sf h46 n0 Z46 S_ls4 S_COMPACT_STRINGS S_SIOOBE_FORMATTER (own_a31 _).1 (own_a31 _).2 (by decide) hcs hsf O) hZ (wq hw 18 rfl) (wq hw 7 rfl) (by decide) (by decide)) q47a q47c (g := (mkF m 36 #[.val (.ref a), .val (.ref dd), .val (.long x21_), .second, .val (.long y21_), .second, .val (.int (4 : Int32))] [(.int ((y21_.toInt32) &&& (31 : Int32))), (.ref ls4), (.int (4 : Int32)), (.ref dd)])) rfl (by rw [hml]; rfl) (Steps.refl _) (argsL := [(.int ((y21_.toInt32) &&& (31 : Int32)))]) (rest := [(.int (4 : Int32)), (.ref dd)]) (lenOf pd__28I_29C rfl) rfl (by show 2 * 0 + _ ≤ _; exact Nat.le_of_eq rfl) (hb hby d19_36) (fun _ _ => ⟨rfl, e46, (by decide : 3 + 0 ≤ _), (by decide : 158 + 0 ≤ _)⟩)
  dsimp only [Pt.U, Pt.locs, Pt.cells, Pt.slots] at X47 l47 y47 z47 st47 hQ47
  rw [l47, y47, z47] at X47
  obtain ⟨rfl, N47q, HQ47⟩ := hQ47
  have N47 := Fr.app N46 N47q
  refine GoesW.pre (U' := T47.setTop (mkF m 39 #[.val (.ref a), .val (.ref dd), .val (.long x21_), .second, .val (.long y21_), .second, .val (.int (4 : Int32))] [(.int (own_lit.getD ((y21_.toInt32) &&& (31 : Int32)).toNatClampNeg 0)), (.int (4 : Int32)), (.ref dd)])) (fun t k => st47.trans k) ?_
  obtain ⟨cl48, Ar48, q48, Sz48, Ng48, Hs48, Ft48⟩ := id V_dd
  obtain ⟨T48, h48, X48, e48, W48, st48⟩ := stC X47 hx hZ HQ47 Ar48 (j := (4 : Int32)) (inb_of Sz48 ⟨by decide, by decide⟩) (g := (mkF m 39 #[.val (.ref a), .val (.ref dd), .val (.long x21_), .second, .val (.long y21_), .second, .val (.int (4 : Int32))] [(.int (own_lit.getD ((y21_.toInt32) &&& (31 : Int32)).toNatClampNeg 0)), (.int (4 : Int32)), (.ref dd)])) rfl rfl (hb hby d19_39)
  have nr48 : nar .char (own_lit.getD ((y21_.toInt32) &&& (31 : Int32)).toNatClampNeg 0) = (own_dc ((y21_.toInt32) &&& (31 : Int32))) := own_nch _ (own_lit_ch _)
  have ft48 : fits .char (.int (own_dc ((y21_.toInt32) &&& (31 : Int32)))) = true := nr48 ▸ (fits_nar_char (own_lit.getD ((y21_.toInt32) &&& (31 : Int32)).toNatClampNeg 0) : fits .char (.int (nar .char (own_lit.getD ((y21_.toInt32) &&& (31 : Int32)).toNatClampNeg 0))) = true)
  rw [nr48] at W48
  have F_high_a := F_high_a.other W48 (Or.inl ne_a_dd)
  have F_low_a := F_low_a.other W48 (Or.inl ne_a_dd)
  have E_dd := E_dd.wr W48
  have S_ls4 := S_ls4.keep (Keep.of_wr W48) (ninS ne_ls4_dd nin0) (ninS ne_lb4_dd nin0)
  have Z48 : n0 ≤ h48.size := Nat.le_trans Z46 (Keep.of_wr W48).1
  have O := O.wr W48 g_dd
  have SFo := SF_dd
  have SF_dd := Safe.wr W48 SFo H SF_dd
  have CR := CR.trans (CHr.wr W48 SFo H)
  have H := H.wr W48 SFo
  have hk := Nat.le_trans hk (Keep.of_wr W48).1
  have V_dd : Arv Z h48 dd k1 .char (26 : Int32) [(.int (0 : Int32)), (.int (0 : Int32)), (.int (0 : Int32)), (.int (0 : Int32)), (.int (own_dc ((y21_.toInt32) &&& (31 : Int32)))), (.int (own_dc ((y20_.toInt32) &&& (31 : Int32)))), (.int (own_dc ((y19_.toInt32) &&& (31 : Int32)))), (.int (own_dc ((y18_.toInt32) &&& (31 : Int32)))), (.int (own_dc ((y17_.toInt32) &&& (31 : Int32)))), (.int (own_dc ((y16_.toInt32) &&& (31 : Int32)))), (.int (own_dc ((y15_.toInt32) &&& (31 : Int32)))), (.int (own_dc ((y14_.toInt32) &&& (31 : Int32)))), (.int (own_dc ((y13_.toInt32) &&& (31 : Int32)))), (.int (own_dc ((y12_.toInt32) &&& (31 : Int32)))), (.int (own_dc ((y11_.toInt32) &&& (31 : Int32)))), (.int (own_dc ((y10_.toInt32) &&& (31 : Int32)))), (.int (own_dc ((y9_.toInt32) &&& (31 : Int32)))), (.int (own_dc ((y8_.toInt32) &&& (31 : Int32)))), (.int (own_dc ((y7_.toInt32) &&& (31 : Int32)))), (.int (own_dc ((y6_.toInt32) &&& (31 : Int32)))), (.int (own_dc ((y5_.toInt32) &&& (31 : Int32)))), (.int (own_dc ((y4_.toInt32) &&& (31 : Int32)))), (.int (own_dc ((y3_.toInt32) &&& (31 : Int32)))), (.int (own_dc ((y2_.toInt32) &&& (31 : Int32)))), (.int (own_dc ((y1_.toInt32) &&& (31 : Int32)))), (.int (own_dc ((lq.toInt32) &&& (31 : Int32))))] (.int (0 : Int32)) := Arv.set Ar48 q48 Sz48 Ng48 Hs48 Ft48 ft48 W48 4 rfl (Nat.le_of_ble_eq_true rfl)
  have K48 := K46.wr W48 (Or.inr sz_dd)
  have N48 := Fr.snoc X48 N47 g_dd
  refine GoesW.pre (U' := T48.setTop (mkF m 54 #[.val (.ref a), .val (.ref dd), .val (.long x21_), .second, .val (.long (((y21_.toUInt64 >>> ((5 : Int32) &&& 0x3f).toInt64.toUInt64).toInt64) ||| (x21_ <<< ((59 : Int32) &&& 0x3f).toInt64))), .second, .val (.int (4 : Int32))] [(.long ((x21_.toUInt64 >>> ((5 : Int32) &&& 0x3f).toInt64.toUInt64).toInt64))])) (fun t k => st48 t (XS.lload X48.here hx rfl (hb hby d19_40) rfl (XS.iconst X48.here hx rfl (hb hby d19_42) (XS.lushr X48.here hx rfl (hb hby d19_43) rfl (XS.lloadN X48.here hx rfl (hb hby d19_44) rfl (XS.bipush X48.here hx rfl (hb hby d19_45) (XS.lshl X48.here hx rfl (hb hby d19_47) rfl (XS.lor X48.here hx rfl (hb hby d19_48) rfl (XS.lstore X48.here hx rfl (hb hby d19_49) rfl (l' := #[.val (.ref a), .val (.ref dd), .val (.long x21_), .second, .val (.long (((y21_.toUInt64 >>> ((5 : Int32) &&& 0x3f).toInt64.toUInt64).toInt64) ||| (x21_ <<< ((59 : Int32) &&& 0x3f).toInt64))), .second, .val (.int (4 : Int32))]) rfl (XS.lloadN X48.here hx rfl (hb hby d19_51) rfl (XS.iconst X48.here hx rfl (hb hby d19_52) (XS.lushr X48.here hx rfl (hb hby d19_53) rfl k)))))))))))) ?_
  refine GoesW.pre (U' := T48.setTop (mkF m 58 #[.val (.ref a), .val (.ref dd), .val (.long ((x21_.toUInt64 >>> ((5 : Int32) &&& 0x3f).toInt64.toUInt64).toInt64)), .second, .val (.long (((y21_.toUInt64 >>> ((5 : Int32) &&& 0x3f).toInt64.toUInt64).toInt64) ||| (x21_ <<< ((59 : Int32) &&& 0x3f).toInt64))), .second, .val (.int ((4 : Int32) + (-1 : Int32)))] [])) (fun t k => XS.lstoreN X48.here hx rfl (hb hby d19_54) rfl (l' := #[.val (.ref a), .val (.ref dd), .val (.long ((x21_.toUInt64 >>> ((5 : Int32) &&& 0x3f).toInt64.toUInt64).toInt64)), .second, .val (.long (((y21_.toUInt64 >>> ((5 : Int32) &&& 0x3f).toInt64.toUInt64).toInt64) ||| (x21_ <<< ((59 : Int32) &&& 0x3f).toInt64))), .second, .val (.int (4 : Int32))]) rfl (XT.iincV X48.here hx rfl (-1 : Int32) (hb hby d19_55) (by decide) rfl (l' := #[.val (.ref a), .val (.ref dd), .val (.long ((x21_.toUInt64 >>> ((5 : Int32) &&& 0x3f).toInt64.toUInt64).toInt64)), .second, .val (.long (((y21_.toUInt64 >>> ((5 : Int32) &&& 0x3f).toInt64.toUInt64).toInt64) ||| (x21_ <<< ((59 : Int32) &&& 0x3f).toInt64))), .second, .val (.int ((4 : Int32) + (-1 : Int32)))]) rfl k)) ?_
  rw [(by decide : ((4 : Int32) + (-1 : Int32)) = (3 : Int32))]
  refine GoesW.pre (U' := T48.setTop (mkF m 20 #[.val (.ref a), .val (.ref dd), .val (.long ((x21_.toUInt64 >>> ((5 : Int32) &&& 0x3f).toInt64.toUInt64).toInt64)), .second, .val (.long (((y21_.toUInt64 >>> ((5 : Int32) &&& 0x3f).toInt64.toUInt64).toInt64) ||| (x21_ <<< ((59 : Int32) &&& 0x3f).toInt64))), .second, .val (.int (3 : Int32))] [])) (fun t k => XS.goto X48.here hx rfl (pc0 := 58) (pc' := 20) rfl (hb hby d19_58) (by decide) (by decide) k) ?_
  obtain ⟨x22_, hx22_⟩ : ∃ z, z = ((x21_.toUInt64 >>> ((5 : Int32) &&& 0x3f).toInt64.toUInt64).toInt64) := ⟨_, rfl⟩
  obtain ⟨y22_, hy22_⟩ : ∃ z, z = (((y21_.toUInt64 >>> ((5 : Int32) &&& 0x3f).toInt64.toUInt64).toInt64) ||| (x21_ <<< ((59 : Int32) &&& 0x3f).toInt64)) := ⟨_, rfl⟩
  rw [← hx22_, ← hy22_]
  have eq22_ : own_q hq lq 22 = (x22_, y22_) := (own_qs hq lq 21).trans (by rw [eq21_, hx22_, hy22_]; rfl)
  refine GoesW.pre (U' := T48.setTop (mkF m 22 #[.val (.ref a), .val (.ref dd), .val (.long x22_), .second, .val (.long y22_), .second, .val (.int (3 : Int32))] [(.int (3 : Int32))])) (fun t k => XS.iload X48.here hx rfl (hb hby d19_20) rfl k) ?_
  have hc22 : ¬ ((3 : Int32) < (0 : Int32)) := by decide
  refine GoesW.pre (U' := T48.setTop (mkF m 36 #[.val (.ref a), .val (.ref dd), .val (.long x22_), .second, .val (.long y22_), .second, .val (.int (3 : Int32))] [(.int ((y22_.toInt32) &&& (31 : Int32))), (.ref ls4), (.int (3 : Int32)), (.ref dd)])) (fun t k => XS.ifNo X48.here hx rfl (hb hby d19_22) rfl ((if0 _ _).trans (flt hc22).1) (XS.aloadN X48.here hx rfl (hb hby d19_25) rfl rfl (XS.iload X48.here hx rfl (hb hby d19_26) rfl (ldcAgain X48 hx hZ hown (wq hw 103 rfl) Li_ls4 (g := (mkF m 28 #[.val (.ref a), .val (.ref dd), .val (.long x22_), .second, .val (.long y22_), .second, .val (.int (3 : Int32))] [(.int (3 : Int32)), (.ref dd)])) rfl (hb hby d19_28) t (XS.lload X48.here hx rfl (hb hby d19_30) rfl (XS.l2i X48.here hx rfl (hb hby d19_32) rfl (XS.bipush X48.here hx rfl (hb hby d19_33) (XS.iand X48.here hx rfl (hb hby d19_35) rfl k)))))))) ?_
  obtain ⟨cq49, kq49, q49a, q49b, q49c⟩ := isOf hZ e48 S_ls4.1
  obtain ⟨_, _, ⟨T49, L49, k49, n49⟩, -, X49, ⟨Lc49, hQ49, l49, y49, z49⟩, st49⟩ := X48.virtualBack hx (y := (⟨"java/lang/String", "charAt", "(I)C"⟩ : MethodName)) (z := (⟨"java/lang/String", "charAt", "(I)C"⟩ : MethodName)) hown (mvT hZ (wq hw 78 rfl)) (mvT hZ (wq hw 15 rfl)) (notFace_of_selects (args := #[]) (mvT hZ (wq hw 17 rfl))) (mvT hZ (wq hw 17 rfl)) (mvT hZ (wq hw 16 rfl)) (by decide) (backOf (W := 2) (rm_chG l Z a0 hw [] ls4 lb4 kl4 own_lit ((y22_.toInt32) &&& (31 : Int32)) cs sf h48 n0 Z48 S_ls4 S_COMPACT_STRINGS S_SIOOBE_FORMATTER (own_a31 _).1 (own_a31 _).2 (by decide) hcs hsf O) hZ (wq hw 18 rfl) (wq hw 7 rfl) (by decide) (by decide)) q49a q49c (g := (mkF m 36 #[.val (.ref a), .val (.ref dd), .val (.long x22_), .second, .val (.long y22_), .second, .val (.int (3 : Int32))] [(.int ((y22_.toInt32) &&& (31 : Int32))), (.ref ls4), (.int (3 : Int32)), (.ref dd)])) rfl (by rw [hml]; rfl) (Steps.refl _) (argsL := [(.int ((y22_.toInt32) &&& (31 : Int32)))]) (rest := [(.int (3 : Int32)), (.ref dd)]) (lenOf pd__28I_29C rfl) rfl (by show 2 * 0 + _ ≤ _; exact Nat.le_of_eq rfl) (hb hby d19_36) (fun _ _ => ⟨rfl, e48, (by decide : 3 + 0 ≤ _), (by decide : 158 + 0 ≤ _)⟩)
  dsimp only [Pt.U, Pt.locs, Pt.cells, Pt.slots] at X49 l49 y49 z49 st49 hQ49
  rw [l49, y49, z49] at X49
  obtain ⟨rfl, N49q, HQ49⟩ := hQ49
  have N49 := Fr.app N48 N49q
  refine GoesW.pre (U' := T49.setTop (mkF m 39 #[.val (.ref a), .val (.ref dd), .val (.long x22_), .second, .val (.long y22_), .second, .val (.int (3 : Int32))] [(.int (own_lit.getD ((y22_.toInt32) &&& (31 : Int32)).toNatClampNeg 0)), (.int (3 : Int32)), (.ref dd)])) (fun t k => st49.trans k) ?_
  obtain ⟨cl50, Ar50, q50, Sz50, Ng50, Hs50, Ft50⟩ := id V_dd
  obtain ⟨T50, h50, X50, e50, W50, st50⟩ := stC X49 hx hZ HQ49 Ar50 (j := (3 : Int32)) (inb_of Sz50 ⟨by decide, by decide⟩) (g := (mkF m 39 #[.val (.ref a), .val (.ref dd), .val (.long x22_), .second, .val (.long y22_), .second, .val (.int (3 : Int32))] [(.int (own_lit.getD ((y22_.toInt32) &&& (31 : Int32)).toNatClampNeg 0)), (.int (3 : Int32)), (.ref dd)])) rfl rfl (hb hby d19_39)
  have nr50 : nar .char (own_lit.getD ((y22_.toInt32) &&& (31 : Int32)).toNatClampNeg 0) = (own_dc ((y22_.toInt32) &&& (31 : Int32))) := own_nch _ (own_lit_ch _)
  have ft50 : fits .char (.int (own_dc ((y22_.toInt32) &&& (31 : Int32)))) = true := nr50 ▸ (fits_nar_char (own_lit.getD ((y22_.toInt32) &&& (31 : Int32)).toNatClampNeg 0) : fits .char (.int (nar .char (own_lit.getD ((y22_.toInt32) &&& (31 : Int32)).toNatClampNeg 0))) = true)
  rw [nr50] at W50
  have F_high_a := F_high_a.other W50 (Or.inl ne_a_dd)
  have F_low_a := F_low_a.other W50 (Or.inl ne_a_dd)
  have E_dd := E_dd.wr W50
  have S_ls4 := S_ls4.keep (Keep.of_wr W50) (ninS ne_ls4_dd nin0) (ninS ne_lb4_dd nin0)
  have Z50 : n0 ≤ h50.size := Nat.le_trans Z48 (Keep.of_wr W50).1
  have O := O.wr W50 g_dd
  have SFo := SF_dd
  have SF_dd := Safe.wr W50 SFo H SF_dd
  have CR := CR.trans (CHr.wr W50 SFo H)
  have H := H.wr W50 SFo
  have hk := Nat.le_trans hk (Keep.of_wr W50).1
  have V_dd : Arv Z h50 dd k1 .char (26 : Int32) [(.int (0 : Int32)), (.int (0 : Int32)), (.int (0 : Int32)), (.int (own_dc ((y22_.toInt32) &&& (31 : Int32)))), (.int (own_dc ((y21_.toInt32) &&& (31 : Int32)))), (.int (own_dc ((y20_.toInt32) &&& (31 : Int32)))), (.int (own_dc ((y19_.toInt32) &&& (31 : Int32)))), (.int (own_dc ((y18_.toInt32) &&& (31 : Int32)))), (.int (own_dc ((y17_.toInt32) &&& (31 : Int32)))), (.int (own_dc ((y16_.toInt32) &&& (31 : Int32)))), (.int (own_dc ((y15_.toInt32) &&& (31 : Int32)))), (.int (own_dc ((y14_.toInt32) &&& (31 : Int32)))), (.int (own_dc ((y13_.toInt32) &&& (31 : Int32)))), (.int (own_dc ((y12_.toInt32) &&& (31 : Int32)))), (.int (own_dc ((y11_.toInt32) &&& (31 : Int32)))), (.int (own_dc ((y10_.toInt32) &&& (31 : Int32)))), (.int (own_dc ((y9_.toInt32) &&& (31 : Int32)))), (.int (own_dc ((y8_.toInt32) &&& (31 : Int32)))), (.int (own_dc ((y7_.toInt32) &&& (31 : Int32)))), (.int (own_dc ((y6_.toInt32) &&& (31 : Int32)))), (.int (own_dc ((y5_.toInt32) &&& (31 : Int32)))), (.int (own_dc ((y4_.toInt32) &&& (31 : Int32)))), (.int (own_dc ((y3_.toInt32) &&& (31 : Int32)))), (.int (own_dc ((y2_.toInt32) &&& (31 : Int32)))), (.int (own_dc ((y1_.toInt32) &&& (31 : Int32)))), (.int (own_dc ((lq.toInt32) &&& (31 : Int32))))] (.int (0 : Int32)) := Arv.set Ar50 q50 Sz50 Ng50 Hs50 Ft50 ft50 W50 3 rfl (Nat.le_of_ble_eq_true rfl)
  have K50 := K48.wr W50 (Or.inr sz_dd)
  have N50 := Fr.snoc X50 N49 g_dd
  refine GoesW.pre (U' := T50.setTop (mkF m 54 #[.val (.ref a), .val (.ref dd), .val (.long x22_), .second, .val (.long (((y22_.toUInt64 >>> ((5 : Int32) &&& 0x3f).toInt64.toUInt64).toInt64) ||| (x22_ <<< ((59 : Int32) &&& 0x3f).toInt64))), .second, .val (.int (3 : Int32))] [(.long ((x22_.toUInt64 >>> ((5 : Int32) &&& 0x3f).toInt64.toUInt64).toInt64))])) (fun t k => st50 t (XS.lload X50.here hx rfl (hb hby d19_40) rfl (XS.iconst X50.here hx rfl (hb hby d19_42) (XS.lushr X50.here hx rfl (hb hby d19_43) rfl (XS.lloadN X50.here hx rfl (hb hby d19_44) rfl (XS.bipush X50.here hx rfl (hb hby d19_45) (XS.lshl X50.here hx rfl (hb hby d19_47) rfl (XS.lor X50.here hx rfl (hb hby d19_48) rfl (XS.lstore X50.here hx rfl (hb hby d19_49) rfl (l' := #[.val (.ref a), .val (.ref dd), .val (.long x22_), .second, .val (.long (((y22_.toUInt64 >>> ((5 : Int32) &&& 0x3f).toInt64.toUInt64).toInt64) ||| (x22_ <<< ((59 : Int32) &&& 0x3f).toInt64))), .second, .val (.int (3 : Int32))]) rfl (XS.lloadN X50.here hx rfl (hb hby d19_51) rfl (XS.iconst X50.here hx rfl (hb hby d19_52) (XS.lushr X50.here hx rfl (hb hby d19_53) rfl k)))))))))))) ?_
  refine GoesW.pre (U' := T50.setTop (mkF m 58 #[.val (.ref a), .val (.ref dd), .val (.long ((x22_.toUInt64 >>> ((5 : Int32) &&& 0x3f).toInt64.toUInt64).toInt64)), .second, .val (.long (((y22_.toUInt64 >>> ((5 : Int32) &&& 0x3f).toInt64.toUInt64).toInt64) ||| (x22_ <<< ((59 : Int32) &&& 0x3f).toInt64))), .second, .val (.int ((3 : Int32) + (-1 : Int32)))] [])) (fun t k => XS.lstoreN X50.here hx rfl (hb hby d19_54) rfl (l' := #[.val (.ref a), .val (.ref dd), .val (.long ((x22_.toUInt64 >>> ((5 : Int32) &&& 0x3f).toInt64.toUInt64).toInt64)), .second, .val (.long (((y22_.toUInt64 >>> ((5 : Int32) &&& 0x3f).toInt64.toUInt64).toInt64) ||| (x22_ <<< ((59 : Int32) &&& 0x3f).toInt64))), .second, .val (.int (3 : Int32))]) rfl (XT.iincV X50.here hx rfl (-1 : Int32) (hb hby d19_55) (by decide) rfl (l' := #[.val (.ref a), .val (.ref dd), .val (.long ((x22_.toUInt64 >>> ((5 : Int32) &&& 0x3f).toInt64.toUInt64).toInt64)), .second, .val (.long (((y22_.toUInt64 >>> ((5 : Int32) &&& 0x3f).toInt64.toUInt64).toInt64) ||| (x22_ <<< ((59 : Int32) &&& 0x3f).toInt64))), .second, .val (.int ((3 : Int32) + (-1 : Int32)))]) rfl k)) ?_
  rw [(by decide : ((3 : Int32) + (-1 : Int32)) = (2 : Int32))]
  refine GoesW.pre (U' := T50.setTop (mkF m 20 #[.val (.ref a), .val (.ref dd), .val (.long ((x22_.toUInt64 >>> ((5 : Int32) &&& 0x3f).toInt64.toUInt64).toInt64)), .second, .val (.long (((y22_.toUInt64 >>> ((5 : Int32) &&& 0x3f).toInt64.toUInt64).toInt64) ||| (x22_ <<< ((59 : Int32) &&& 0x3f).toInt64))), .second, .val (.int (2 : Int32))] [])) (fun t k => XS.goto X50.here hx rfl (pc0 := 58) (pc' := 20) rfl (hb hby d19_58) (by decide) (by decide) k) ?_
  obtain ⟨x23_, hx23_⟩ : ∃ z, z = ((x22_.toUInt64 >>> ((5 : Int32) &&& 0x3f).toInt64.toUInt64).toInt64) := ⟨_, rfl⟩
  obtain ⟨y23_, hy23_⟩ : ∃ z, z = (((y22_.toUInt64 >>> ((5 : Int32) &&& 0x3f).toInt64.toUInt64).toInt64) ||| (x22_ <<< ((59 : Int32) &&& 0x3f).toInt64)) := ⟨_, rfl⟩
  rw [← hx23_, ← hy23_]
  have eq23_ : own_q hq lq 23 = (x23_, y23_) := (own_qs hq lq 22).trans (by rw [eq22_, hx23_, hy23_]; rfl)
  refine GoesW.pre (U' := T50.setTop (mkF m 22 #[.val (.ref a), .val (.ref dd), .val (.long x23_), .second, .val (.long y23_), .second, .val (.int (2 : Int32))] [(.int (2 : Int32))])) (fun t k => XS.iload X50.here hx rfl (hb hby d19_20) rfl k) ?_
  have hc22 : ¬ ((2 : Int32) < (0 : Int32)) := by decide
  refine GoesW.pre (U' := T50.setTop (mkF m 36 #[.val (.ref a), .val (.ref dd), .val (.long x23_), .second, .val (.long y23_), .second, .val (.int (2 : Int32))] [(.int ((y23_.toInt32) &&& (31 : Int32))), (.ref ls4), (.int (2 : Int32)), (.ref dd)])) (fun t k => XS.ifNo X50.here hx rfl (hb hby d19_22) rfl ((if0 _ _).trans (flt hc22).1) (XS.aloadN X50.here hx rfl (hb hby d19_25) rfl rfl (XS.iload X50.here hx rfl (hb hby d19_26) rfl (ldcAgain X50 hx hZ hown (wq hw 103 rfl) Li_ls4 (g := (mkF m 28 #[.val (.ref a), .val (.ref dd), .val (.long x23_), .second, .val (.long y23_), .second, .val (.int (2 : Int32))] [(.int (2 : Int32)), (.ref dd)])) rfl (hb hby d19_28) t (XS.lload X50.here hx rfl (hb hby d19_30) rfl (XS.l2i X50.here hx rfl (hb hby d19_32) rfl (XS.bipush X50.here hx rfl (hb hby d19_33) (XS.iand X50.here hx rfl (hb hby d19_35) rfl k)))))))) ?_
  obtain ⟨cq51, kq51, q51a, q51b, q51c⟩ := isOf hZ e50 S_ls4.1
  obtain ⟨_, _, ⟨T51, L51, k51, n51⟩, -, X51, ⟨Lc51, hQ51, l51, y51, z51⟩, st51⟩ := X50.virtualBack hx (y := (⟨"java/lang/String", "charAt", "(I)C"⟩ : MethodName)) (z := (⟨"java/lang/String", "charAt", "(I)C"⟩ : MethodName)) hown (mvT hZ (wq hw 78 rfl)) (mvT hZ (wq hw 15 rfl)) (notFace_of_selects (args := #[]) (mvT hZ (wq hw 17 rfl))) (mvT hZ (wq hw 17 rfl)) (mvT hZ (wq hw 16 rfl)) (by decide) (backOf (W := 2) (rm_chG l Z a0 hw [] ls4 lb4 kl4 own_lit ((y23_.toInt32) &&& (31 : Int32)) cs sf h50 n0 Z50 S_ls4 S_COMPACT_STRINGS S_SIOOBE_FORMATTER (own_a31 _).1 (own_a31 _).2 (by decide) hcs hsf O) hZ (wq hw 18 rfl) (wq hw 7 rfl) (by decide) (by decide)) q51a q51c (g := (mkF m 36 #[.val (.ref a), .val (.ref dd), .val (.long x23_), .second, .val (.long y23_), .second, .val (.int (2 : Int32))] [(.int ((y23_.toInt32) &&& (31 : Int32))), (.ref ls4), (.int (2 : Int32)), (.ref dd)])) rfl (by rw [hml]; rfl) (Steps.refl _) (argsL := [(.int ((y23_.toInt32) &&& (31 : Int32)))]) (rest := [(.int (2 : Int32)), (.ref dd)]) (lenOf pd__28I_29C rfl) rfl (by show 2 * 0 + _ ≤ _; exact Nat.le_of_eq rfl) (hb hby d19_36) (fun _ _ => ⟨rfl, e50, (by decide : 3 + 0 ≤ _), (by decide : 158 + 0 ≤ _)⟩)
  dsimp only [Pt.U, Pt.locs, Pt.cells, Pt.slots] at X51 l51 y51 z51 st51 hQ51
  rw [l51, y51, z51] at X51
  obtain ⟨rfl, N51q, HQ51⟩ := hQ51
  have N51 := Fr.app N50 N51q
  refine GoesW.pre (U' := T51.setTop (mkF m 39 #[.val (.ref a), .val (.ref dd), .val (.long x23_), .second, .val (.long y23_), .second, .val (.int (2 : Int32))] [(.int (own_lit.getD ((y23_.toInt32) &&& (31 : Int32)).toNatClampNeg 0)), (.int (2 : Int32)), (.ref dd)])) (fun t k => st51.trans k) ?_
  obtain ⟨cl52, Ar52, q52, Sz52, Ng52, Hs52, Ft52⟩ := id V_dd
  obtain ⟨T52, h52, X52, e52, W52, st52⟩ := stC X51 hx hZ HQ51 Ar52 (j := (2 : Int32)) (inb_of Sz52 ⟨by decide, by decide⟩) (g := (mkF m 39 #[.val (.ref a), .val (.ref dd), .val (.long x23_), .second, .val (.long y23_), .second, .val (.int (2 : Int32))] [(.int (own_lit.getD ((y23_.toInt32) &&& (31 : Int32)).toNatClampNeg 0)), (.int (2 : Int32)), (.ref dd)])) rfl rfl (hb hby d19_39)
  have nr52 : nar .char (own_lit.getD ((y23_.toInt32) &&& (31 : Int32)).toNatClampNeg 0) = (own_dc ((y23_.toInt32) &&& (31 : Int32))) := own_nch _ (own_lit_ch _)
  have ft52 : fits .char (.int (own_dc ((y23_.toInt32) &&& (31 : Int32)))) = true := nr52 ▸ (fits_nar_char (own_lit.getD ((y23_.toInt32) &&& (31 : Int32)).toNatClampNeg 0) : fits .char (.int (nar .char (own_lit.getD ((y23_.toInt32) &&& (31 : Int32)).toNatClampNeg 0))) = true)
  rw [nr52] at W52
  have F_high_a := F_high_a.other W52 (Or.inl ne_a_dd)
  have F_low_a := F_low_a.other W52 (Or.inl ne_a_dd)
  have E_dd := E_dd.wr W52
  have S_ls4 := S_ls4.keep (Keep.of_wr W52) (ninS ne_ls4_dd nin0) (ninS ne_lb4_dd nin0)
  have Z52 : n0 ≤ h52.size := Nat.le_trans Z50 (Keep.of_wr W52).1
  have O := O.wr W52 g_dd
  have SFo := SF_dd
  have SF_dd := Safe.wr W52 SFo H SF_dd
  have CR := CR.trans (CHr.wr W52 SFo H)
  have H := H.wr W52 SFo
  have hk := Nat.le_trans hk (Keep.of_wr W52).1
  have V_dd : Arv Z h52 dd k1 .char (26 : Int32) [(.int (0 : Int32)), (.int (0 : Int32)), (.int (own_dc ((y23_.toInt32) &&& (31 : Int32)))), (.int (own_dc ((y22_.toInt32) &&& (31 : Int32)))), (.int (own_dc ((y21_.toInt32) &&& (31 : Int32)))), (.int (own_dc ((y20_.toInt32) &&& (31 : Int32)))), (.int (own_dc ((y19_.toInt32) &&& (31 : Int32)))), (.int (own_dc ((y18_.toInt32) &&& (31 : Int32)))), (.int (own_dc ((y17_.toInt32) &&& (31 : Int32)))), (.int (own_dc ((y16_.toInt32) &&& (31 : Int32)))), (.int (own_dc ((y15_.toInt32) &&& (31 : Int32)))), (.int (own_dc ((y14_.toInt32) &&& (31 : Int32)))), (.int (own_dc ((y13_.toInt32) &&& (31 : Int32)))), (.int (own_dc ((y12_.toInt32) &&& (31 : Int32)))), (.int (own_dc ((y11_.toInt32) &&& (31 : Int32)))), (.int (own_dc ((y10_.toInt32) &&& (31 : Int32)))), (.int (own_dc ((y9_.toInt32) &&& (31 : Int32)))), (.int (own_dc ((y8_.toInt32) &&& (31 : Int32)))), (.int (own_dc ((y7_.toInt32) &&& (31 : Int32)))), (.int (own_dc ((y6_.toInt32) &&& (31 : Int32)))), (.int (own_dc ((y5_.toInt32) &&& (31 : Int32)))), (.int (own_dc ((y4_.toInt32) &&& (31 : Int32)))), (.int (own_dc ((y3_.toInt32) &&& (31 : Int32)))), (.int (own_dc ((y2_.toInt32) &&& (31 : Int32)))), (.int (own_dc ((y1_.toInt32) &&& (31 : Int32)))), (.int (own_dc ((lq.toInt32) &&& (31 : Int32))))] (.int (0 : Int32)) := Arv.set Ar52 q52 Sz52 Ng52 Hs52 Ft52 ft52 W52 2 rfl (Nat.le_of_ble_eq_true rfl)
  have K52 := K50.wr W52 (Or.inr sz_dd)
  have N52 := Fr.snoc X52 N51 g_dd
  refine GoesW.pre (U' := T52.setTop (mkF m 54 #[.val (.ref a), .val (.ref dd), .val (.long x23_), .second, .val (.long (((y23_.toUInt64 >>> ((5 : Int32) &&& 0x3f).toInt64.toUInt64).toInt64) ||| (x23_ <<< ((59 : Int32) &&& 0x3f).toInt64))), .second, .val (.int (2 : Int32))] [(.long ((x23_.toUInt64 >>> ((5 : Int32) &&& 0x3f).toInt64.toUInt64).toInt64))])) (fun t k => st52 t (XS.lload X52.here hx rfl (hb hby d19_40) rfl (XS.iconst X52.here hx rfl (hb hby d19_42) (XS.lushr X52.here hx rfl (hb hby d19_43) rfl (XS.lloadN X52.here hx rfl (hb hby d19_44) rfl (XS.bipush X52.here hx rfl (hb hby d19_45) (XS.lshl X52.here hx rfl (hb hby d19_47) rfl (XS.lor X52.here hx rfl (hb hby d19_48) rfl (XS.lstore X52.here hx rfl (hb hby d19_49) rfl (l' := #[.val (.ref a), .val (.ref dd), .val (.long x23_), .second, .val (.long (((y23_.toUInt64 >>> ((5 : Int32) &&& 0x3f).toInt64.toUInt64).toInt64) ||| (x23_ <<< ((59 : Int32) &&& 0x3f).toInt64))), .second, .val (.int (2 : Int32))]) rfl (XS.lloadN X52.here hx rfl (hb hby d19_51) rfl (XS.iconst X52.here hx rfl (hb hby d19_52) (XS.lushr X52.here hx rfl (hb hby d19_53) rfl k)))))))))))) ?_
  refine GoesW.pre (U' := T52.setTop (mkF m 58 #[.val (.ref a), .val (.ref dd), .val (.long ((x23_.toUInt64 >>> ((5 : Int32) &&& 0x3f).toInt64.toUInt64).toInt64)), .second, .val (.long (((y23_.toUInt64 >>> ((5 : Int32) &&& 0x3f).toInt64.toUInt64).toInt64) ||| (x23_ <<< ((59 : Int32) &&& 0x3f).toInt64))), .second, .val (.int ((2 : Int32) + (-1 : Int32)))] [])) (fun t k => XS.lstoreN X52.here hx rfl (hb hby d19_54) rfl (l' := #[.val (.ref a), .val (.ref dd), .val (.long ((x23_.toUInt64 >>> ((5 : Int32) &&& 0x3f).toInt64.toUInt64).toInt64)), .second, .val (.long (((y23_.toUInt64 >>> ((5 : Int32) &&& 0x3f).toInt64.toUInt64).toInt64) ||| (x23_ <<< ((59 : Int32) &&& 0x3f).toInt64))), .second, .val (.int (2 : Int32))]) rfl (XT.iincV X52.here hx rfl (-1 : Int32) (hb hby d19_55) (by decide) rfl (l' := #[.val (.ref a), .val (.ref dd), .val (.long ((x23_.toUInt64 >>> ((5 : Int32) &&& 0x3f).toInt64.toUInt64).toInt64)), .second, .val (.long (((y23_.toUInt64 >>> ((5 : Int32) &&& 0x3f).toInt64.toUInt64).toInt64) ||| (x23_ <<< ((59 : Int32) &&& 0x3f).toInt64))), .second, .val (.int ((2 : Int32) + (-1 : Int32)))]) rfl k)) ?_
  rw [(by decide : ((2 : Int32) + (-1 : Int32)) = (1 : Int32))]
  refine GoesW.pre (U' := T52.setTop (mkF m 20 #[.val (.ref a), .val (.ref dd), .val (.long ((x23_.toUInt64 >>> ((5 : Int32) &&& 0x3f).toInt64.toUInt64).toInt64)), .second, .val (.long (((y23_.toUInt64 >>> ((5 : Int32) &&& 0x3f).toInt64.toUInt64).toInt64) ||| (x23_ <<< ((59 : Int32) &&& 0x3f).toInt64))), .second, .val (.int (1 : Int32))] [])) (fun t k => XS.goto X52.here hx rfl (pc0 := 58) (pc' := 20) rfl (hb hby d19_58) (by decide) (by decide) k) ?_
  obtain ⟨x24_, hx24_⟩ : ∃ z, z = ((x23_.toUInt64 >>> ((5 : Int32) &&& 0x3f).toInt64.toUInt64).toInt64) := ⟨_, rfl⟩
  obtain ⟨y24_, hy24_⟩ : ∃ z, z = (((y23_.toUInt64 >>> ((5 : Int32) &&& 0x3f).toInt64.toUInt64).toInt64) ||| (x23_ <<< ((59 : Int32) &&& 0x3f).toInt64)) := ⟨_, rfl⟩
  rw [← hx24_, ← hy24_]
  have eq24_ : own_q hq lq 24 = (x24_, y24_) := (own_qs hq lq 23).trans (by rw [eq23_, hx24_, hy24_]; rfl)
  refine GoesW.pre (U' := T52.setTop (mkF m 22 #[.val (.ref a), .val (.ref dd), .val (.long x24_), .second, .val (.long y24_), .second, .val (.int (1 : Int32))] [(.int (1 : Int32))])) (fun t k => XS.iload X52.here hx rfl (hb hby d19_20) rfl k) ?_
  have hc22 : ¬ ((1 : Int32) < (0 : Int32)) := by decide
  refine GoesW.pre (U' := T52.setTop (mkF m 36 #[.val (.ref a), .val (.ref dd), .val (.long x24_), .second, .val (.long y24_), .second, .val (.int (1 : Int32))] [(.int ((y24_.toInt32) &&& (31 : Int32))), (.ref ls4), (.int (1 : Int32)), (.ref dd)])) (fun t k => XS.ifNo X52.here hx rfl (hb hby d19_22) rfl ((if0 _ _).trans (flt hc22).1) (XS.aloadN X52.here hx rfl (hb hby d19_25) rfl rfl (XS.iload X52.here hx rfl (hb hby d19_26) rfl (ldcAgain X52 hx hZ hown (wq hw 103 rfl) Li_ls4 (g := (mkF m 28 #[.val (.ref a), .val (.ref dd), .val (.long x24_), .second, .val (.long y24_), .second, .val (.int (1 : Int32))] [(.int (1 : Int32)), (.ref dd)])) rfl (hb hby d19_28) t (XS.lload X52.here hx rfl (hb hby d19_30) rfl (XS.l2i X52.here hx rfl (hb hby d19_32) rfl (XS.bipush X52.here hx rfl (hb hby d19_33) (XS.iand X52.here hx rfl (hb hby d19_35) rfl k)))))))) ?_
  obtain ⟨cq53, kq53, q53a, q53b, q53c⟩ := isOf hZ e52 S_ls4.1
  obtain ⟨_, _, ⟨T53, L53, k53, n53⟩, -, X53, ⟨Lc53, hQ53, l53, y53, z53⟩, st53⟩ := X52.virtualBack hx (y := (⟨"java/lang/String", "charAt", "(I)C"⟩ : MethodName)) (z := (⟨"java/lang/String", "charAt", "(I)C"⟩ : MethodName)) hown (mvT hZ (wq hw 78 rfl)) (mvT hZ (wq hw 15 rfl)) (notFace_of_selects (args := #[]) (mvT hZ (wq hw 17 rfl))) (mvT hZ (wq hw 17 rfl)) (mvT hZ (wq hw 16 rfl)) (by decide) (backOf (W := 2) (rm_chG l Z a0 hw [] ls4 lb4 kl4 own_lit ((y24_.toInt32) &&& (31 : Int32)) cs sf h52 n0 Z52 S_ls4 S_COMPACT_STRINGS S_SIOOBE_FORMATTER (own_a31 _).1 (own_a31 _).2 (by decide) hcs hsf O) hZ (wq hw 18 rfl) (wq hw 7 rfl) (by decide) (by decide)) q53a q53c (g := (mkF m 36 #[.val (.ref a), .val (.ref dd), .val (.long x24_), .second, .val (.long y24_), .second, .val (.int (1 : Int32))] [(.int ((y24_.toInt32) &&& (31 : Int32))), (.ref ls4), (.int (1 : Int32)), (.ref dd)])) rfl (by rw [hml]; rfl) (Steps.refl _) (argsL := [(.int ((y24_.toInt32) &&& (31 : Int32)))]) (rest := [(.int (1 : Int32)), (.ref dd)]) (lenOf pd__28I_29C rfl) rfl (by show 2 * 0 + _ ≤ _; exact Nat.le_of_eq rfl) (hb hby d19_36) (fun _ _ => ⟨rfl, e52, (by decide : 3 + 0 ≤ _), (by decide : 158 + 0 ≤ _)⟩)
  dsimp only [Pt.U, Pt.locs, Pt.cells, Pt.slots] at X53 l53 y53 z53 st53 hQ53
  rw [l53, y53, z53] at X53
  obtain ⟨rfl, N53q, HQ53⟩ := hQ53
  have N53 := Fr.app N52 N53q
  refine GoesW.pre (U' := T53.setTop (mkF m 39 #[.val (.ref a), .val (.ref dd), .val (.long x24_), .second, .val (.long y24_), .second, .val (.int (1 : Int32))] [(.int (own_lit.getD ((y24_.toInt32) &&& (31 : Int32)).toNatClampNeg 0)), (.int (1 : Int32)), (.ref dd)])) (fun t k => st53.trans k) ?_
  obtain ⟨cl54, Ar54, q54, Sz54, Ng54, Hs54, Ft54⟩ := id V_dd
  obtain ⟨T54, h54, X54, e54, W54, st54⟩ := stC X53 hx hZ HQ53 Ar54 (j := (1 : Int32)) (inb_of Sz54 ⟨by decide, by decide⟩) (g := (mkF m 39 #[.val (.ref a), .val (.ref dd), .val (.long x24_), .second, .val (.long y24_), .second, .val (.int (1 : Int32))] [(.int (own_lit.getD ((y24_.toInt32) &&& (31 : Int32)).toNatClampNeg 0)), (.int (1 : Int32)), (.ref dd)])) rfl rfl (hb hby d19_39)
  have nr54 : nar .char (own_lit.getD ((y24_.toInt32) &&& (31 : Int32)).toNatClampNeg 0) = (own_dc ((y24_.toInt32) &&& (31 : Int32))) := own_nch _ (own_lit_ch _)
  have ft54 : fits .char (.int (own_dc ((y24_.toInt32) &&& (31 : Int32)))) = true := nr54 ▸ (fits_nar_char (own_lit.getD ((y24_.toInt32) &&& (31 : Int32)).toNatClampNeg 0) : fits .char (.int (nar .char (own_lit.getD ((y24_.toInt32) &&& (31 : Int32)).toNatClampNeg 0))) = true)
  rw [nr54] at W54
  have F_high_a := F_high_a.other W54 (Or.inl ne_a_dd)
  have F_low_a := F_low_a.other W54 (Or.inl ne_a_dd)
  have E_dd := E_dd.wr W54
  have S_ls4 := S_ls4.keep (Keep.of_wr W54) (ninS ne_ls4_dd nin0) (ninS ne_lb4_dd nin0)
  have Z54 : n0 ≤ h54.size := Nat.le_trans Z52 (Keep.of_wr W54).1
  have O := O.wr W54 g_dd
  have SFo := SF_dd
  have SF_dd := Safe.wr W54 SFo H SF_dd
  have CR := CR.trans (CHr.wr W54 SFo H)
  have H := H.wr W54 SFo
  have hk := Nat.le_trans hk (Keep.of_wr W54).1
  have V_dd : Arv Z h54 dd k1 .char (26 : Int32) [(.int (0 : Int32)), (.int (own_dc ((y24_.toInt32) &&& (31 : Int32)))), (.int (own_dc ((y23_.toInt32) &&& (31 : Int32)))), (.int (own_dc ((y22_.toInt32) &&& (31 : Int32)))), (.int (own_dc ((y21_.toInt32) &&& (31 : Int32)))), (.int (own_dc ((y20_.toInt32) &&& (31 : Int32)))), (.int (own_dc ((y19_.toInt32) &&& (31 : Int32)))), (.int (own_dc ((y18_.toInt32) &&& (31 : Int32)))), (.int (own_dc ((y17_.toInt32) &&& (31 : Int32)))), (.int (own_dc ((y16_.toInt32) &&& (31 : Int32)))), (.int (own_dc ((y15_.toInt32) &&& (31 : Int32)))), (.int (own_dc ((y14_.toInt32) &&& (31 : Int32)))), (.int (own_dc ((y13_.toInt32) &&& (31 : Int32)))), (.int (own_dc ((y12_.toInt32) &&& (31 : Int32)))), (.int (own_dc ((y11_.toInt32) &&& (31 : Int32)))), (.int (own_dc ((y10_.toInt32) &&& (31 : Int32)))), (.int (own_dc ((y9_.toInt32) &&& (31 : Int32)))), (.int (own_dc ((y8_.toInt32) &&& (31 : Int32)))), (.int (own_dc ((y7_.toInt32) &&& (31 : Int32)))), (.int (own_dc ((y6_.toInt32) &&& (31 : Int32)))), (.int (own_dc ((y5_.toInt32) &&& (31 : Int32)))), (.int (own_dc ((y4_.toInt32) &&& (31 : Int32)))), (.int (own_dc ((y3_.toInt32) &&& (31 : Int32)))), (.int (own_dc ((y2_.toInt32) &&& (31 : Int32)))), (.int (own_dc ((y1_.toInt32) &&& (31 : Int32)))), (.int (own_dc ((lq.toInt32) &&& (31 : Int32))))] (.int (0 : Int32)) := Arv.set Ar54 q54 Sz54 Ng54 Hs54 Ft54 ft54 W54 1 rfl (Nat.le_of_ble_eq_true rfl)
  have K54 := K52.wr W54 (Or.inr sz_dd)
  have N54 := Fr.snoc X54 N53 g_dd
  refine GoesW.pre (U' := T54.setTop (mkF m 54 #[.val (.ref a), .val (.ref dd), .val (.long x24_), .second, .val (.long (((y24_.toUInt64 >>> ((5 : Int32) &&& 0x3f).toInt64.toUInt64).toInt64) ||| (x24_ <<< ((59 : Int32) &&& 0x3f).toInt64))), .second, .val (.int (1 : Int32))] [(.long ((x24_.toUInt64 >>> ((5 : Int32) &&& 0x3f).toInt64.toUInt64).toInt64))])) (fun t k => st54 t (XS.lload X54.here hx rfl (hb hby d19_40) rfl (XS.iconst X54.here hx rfl (hb hby d19_42) (XS.lushr X54.here hx rfl (hb hby d19_43) rfl (XS.lloadN X54.here hx rfl (hb hby d19_44) rfl (XS.bipush X54.here hx rfl (hb hby d19_45) (XS.lshl X54.here hx rfl (hb hby d19_47) rfl (XS.lor X54.here hx rfl (hb hby d19_48) rfl (XS.lstore X54.here hx rfl (hb hby d19_49) rfl (l' := #[.val (.ref a), .val (.ref dd), .val (.long x24_), .second, .val (.long (((y24_.toUInt64 >>> ((5 : Int32) &&& 0x3f).toInt64.toUInt64).toInt64) ||| (x24_ <<< ((59 : Int32) &&& 0x3f).toInt64))), .second, .val (.int (1 : Int32))]) rfl (XS.lloadN X54.here hx rfl (hb hby d19_51) rfl (XS.iconst X54.here hx rfl (hb hby d19_52) (XS.lushr X54.here hx rfl (hb hby d19_53) rfl k)))))))))))) ?_
  refine GoesW.pre (U' := T54.setTop (mkF m 58 #[.val (.ref a), .val (.ref dd), .val (.long ((x24_.toUInt64 >>> ((5 : Int32) &&& 0x3f).toInt64.toUInt64).toInt64)), .second, .val (.long (((y24_.toUInt64 >>> ((5 : Int32) &&& 0x3f).toInt64.toUInt64).toInt64) ||| (x24_ <<< ((59 : Int32) &&& 0x3f).toInt64))), .second, .val (.int ((1 : Int32) + (-1 : Int32)))] [])) (fun t k => XS.lstoreN X54.here hx rfl (hb hby d19_54) rfl (l' := #[.val (.ref a), .val (.ref dd), .val (.long ((x24_.toUInt64 >>> ((5 : Int32) &&& 0x3f).toInt64.toUInt64).toInt64)), .second, .val (.long (((y24_.toUInt64 >>> ((5 : Int32) &&& 0x3f).toInt64.toUInt64).toInt64) ||| (x24_ <<< ((59 : Int32) &&& 0x3f).toInt64))), .second, .val (.int (1 : Int32))]) rfl (XT.iincV X54.here hx rfl (-1 : Int32) (hb hby d19_55) (by decide) rfl (l' := #[.val (.ref a), .val (.ref dd), .val (.long ((x24_.toUInt64 >>> ((5 : Int32) &&& 0x3f).toInt64.toUInt64).toInt64)), .second, .val (.long (((y24_.toUInt64 >>> ((5 : Int32) &&& 0x3f).toInt64.toUInt64).toInt64) ||| (x24_ <<< ((59 : Int32) &&& 0x3f).toInt64))), .second, .val (.int ((1 : Int32) + (-1 : Int32)))]) rfl k)) ?_
  rw [(by decide : ((1 : Int32) + (-1 : Int32)) = (0 : Int32))]
  refine GoesW.pre (U' := T54.setTop (mkF m 20 #[.val (.ref a), .val (.ref dd), .val (.long ((x24_.toUInt64 >>> ((5 : Int32) &&& 0x3f).toInt64.toUInt64).toInt64)), .second, .val (.long (((y24_.toUInt64 >>> ((5 : Int32) &&& 0x3f).toInt64.toUInt64).toInt64) ||| (x24_ <<< ((59 : Int32) &&& 0x3f).toInt64))), .second, .val (.int (0 : Int32))] [])) (fun t k => XS.goto X54.here hx rfl (pc0 := 58) (pc' := 20) rfl (hb hby d19_58) (by decide) (by decide) k) ?_
  obtain ⟨x25_, hx25_⟩ : ∃ z, z = ((x24_.toUInt64 >>> ((5 : Int32) &&& 0x3f).toInt64.toUInt64).toInt64) := ⟨_, rfl⟩
  obtain ⟨y25_, hy25_⟩ : ∃ z, z = (((y24_.toUInt64 >>> ((5 : Int32) &&& 0x3f).toInt64.toUInt64).toInt64) ||| (x24_ <<< ((59 : Int32) &&& 0x3f).toInt64)) := ⟨_, rfl⟩
  rw [← hx25_, ← hy25_]
  have eq25_ : own_q hq lq 25 = (x25_, y25_) := (own_qs hq lq 24).trans (by rw [eq24_, hx25_, hy25_]; rfl)
  refine GoesW.pre (U' := T54.setTop (mkF m 22 #[.val (.ref a), .val (.ref dd), .val (.long x25_), .second, .val (.long y25_), .second, .val (.int (0 : Int32))] [(.int (0 : Int32))])) (fun t k => XS.iload X54.here hx rfl (hb hby d19_20) rfl k) ?_
  have hc22 : ¬ ((0 : Int32) < (0 : Int32)) := by decide
  refine GoesW.pre (U' := T54.setTop (mkF m 36 #[.val (.ref a), .val (.ref dd), .val (.long x25_), .second, .val (.long y25_), .second, .val (.int (0 : Int32))] [(.int ((y25_.toInt32) &&& (31 : Int32))), (.ref ls4), (.int (0 : Int32)), (.ref dd)])) (fun t k => XS.ifNo X54.here hx rfl (hb hby d19_22) rfl ((if0 _ _).trans (flt hc22).1) (XS.aloadN X54.here hx rfl (hb hby d19_25) rfl rfl (XS.iload X54.here hx rfl (hb hby d19_26) rfl (ldcAgain X54 hx hZ hown (wq hw 103 rfl) Li_ls4 (g := (mkF m 28 #[.val (.ref a), .val (.ref dd), .val (.long x25_), .second, .val (.long y25_), .second, .val (.int (0 : Int32))] [(.int (0 : Int32)), (.ref dd)])) rfl (hb hby d19_28) t (XS.lload X54.here hx rfl (hb hby d19_30) rfl (XS.l2i X54.here hx rfl (hb hby d19_32) rfl (XS.bipush X54.here hx rfl (hb hby d19_33) (XS.iand X54.here hx rfl (hb hby d19_35) rfl k)))))))) ?_
  obtain ⟨cq55, kq55, q55a, q55b, q55c⟩ := isOf hZ e54 S_ls4.1
  obtain ⟨_, _, ⟨T55, L55, k55, n55⟩, -, X55, ⟨Lc55, hQ55, l55, y55, z55⟩, st55⟩ := X54.virtualBack hx (y := (⟨"java/lang/String", "charAt", "(I)C"⟩ : MethodName)) (z := (⟨"java/lang/String", "charAt", "(I)C"⟩ : MethodName)) hown (mvT hZ (wq hw 78 rfl)) (mvT hZ (wq hw 15 rfl)) (notFace_of_selects (args := #[]) (mvT hZ (wq hw 17 rfl))) (mvT hZ (wq hw 17 rfl)) (mvT hZ (wq hw 16 rfl)) (by decide) (backOf (W := 2) (rm_chG l Z a0 hw [] ls4 lb4 kl4 own_lit ((y25_.toInt32) &&& (31 : Int32)) cs sf h54 n0 Z54 S_ls4 S_COMPACT_STRINGS S_SIOOBE_FORMATTER (own_a31 _).1 (own_a31 _).2 (by decide) hcs hsf O) hZ (wq hw 18 rfl) (wq hw 7 rfl) (by decide) (by decide)) q55a q55c (g := (mkF m 36 #[.val (.ref a), .val (.ref dd), .val (.long x25_), .second, .val (.long y25_), .second, .val (.int (0 : Int32))] [(.int ((y25_.toInt32) &&& (31 : Int32))), (.ref ls4), (.int (0 : Int32)), (.ref dd)])) rfl (by rw [hml]; rfl) (Steps.refl _) (argsL := [(.int ((y25_.toInt32) &&& (31 : Int32)))]) (rest := [(.int (0 : Int32)), (.ref dd)]) (lenOf pd__28I_29C rfl) rfl (by show 2 * 0 + _ ≤ _; exact Nat.le_of_eq rfl) (hb hby d19_36) (fun _ _ => ⟨rfl, e54, (by decide : 3 + 0 ≤ _), (by decide : 158 + 0 ≤ _)⟩)
  dsimp only [Pt.U, Pt.locs, Pt.cells, Pt.slots] at X55 l55 y55 z55 st55 hQ55
  rw [l55, y55, z55] at X55
  obtain ⟨rfl, N55q, HQ55⟩ := hQ55
  have N55 := Fr.app N54 N55q
  refine GoesW.pre (U' := T55.setTop (mkF m 39 #[.val (.ref a), .val (.ref dd), .val (.long x25_), .second, .val (.long y25_), .second, .val (.int (0 : Int32))] [(.int (own_lit.getD ((y25_.toInt32) &&& (31 : Int32)).toNatClampNeg 0)), (.int (0 : Int32)), (.ref dd)])) (fun t k => st55.trans k) ?_
  obtain ⟨cl56, Ar56, q56, Sz56, Ng56, Hs56, Ft56⟩ := id V_dd
  obtain ⟨T56, h56, X56, e56, W56, st56⟩ := stC X55 hx hZ HQ55 Ar56 (j := (0 : Int32)) (inb_of Sz56 ⟨by decide, by decide⟩) (g := (mkF m 39 #[.val (.ref a), .val (.ref dd), .val (.long x25_), .second, .val (.long y25_), .second, .val (.int (0 : Int32))] [(.int (own_lit.getD ((y25_.toInt32) &&& (31 : Int32)).toNatClampNeg 0)), (.int (0 : Int32)), (.ref dd)])) rfl rfl (hb hby d19_39)
  have nr56 : nar .char (own_lit.getD ((y25_.toInt32) &&& (31 : Int32)).toNatClampNeg 0) = (own_dc ((y25_.toInt32) &&& (31 : Int32))) := own_nch _ (own_lit_ch _)
  have ft56 : fits .char (.int (own_dc ((y25_.toInt32) &&& (31 : Int32)))) = true := nr56 ▸ (fits_nar_char (own_lit.getD ((y25_.toInt32) &&& (31 : Int32)).toNatClampNeg 0) : fits .char (.int (nar .char (own_lit.getD ((y25_.toInt32) &&& (31 : Int32)).toNatClampNeg 0))) = true)
  rw [nr56] at W56
  have F_high_a := F_high_a.other W56 (Or.inl ne_a_dd)
  have F_low_a := F_low_a.other W56 (Or.inl ne_a_dd)
  have E_dd := E_dd.wr W56
  have S_ls4 := S_ls4.keep (Keep.of_wr W56) (ninS ne_ls4_dd nin0) (ninS ne_lb4_dd nin0)
  have Z56 : n0 ≤ h56.size := Nat.le_trans Z54 (Keep.of_wr W56).1
  have O := O.wr W56 g_dd
  have SFo := SF_dd
  have SF_dd := Safe.wr W56 SFo H SF_dd
  have CR := CR.trans (CHr.wr W56 SFo H)
  have H := H.wr W56 SFo
  have hk := Nat.le_trans hk (Keep.of_wr W56).1
  have V_dd : Arv Z h56 dd k1 .char (26 : Int32) [(.int (own_dc ((y25_.toInt32) &&& (31 : Int32)))), (.int (own_dc ((y24_.toInt32) &&& (31 : Int32)))), (.int (own_dc ((y23_.toInt32) &&& (31 : Int32)))), (.int (own_dc ((y22_.toInt32) &&& (31 : Int32)))), (.int (own_dc ((y21_.toInt32) &&& (31 : Int32)))), (.int (own_dc ((y20_.toInt32) &&& (31 : Int32)))), (.int (own_dc ((y19_.toInt32) &&& (31 : Int32)))), (.int (own_dc ((y18_.toInt32) &&& (31 : Int32)))), (.int (own_dc ((y17_.toInt32) &&& (31 : Int32)))), (.int (own_dc ((y16_.toInt32) &&& (31 : Int32)))), (.int (own_dc ((y15_.toInt32) &&& (31 : Int32)))), (.int (own_dc ((y14_.toInt32) &&& (31 : Int32)))), (.int (own_dc ((y13_.toInt32) &&& (31 : Int32)))), (.int (own_dc ((y12_.toInt32) &&& (31 : Int32)))), (.int (own_dc ((y11_.toInt32) &&& (31 : Int32)))), (.int (own_dc ((y10_.toInt32) &&& (31 : Int32)))), (.int (own_dc ((y9_.toInt32) &&& (31 : Int32)))), (.int (own_dc ((y8_.toInt32) &&& (31 : Int32)))), (.int (own_dc ((y7_.toInt32) &&& (31 : Int32)))), (.int (own_dc ((y6_.toInt32) &&& (31 : Int32)))), (.int (own_dc ((y5_.toInt32) &&& (31 : Int32)))), (.int (own_dc ((y4_.toInt32) &&& (31 : Int32)))), (.int (own_dc ((y3_.toInt32) &&& (31 : Int32)))), (.int (own_dc ((y2_.toInt32) &&& (31 : Int32)))), (.int (own_dc ((y1_.toInt32) &&& (31 : Int32)))), (.int (own_dc ((lq.toInt32) &&& (31 : Int32))))] (.int (0 : Int32)) := Arv.set Ar56 q56 Sz56 Ng56 Hs56 Ft56 ft56 W56 0 rfl (Nat.le_of_ble_eq_true rfl)
  have K56 := K54.wr W56 (Or.inr sz_dd)
  have N56 := Fr.snoc X56 N55 g_dd
  refine GoesW.pre (U' := T56.setTop (mkF m 54 #[.val (.ref a), .val (.ref dd), .val (.long x25_), .second, .val (.long (((y25_.toUInt64 >>> ((5 : Int32) &&& 0x3f).toInt64.toUInt64).toInt64) ||| (x25_ <<< ((59 : Int32) &&& 0x3f).toInt64))), .second, .val (.int (0 : Int32))] [(.long ((x25_.toUInt64 >>> ((5 : Int32) &&& 0x3f).toInt64.toUInt64).toInt64))])) (fun t k => st56 t (XS.lload X56.here hx rfl (hb hby d19_40) rfl (XS.iconst X56.here hx rfl (hb hby d19_42) (XS.lushr X56.here hx rfl (hb hby d19_43) rfl (XS.lloadN X56.here hx rfl (hb hby d19_44) rfl (XS.bipush X56.here hx rfl (hb hby d19_45) (XS.lshl X56.here hx rfl (hb hby d19_47) rfl (XS.lor X56.here hx rfl (hb hby d19_48) rfl (XS.lstore X56.here hx rfl (hb hby d19_49) rfl (l' := #[.val (.ref a), .val (.ref dd), .val (.long x25_), .second, .val (.long (((y25_.toUInt64 >>> ((5 : Int32) &&& 0x3f).toInt64.toUInt64).toInt64) ||| (x25_ <<< ((59 : Int32) &&& 0x3f).toInt64))), .second, .val (.int (0 : Int32))]) rfl (XS.lloadN X56.here hx rfl (hb hby d19_51) rfl (XS.iconst X56.here hx rfl (hb hby d19_52) (XS.lushr X56.here hx rfl (hb hby d19_53) rfl k)))))))))))) ?_
  refine GoesW.pre (U' := T56.setTop (mkF m 58 #[.val (.ref a), .val (.ref dd), .val (.long ((x25_.toUInt64 >>> ((5 : Int32) &&& 0x3f).toInt64.toUInt64).toInt64)), .second, .val (.long (((y25_.toUInt64 >>> ((5 : Int32) &&& 0x3f).toInt64.toUInt64).toInt64) ||| (x25_ <<< ((59 : Int32) &&& 0x3f).toInt64))), .second, .val (.int ((0 : Int32) + (-1 : Int32)))] [])) (fun t k => XS.lstoreN X56.here hx rfl (hb hby d19_54) rfl (l' := #[.val (.ref a), .val (.ref dd), .val (.long ((x25_.toUInt64 >>> ((5 : Int32) &&& 0x3f).toInt64.toUInt64).toInt64)), .second, .val (.long (((y25_.toUInt64 >>> ((5 : Int32) &&& 0x3f).toInt64.toUInt64).toInt64) ||| (x25_ <<< ((59 : Int32) &&& 0x3f).toInt64))), .second, .val (.int (0 : Int32))]) rfl (XT.iincV X56.here hx rfl (-1 : Int32) (hb hby d19_55) (by decide) rfl (l' := #[.val (.ref a), .val (.ref dd), .val (.long ((x25_.toUInt64 >>> ((5 : Int32) &&& 0x3f).toInt64.toUInt64).toInt64)), .second, .val (.long (((y25_.toUInt64 >>> ((5 : Int32) &&& 0x3f).toInt64.toUInt64).toInt64) ||| (x25_ <<< ((59 : Int32) &&& 0x3f).toInt64))), .second, .val (.int ((0 : Int32) + (-1 : Int32)))]) rfl k)) ?_
  rw [(by decide : ((0 : Int32) + (-1 : Int32)) = (-1 : Int32))]
  refine GoesW.pre (U' := T56.setTop (mkF m 20 #[.val (.ref a), .val (.ref dd), .val (.long ((x25_.toUInt64 >>> ((5 : Int32) &&& 0x3f).toInt64.toUInt64).toInt64)), .second, .val (.long (((y25_.toUInt64 >>> ((5 : Int32) &&& 0x3f).toInt64.toUInt64).toInt64) ||| (x25_ <<< ((59 : Int32) &&& 0x3f).toInt64))), .second, .val (.int (-1 : Int32))] [])) (fun t k => XS.goto X56.here hx rfl (pc0 := 58) (pc' := 20) rfl (hb hby d19_58) (by decide) (by decide) k) ?_
  refine GoesW.pre (U' := T56.setTop (mkF m 22 #[.val (.ref a), .val (.ref dd), .val (.long ((x25_.toUInt64 >>> ((5 : Int32) &&& 0x3f).toInt64.toUInt64).toInt64)), .second, .val (.long (((y25_.toUInt64 >>> ((5 : Int32) &&& 0x3f).toInt64.toUInt64).toInt64) ||| (x25_ <<< ((59 : Int32) &&& 0x3f).toInt64))), .second, .val (.int (-1 : Int32))] [(.int (-1 : Int32))])) (fun t k => XS.iload X56.here hx rfl (hb hby d19_20) rfl k) ?_
  have hc22 : (-1 : Int32) < (0 : Int32) := by decide
  refine GoesW.pre (U' := T56.setTop (mkF m 61 #[.val (.ref a), .val (.ref dd), .val (.long ((x25_.toUInt64 >>> ((5 : Int32) &&& 0x3f).toInt64.toUInt64).toInt64)), .second, .val (.long (((y25_.toUInt64 >>> ((5 : Int32) &&& 0x3f).toInt64.toUInt64).toInt64) ||| (x25_ <<< ((59 : Int32) &&& 0x3f).toInt64))), .second, .val (.int (-1 : Int32))] [])) (fun t k => XS.ifYes X56.here hx rfl (pc0 := 22) (pc' := 61) rfl (hb hby d19_22) rfl ((if0 _ _).trans (tlt hc22).1) (by decide) (by decide) k) ?_
  obtain ⟨T57, h57, X57, e57, E57, A57, D57, -, st57⟩ := newO X56 hx hZ hown (wq hw 104 rfl) (wq hw 8 rfl) (wq hw 7 rfl) e56 (g := (mkF m 61 #[.val (.ref a), .val (.ref dd), .val (.long ((x25_.toUInt64 >>> ((5 : Int32) &&& 0x3f).toInt64.toUInt64).toInt64)), .second, .val (.long (((y25_.toUInt64 >>> ((5 : Int32) &&& 0x3f).toInt64.toUInt64).toInt64) ||| (x25_ <<< ((59 : Int32) &&& 0x3f).toInt64))), .second, .val (.int (-1 : Int32))] [])) rfl (hb hby d19_61) (by decide) (by decide)
  obtain ⟨sr, g57⟩ : ∃ z, z = h56.size := ⟨_, rfl⟩
  rw [← g57] at A57 D57 st57
  have ne_a_sr : a ≠ sr := Nat.ne_of_lt (Nat.lt_of_lt_of_le F_high_a.lt (Nat.le_of_eq g57.symm))
  have ne_sr_a := ne_a_sr.symm
  have ne_dd_sr : dd ≠ sr := Nat.ne_of_lt (Nat.lt_of_lt_of_le E_dd.lt (Nat.le_of_eq g57.symm))
  have ne_sr_dd := ne_dd_sr.symm
  have ne_lb4_sr : lb4 ≠ sr := Nat.ne_of_lt (Nat.lt_of_lt_of_le S_ls4.ltb (Nat.le_of_eq g57.symm))
  have ne_sr_lb4 := ne_lb4_sr.symm
  have ne_ls4_sr : ls4 ≠ sr := Nat.ne_of_lt (Nat.lt_of_lt_of_le S_ls4.lt (Nat.le_of_eq g57.symm))
  have ne_sr_ls4 := ne_ls4_sr.symm
  have g_sr : n0 ≤ sr := Nat.le_trans Z56 (Nat.le_of_eq g57.symm)
  have sz_sr : h0.size ≤ sr := Nat.le_trans K56.1 (Nat.le_of_eq g57.symm)
  have F_high_a := F_high_a.ext E57
  have F_low_a := F_low_a.ext E57
  have E_dd := E_dd.ext E57
  have V_dd := V_dd.ext E57
  have S_ls4 := S_ls4.ext E57
  have O := O.ext E57
  have SF_dd := Safe.ext E57 H SF_dd
  have SF_sr := Safe.ext E57 H (Safe.new (x := sr) (Nat.le_of_eq g57.symm))
  have CR := CR.trans (CHr.ext E57 H)
  have H := H.ext E57
  have hk := Nat.le_trans hk E57.1
  have Z57 : n0 ≤ h57.size := Nat.le_trans Z56 E57.1
  have K57 := K56.ext E57
  have E_sr := A57
  have F_value_sr : Fld Z h57 sr "java/lang/String" "value" "[B" .null := D57 (Or.inr (wq hw 10 rfl)) (ty := (.array .byte)) (by decide)
  have F_coder_sr : Fld Z h57 sr "java/lang/String" "coder" "B" (.int (0 : Int32)) := D57 (Or.inr (wq hw 11 rfl)) (ty := .byte) (by decide)
  refine GoesW.pre (U' := T57.setTop (mkF m 66 #[.val (.ref a), .val (.ref dd), .val (.long ((x25_.toUInt64 >>> ((5 : Int32) &&& 0x3f).toInt64.toUInt64).toInt64)), .second, .val (.long (((y25_.toUInt64 >>> ((5 : Int32) &&& 0x3f).toInt64.toUInt64).toInt64) ||| (x25_ <<< ((59 : Int32) &&& 0x3f).toInt64))), .second, .val (.int (-1 : Int32))] [(.ref dd), (.ref sr), (.ref sr)])) (fun t k => st57 t (XS.dup X57.here hx rfl (hb hby d19_64) rfl rfl (XS.aloadN X57.here hx rfl (hb hby d19_65) rfl rfl k))) ?_
  have lt_a := F_high_a.lt
  have lt_dd := E_dd.lt
  have lt_lb4 := S_ls4.ltb
  have lt_ls4 := S_ls4.lt
  have lt_sr := E_sr.lt
  obtain ⟨_, _, ⟨T58, L58, k58, n58⟩, -, X58, ⟨Lc58, hQ58, l58, y58, z58⟩, st58⟩ := X57.specialBack hx (y := (⟨"java/lang/String", "<init>", "([C)V"⟩ : MethodName)) rfl hown (mvT hZ (wq hw 105 rfl)) (mvT hZ (wq hw 45 rfl)) (mvT hZ (wq hw 46 rfl)) (by decide) (backOf (W := 1) (rm_init1G l Z a0 hw [] sr dd k1 ([(own_dc ((y25_.toInt32) &&& (31 : Int32))), (own_dc ((y24_.toInt32) &&& (31 : Int32))), (own_dc ((y23_.toInt32) &&& (31 : Int32))), (own_dc ((y22_.toInt32) &&& (31 : Int32))), (own_dc ((y21_.toInt32) &&& (31 : Int32))), (own_dc ((y20_.toInt32) &&& (31 : Int32))), (own_dc ((y19_.toInt32) &&& (31 : Int32))), (own_dc ((y18_.toInt32) &&& (31 : Int32))), (own_dc ((y17_.toInt32) &&& (31 : Int32))), (own_dc ((y16_.toInt32) &&& (31 : Int32))), (own_dc ((y15_.toInt32) &&& (31 : Int32))), (own_dc ((y14_.toInt32) &&& (31 : Int32))), (own_dc ((y13_.toInt32) &&& (31 : Int32))), (own_dc ((y12_.toInt32) &&& (31 : Int32))), (own_dc ((y11_.toInt32) &&& (31 : Int32))), (own_dc ((y10_.toInt32) &&& (31 : Int32))), (own_dc ((y9_.toInt32) &&& (31 : Int32))), (own_dc ((y8_.toInt32) &&& (31 : Int32))), (own_dc ((y7_.toInt32) &&& (31 : Int32))), (own_dc ((y6_.toInt32) &&& (31 : Int32))), (own_dc ((y5_.toInt32) &&& (31 : Int32))), (own_dc ((y4_.toInt32) &&& (31 : Int32))), (own_dc ((y3_.toInt32) &&& (31 : Int32))), (own_dc ((y2_.toInt32) &&& (31 : Int32))), (own_dc ((y1_.toInt32) &&& (31 : Int32))), (own_dc ((lq.toInt32) &&& (31 : Int32)))]) cs h57 n0 Z57 E_sr F_value_sr F_coder_sr V_dd S_COMPACT_STRINGS (Nat.le_of_ble_eq_true rfl) (own_cA (own_dc_ch _) (own_cA (own_dc_ch _) (own_cA (own_dc_ch _) (own_cA (own_dc_ch _) (own_cA (own_dc_ch _) (own_cA (own_dc_ch _) (own_cA (own_dc_ch _) (own_cA (own_dc_ch _) (own_cA (own_dc_ch _) (own_cA (own_dc_ch _) (own_cA (own_dc_ch _) (own_cA (own_dc_ch _) (own_cA (own_dc_ch _) (own_cA (own_dc_ch _) (own_cA (own_dc_ch _) (own_cA (own_dc_ch _) (own_cA (own_dc_ch _) (own_cA (own_dc_ch _) (own_cA (own_dc_ch _) (own_cA (own_dc_ch _) (own_cA (own_dc_ch _) (own_cA (own_dc_ch _) (own_cA (own_dc_ch _) (own_cA (own_dc_ch _) (own_cA (own_dc_ch _) (own_cA (own_dc_ch _) own_cN)))))))))))))))))))))))))) (own_eA (own_dc_le _) (own_eA (own_dc_le _) (own_eA (own_dc_le _) (own_eA (own_dc_le _) (own_eA (own_dc_le _) (own_eA (own_dc_le _) (own_eA (own_dc_le _) (own_eA (own_dc_le _) (own_eA (own_dc_le _) (own_eA (own_dc_le _) (own_eA (own_dc_le _) (own_eA (own_dc_le _) (own_eA (own_dc_le _) (own_eA (own_dc_le _) (own_eA (own_dc_le _) (own_eA (own_dc_le _) (own_eA (own_dc_le _) (own_eA (own_dc_le _) (own_eA (own_dc_le _) (own_eA (own_dc_le _) (own_eA (own_dc_le _) (own_eA (own_dc_le _) (own_eA (own_dc_le _) (own_eA (own_dc_le _) (own_eA (own_dc_le _) (own_eA (own_dc_le _) own_eN)))))))))))))))))))))))))) (by simp) hcs ne_dd_sr g_sr O) hZ (wq hw 46 rfl) (wq hw 7 rfl) (by decide) (by decide)) (g := (mkF m 66 #[.val (.ref a), .val (.ref dd), .val (.long ((x25_.toUInt64 >>> ((5 : Int32) &&& 0x3f).toInt64.toUInt64).toInt64)), .second, .val (.long (((y25_.toUInt64 >>> ((5 : Int32) &&& 0x3f).toInt64.toUInt64).toInt64) ||| (x25_ <<< ((59 : Int32) &&& 0x3f).toInt64))), .second, .val (.int (-1 : Int32))] [(.ref dd), (.ref sr), (.ref sr)])) rfl (by rw [hml]; rfl) (Steps.refl _) (a := sr) (argsL := [(.ref dd)]) (rest := [(.ref sr)]) (lenOf pd__28_5bC_29V rfl) rfl (by show 2 * 0 + _ ≤ _; exact Nat.le_of_eq rfl) (hb hby d19_66) (fun _ _ => ⟨rfl, e57, (by decide : 4 + 1 ≤ _), (by decide : 162 + 26 ≤ _)⟩)
  dsimp only [Pt.U, Pt.locs, Pt.cells, Pt.slots] at X58 l58 y58 z58 st58 hQ58
  rw [l58, y58, z58] at X58
  obtain ⟨b58, kb58, rfl, N58q, KQ58, fo0_58, g_b58, sl_b58⟩ := hQ58
  have N58 := Fr.app N56 N58q
  have F_high_a := F_high_a.keep KQ58 (ninS ne_a_sr nin0)
  have F_low_a := F_low_a.keep KQ58 (ninS ne_a_sr nin0)
  have E_dd := E_dd.keep KQ58
  have V_dd := V_dd.keep KQ58 (ninS ne_dd_sr nin0)
  have S_ls4 := S_ls4.keep KQ58 (ninS ne_ls4_sr nin0) (ninS ne_lb4_sr nin0)
  have E_sr := E_sr.keep KQ58
  have Z59 : n0 ≤ T58.heap.size := Nat.le_trans Z57 KQ58.1
  have O := O.keep KQ58 (allS (P := fun x => n0 ≤ x) g_sr all0)
  have hsafe := (allS (P := fun x => Safe Z own_EL T4.vm _ x) SF_sr all0)
  have SF_dd := Safe.keep KQ58 hsafe H SF_dd
  have SF_sr := Safe.keep KQ58 hsafe H SF_sr
  have CR := CR.trans (CHr.keep KQ58 hsafe H)
  have H := H.keep KQ58 hsafe
  have hk := Nat.le_trans hk KQ58.1
  have K59 := K57.trans KQ58 (allS (P := fun x => x ∈ [] ∨ h0.size ≤ x) (Or.inr sz_sr) all0)
  have ne_a_b58 : a ≠ b58 := Nat.ne_of_lt (Nat.lt_of_lt_of_le lt_a sl_b58)
  have ne_b58_a := ne_a_b58.symm
  have ne_dd_b58 : dd ≠ b58 := Nat.ne_of_lt (Nat.lt_of_lt_of_le lt_dd sl_b58)
  have ne_b58_dd := ne_dd_b58.symm
  have ne_lb4_b58 : lb4 ≠ b58 := Nat.ne_of_lt (Nat.lt_of_lt_of_le lt_lb4 sl_b58)
  have ne_b58_lb4 := ne_lb4_b58.symm
  have ne_ls4_b58 : ls4 ≠ b58 := Nat.ne_of_lt (Nat.lt_of_lt_of_le lt_ls4 sl_b58)
  have ne_b58_ls4 := ne_ls4_b58.symm
  have ne_sr_b58 : sr ≠ b58 := Nat.ne_of_lt (Nat.lt_of_lt_of_le lt_sr sl_b58)
  have ne_b58_sr := ne_sr_b58.symm
  have sz_b58 : h0.size ≤ b58 := Nat.le_trans K57.1 sl_b58
  have S_sr := fo0_58
  refine GoesW.pre (U' := T58.setTop (mkF m 69 #[.val (.ref a), .val (.ref dd), .val (.long ((x25_.toUInt64 >>> ((5 : Int32) &&& 0x3f).toInt64.toUInt64).toInt64)), .second, .val (.long (((y25_.toUInt64 >>> ((5 : Int32) &&& 0x3f).toInt64.toUInt64).toInt64) ||| (x25_ <<< ((59 : Int32) &&& 0x3f).toInt64))), .second, .val (.int (-1 : Int32))] [(.ref sr)])) (fun t k => st58.trans k) ?_
  refine GoesW.ret X58 hZ hEL hS hk H CR (v := (some (.ref sr))) (fun h => by rw [hret] at h; cases h) hlk (by decide) (by decide) rfl (fun fs hr => retOut X58 hx hret rfl (Or.inr (Or.inr (Or.inr (Or.inr ⟨rfl, rfl, rfl⟩)))) (hb hby d19_69) hr) ?_
  have S_sr : OwnStr Z T58.heap sr b58 kb58 (own_ts hq lq) := by unfold own_ts; rw [eq0_, eq1_, eq2_, eq3_, eq4_, eq5_, eq6_, eq7_, eq8_, eq9_, eq10_, eq11_, eq12_, eq13_, eq14_, eq15_, eq16_, eq17_, eq18_, eq19_, eq20_, eq21_, eq22_, eq23_, eq24_, eq25_]; exact S_sr
  exact ⟨sr, b58, kb58, rfl, N58, K59, S_sr⟩
def own_ds (p1 p2 : Int64) (p3 : Int32) : List Int32 := [(((p1.toUInt64 >>> ((55 : Int32) &&& 0x3f).toInt64.toUInt64).toInt64) &&& (7 : Int64)).toInt32, own_dig p1 (10 : Int32), own_dig p1 (9 : Int32), own_dig p1 (8 : Int32), own_dig p1 (7 : Int32), own_dig p1 (6 : Int32), own_dig p1 (5 : Int32), own_dig p1 (4 : Int32), own_dig p1 (3 : Int32), own_dig p1 (2 : Int32), own_dig p1 (1 : Int32), own_dig p1 (0 : Int32), own_dig p2 (11 : Int32), own_dig p2 (10 : Int32), own_dig p2 (9 : Int32), own_dig p2 (8 : Int32), own_dig p2 (7 : Int32), own_dig p2 (6 : Int32), own_dig p2 (5 : Int32), own_dig p2 (4 : Int32), own_dig p2 (3 : Int32), own_dig p2 (2 : Int32), own_dig p2 (1 : Int32), own_dig p2 (0 : Int32), (p3 &&& (31 : Int32)), (((p3.toUInt32 >>> ((5 : Int32) &&& 31).toUInt32).toInt32) &&& (31 : Int32))]
def own_ml : List Int32 → Int32 → Nat → List Int32
  | [], _, _ => []
  | d :: r, q_, i => own_mc (own_dc d) q_ (Int32.ofNat i) :: own_ml r q_ (i + 1)
def OwnB (d : Int32) : Prop := 0 ≤ d.toInt ∧ d.toInt < 32
theorem own_ofd {d : Int32} (h : OwnB d) : ∃ n : Nat, n < 32 ∧ d = Int32.ofNat n := by
  obtain ⟨h1, h2⟩ := h
  refine ⟨d.toInt.toNat, by omega, ?_⟩
  apply Int32.toInt_inj.mp
  rw [own_ofn _ (by omega)]
  omega
theorem own_bnd {d : Int32} (h : ¬ (d < (0 : Int32)) ∧ d < (32 : Int32)) : OwnB d := by
  rw [Int32.lt_iff_toInt_lt, Int32.lt_iff_toInt_lt, show (0 : Int32).toInt = 0 from by decide, show (32 : Int32).toInt = 32 from by decide] at h
  exact ⟨by omega, by omega⟩
theorem own_tab1 : ∀ n : Nat, n < 32 → (own_ok (own_dc (Int32.ofNat n)) ∧ own_tab.getD (own_dc (Int32.ofNat n)).toNatClampNeg 0 = Int32.ofNat n) ∧ (own_dc (Int32.ofNat n) < (65 : Int32) ∨ (own_ok (own_dc (Int32.ofNat n) + (32 : Int32)) ∧ own_tab.getD (own_dc (Int32.ofNat n) + (32 : Int32)).toNatClampNeg 0 = Int32.ofNat n)) := by decide +kernel
theorem own_t1 {d : Int32} (h : OwnB d) : own_ok (own_dc d) ∧ own_tab.getD (own_dc d).toNatClampNeg 0 = d := by
  obtain ⟨n, hn, rfl⟩ := own_ofd h
  exact (own_tab1 n hn).1
theorem own_t2 {d : Int32} (h : OwnB d) (mk iw : Int32) : own_ok (own_mc (own_dc d) mk iw) ∧ own_tab.getD (own_mc (own_dc d) mk iw).toNatClampNeg 0 = d := by
  obtain ⟨n, hn, rfl⟩ := own_ofd h
  have q := own_tab1 n hn
  unfold own_mc
  split
  · exact q.1
  · rename_i r
    split
    · exact q.1
    · exact q.2.elim (fun z => absurd z r) id
theorem own_mapd (f : Int32 → Int32) (l : List Int32) (i : Nat) (h : i < l.length) : (l.map f).getD i 0 = f (l.getD i 0) := by
  simp [List.getD_eq_getElem?_getD, h]
theorem own_mld : ∀ (l : List Int32) (mk : Int32) (j i : Nat), i < l.length → (own_ml l mk j).getD i 0 = own_mc (own_dc (l.getD i 0)) mk (Int32.ofNat (j + i))
  | [], q_, j, i, h => absurd h (Nat.not_lt_zero i)
  | d :: r, q_, j, 0, _ => rfl
  | d :: r, q_, j, i + 1, h => by
    have q := own_mld r q_ (j + 1) i (Nat.lt_of_succ_lt_succ h)
    rw [show j + (i + 1) = j + 1 + i by omega]
    exact q
theorem own_mll : ∀ (l : List Int32) (mk : Int32) (j : Nat), (own_ml l mk j).length = l.length
  | [], _, _ => rfl
  | _ :: r, q_, j => congrArg (· + 1) (own_mll r q_ (j + 1))
def own_pd (ds : List Int32) : Nat → Int64 × Int64
  | 0 => ((0 : Int64), (0 : Int64))
  | i + 1 => own_st (own_pd ds i) (ds.getD i 0)
theorem own_ppd (cl ds : List Int32) (n : Nat) (h : ∀ i, i < n → own_tab.getD (cl.getD i 0).toNatClampNeg 0 = ds.getD i 0) : ∀ k, k ≤ n → own_p cl k = own_pd ds k
  | 0, _ => rfl
  | k + 1, hk => by
    show own_st (own_p cl k) _ = own_st (own_pd ds k) _
    rw [own_ppd cl ds n h k (by omega), h k (by omega)]
def own_U (x : Int64) : Int := x.toInt % 18446744073709551616
def own_P (hl : Int64 × Int64) : Int := own_U hl.1 * 18446744073709551616 + own_U hl.2
theorem own_Pst (hl : Int64 × Int64) (d : Int32) (hd : OwnB d) (hb : 32 * own_P hl + d.toInt < 340282366920938463463374607431768211456) : own_P (own_st hl d) = 32 * own_P hl + d.toInt := by
  obtain ⟨x, y⟩ := hl
  obtain ⟨d1, d2⟩ := hd
  have a1 := c_lshl x 5 5 (by decide)
  have a2 := c_lushr y 59 59 (by decide) (by decide)
  have b1 := c_lshl y 5 5 (by decide)
  have b2 := c_i2l d
  simp only [own_P, own_U, own_st] at hb ⊢
  generalize x <<< ((5 : Int32) &&& 0x3f).toInt64 = u at *
  generalize (y.toUInt64 >>> ((59 : Int32) &&& 0x3f).toInt64.toUInt64).toInt64 = v at *
  generalize y <<< ((5 : Int32) &&& 0x3f).toInt64 = w at *
  generalize d.toInt64 = z at *
  have o1 := c_orL u v 5 (by decide) 32 (by decide) (by omega) (by omega) (by omega)
  have o2 := c_orL w z 5 (by decide) 32 (by decide) (by omega) (by omega) (by omega)
  omega
theorem own_Psh (hl : Int64 × Int64) : own_P (own_sh hl) = own_P hl / 32 := by
  obtain ⟨x, y⟩ := hl
  have a1 := c_lushr x 5 5 (by decide) (by decide)
  have a2 := c_lushr y 5 5 (by decide) (by decide)
  have b1 := c_lshl x 59 59 (by decide)
  simp only [own_P, own_U, own_sh]
  generalize (x.toUInt64 >>> ((5 : Int32) &&& 0x3f).toInt64.toUInt64).toInt64 = u at *
  generalize (y.toUInt64 >>> ((5 : Int32) &&& 0x3f).toInt64.toUInt64).toInt64 = v at *
  generalize x <<< ((59 : Int32) &&& 0x3f).toInt64 = w at *
  have o1 := c_orL' v w 59 (by decide) 576460752303423488 (by decide) (by omega) (by omega) (by omega)
  omega
theorem own_Pdg (hl : Int64 × Int64) : (hl.2.toInt32 &&& (31 : Int32)).toInt = own_P hl % 32 := by
  obtain ⟨x, y⟩ := hl
  have a1 := c_mask y.toInt32 31 5 (by decide) (by decide)
  have a2 := c_l2i y
  simp only [own_P, own_U]
  omega
def own_v (ds : List Int32) : Nat → Int
  | 0 => 0
  | i + 1 => 32 * own_v ds i + (ds.getD i 0).toInt
theorem own_vb (ds : List Int32) (hb : ∀ i, i < 26 → OwnB (ds.getD i 0)) (h7 : (ds.getD 0 0).toInt ≤ 7) : ∀ k, k < 26 → 0 ≤ own_v ds (k + 1) ∧ own_v ds (k + 1) < 8 * 32 ^ k
  | 0, _ => by
    have := hb 0 (by decide)
    show 0 ≤ 32 * 0 + (ds.getD 0 0).toInt ∧ 32 * 0 + (ds.getD 0 0).toInt < 8 * 32 ^ 0
    have q := this.1
    omega
  | k + 1, hk => by
    have q := own_vb ds hb h7 k (by omega)
    have b := hb (k + 1) hk
    have b1 := b.1
    have b2 := b.2
    show 0 ≤ 32 * own_v ds (k + 1) + (ds.getD (k + 1) 0).toInt ∧ 32 * own_v ds (k + 1) + (ds.getD (k + 1) 0).toInt < 8 * 32 ^ (k + 1)
    rw [Int.pow_succ]
    omega
theorem own_pw : ∀ k, k < 26 → (8 : Int) * 32 ^ k ≤ 340282366920938463463374607431768211456 := by decide
theorem own_Pv (ds : List Int32) (hb : ∀ i, i < 26 → OwnB (ds.getD i 0)) (h7 : (ds.getD 0 0).toInt ≤ 7) : ∀ k, k ≤ 26 → own_P (own_pd ds k) = own_v ds k
  | 0, _ => by
    show own_P ((0 : Int64), (0 : Int64)) = 0
    decide +kernel
  | k + 1, hk => by
    have ih := own_Pv ds hb h7 k (by omega)
    have q := own_vb ds hb h7 k (by omega)
    have w := own_pw k (by omega)
    have e : own_v ds (k + 1) = 32 * own_v ds k + (ds.getD k 0).toInt := rfl
    have := own_Pst (own_pd ds k) (ds.getD k 0) (hb k (by omega)) (by rw [ih]; omega)
    rw [ih] at this
    exact this
theorem own_vdiv (ds : List Int32) (hb : ∀ i, i < 26 → OwnB (ds.getD i 0)) (j : Nat) (hj : j < 26) : own_v ds (j + 1) / 32 = own_v ds j ∧ own_v ds (j + 1) % 32 = (ds.getD j 0).toInt := by
  have e : own_v ds (j + 1) = 32 * own_v ds j + (ds.getD j 0).toInt := rfl
  obtain ⟨b1, b2⟩ := hb j hj
  omega
theorem own_Pq (ds : List Int32) (hb : ∀ i, i < 26 → OwnB (ds.getD i 0)) (hq lq : Int64) (hv : own_P (hq, lq) = own_v ds 26) : ∀ k, k ≤ 26 → own_P (own_q hq lq k) = own_v ds (26 - k)
  | 0, _ => hv
  | k + 1, hk => by
    have ih := own_Pq ds hb hq lq hv k (by omega)
    show own_P (own_sh (own_q hq lq k)) = _
    rw [own_Psh, ih, show 26 - k = 26 - (k + 1) + 1 by omega]
    exact (own_vdiv ds hb _ (by omega)).1
theorem own_qd (ds : List Int32) (hb : ∀ i, i < 26 → OwnB (ds.getD i 0)) (hq lq : Int64) (hv : own_P (hq, lq) = own_v ds 26) (k j : Nat) (hk : j + k = 25) : ((own_q hq lq k).2.toInt32 &&& (31 : Int32)) = ds.getD j 0 := by
  apply Int32.toInt_inj.mp
  rw [own_Pdg, own_Pq ds hb hq lq hv k (by omega), show 26 - k = j + 1 by omega]
  exact (own_vdiv ds hb j (by omega)).2
theorem own_l26e (ds : List Int32) (f : Int32 → Int32) (h : ds.length = 26) : ds.map f = [f (ds.getD 0 0), f (ds.getD 1 0), f (ds.getD 2 0), f (ds.getD 3 0), f (ds.getD 4 0), f (ds.getD 5 0), f (ds.getD 6 0), f (ds.getD 7 0), f (ds.getD 8 0), f (ds.getD 9 0), f (ds.getD 10 0), f (ds.getD 11 0), f (ds.getD 12 0), f (ds.getD 13 0), f (ds.getD 14 0), f (ds.getD 15 0), f (ds.getD 16 0), f (ds.getD 17 0), f (ds.getD 18 0), f (ds.getD 19 0), f (ds.getD 20 0), f (ds.getD 21 0), f (ds.getD 22 0), f (ds.getD 23 0), f (ds.getD 24 0), f (ds.getD 25 0)] := by
  apply List.ext_getElem
  · rw [List.length_map, h]; rfl
  · intro i h1 h2
    have h3 : i < 26 := h2
    have e : (ds.map f)[i] = f (ds.getD i 0) := by
      have h4 : i < ds.length := by omega
      simp [List.getD_eq_getElem?_getD, h4]
    rw [e]
    match i, h3 with
    | 0, _ => rfl
    | 1, _ => rfl
    | 2, _ => rfl
    | 3, _ => rfl
    | 4, _ => rfl
    | 5, _ => rfl
    | 6, _ => rfl
    | 7, _ => rfl
    | 8, _ => rfl
    | 9, _ => rfl
    | 10, _ => rfl
    | 11, _ => rfl
    | 12, _ => rfl
    | 13, _ => rfl
    | 14, _ => rfl
    | 15, _ => rfl
    | 16, _ => rfl
    | 17, _ => rfl
    | 18, _ => rfl
    | 19, _ => rfl
    | 20, _ => rfl
    | 21, _ => rfl
    | 22, _ => rfl
    | 23, _ => rfl
    | 24, _ => rfl
    | 25, _ => rfl
    | n + 26, h => exact absurd h (by omega)
theorem own_tsl (ds : List Int32) (h : ds.length = 26) (hb : ∀ i, i < 26 → OwnB (ds.getD i 0)) (hq lq : Int64) (hv : own_P (hq, lq) = own_v ds 26) : own_ts hq lq = ds.map own_dc := by
  rw [own_l26e ds own_dc h]
  unfold own_ts
  rw [own_qd ds hb hq lq hv 25 0 (by decide), own_qd ds hb hq lq hv 24 1 (by decide), own_qd ds hb hq lq hv 23 2 (by decide), own_qd ds hb hq lq hv 22 3 (by decide), own_qd ds hb hq lq hv 21 4 (by decide), own_qd ds hb hq lq hv 20 5 (by decide), own_qd ds hb hq lq hv 19 6 (by decide), own_qd ds hb hq lq hv 18 7 (by decide), own_qd ds hb hq lq hv 17 8 (by decide), own_qd ds hb hq lq hv 16 9 (by decide), own_qd ds hb hq lq hv 15 10 (by decide), own_qd ds hb hq lq hv 14 11 (by decide), own_qd ds hb hq lq hv 13 12 (by decide), own_qd ds hb hq lq hv 12 13 (by decide), own_qd ds hb hq lq hv 11 14 (by decide), own_qd ds hb hq lq hv 10 15 (by decide), own_qd ds hb hq lq hv 9 16 (by decide), own_qd ds hb hq lq hv 8 17 (by decide), own_qd ds hb hq lq hv 7 18 (by decide), own_qd ds hb hq lq hv 6 19 (by decide), own_qd ds hb hq lq hv 5 20 (by decide), own_qd ds hb hq lq hv 4 21 (by decide), own_qd ds hb hq lq hv 3 22 (by decide), own_qd ds hb hq lq hv 2 23 (by decide), own_qd ds hb hq lq hv 1 24 (by decide), own_qd ds hb hq lq hv 0 25 (by decide)]
theorem own_mm (q M : Int) (hM : 0 < M) : 32 * ((q / 32) % M) + q % 32 = q % (32 * M) := by
  have a := Int.emod_add_mul_ediv (q / 32) M
  have b := Int.emod_add_mul_ediv q 32
  have r1 := Int.emod_nonneg (q / 32) (Int.ne_of_gt hM)
  have r2 := Int.emod_lt_of_pos (q / 32) hM
  have e : q = (32 * ((q / 32) % M) + q % 32) + 32 * M * (q / 32 / M) := by
    have : 32 * M * (q / 32 / M) = 32 * (M * (q / 32 / M)) := Int.mul_assoc _ _ _
    omega
  have f := Int.add_mul_emod_self_left (32 * ((q / 32) % M) + q % 32) (32 * M) (q / 32 / M)
  rw [← e] at f
  rw [f]
  exact (Int.emod_eq_of_lt (by omega) (by omega)).symm
theorem own_dig0 (p : Int64) : ((((p.toUInt64 >>> ((55 : Int32) &&& 0x3f).toInt64.toUInt64).toInt64) &&& (7 : Int64)).toInt32).toInt = own_U p / 36028797018963968 % 8 := by
  have a := c_lushr p 55 55 (by decide) (by decide)
  generalize ((p.toUInt64 >>> ((55 : Int32) &&& 0x3f).toInt64.toUInt64).toInt64) = x at *
  have q := c_maskL x 7 3 (by decide) (by decide)
  have r := c_l2i (x &&& 7)
  have s := rng32 (x &&& 7).toInt32
  unfold own_U
  omega
theorem own_digv (p : Int64) (k : Int32) (n : Nat) (D : Int) (h : ((5 : Int32) * k).toBitVec.toNat % 64 = n) (h0 : 0 < n) (hD : ((2 ^ n : Nat) : Int) = D) : (own_dig p k).toInt = own_U p / D % 32 := by
  have a := c_lushr p ((5 : Int32) * k) n h h0
  rw [hD] at a
  unfold own_dig own_U
  generalize ((p.toUInt64 >>> (((5 : Int32) * k) &&& 0x3f).toInt64.toUInt64).toInt64) = x at *
  have q := c_maskL x 31 5 (by decide) (by decide)
  have r := c_l2i (x &&& 31)
  have s := rng32 (x &&& 31).toInt32
  omega
theorem own_digb (p : Int64) (k : Int32) : ¬ (own_dig p k < (0 : Int32)) ∧ own_dig p k < (32 : Int32) := by
  unfold own_dig
  generalize ((p.toUInt64 >>> (((5 : Int32) * k) &&& 0x3f).toInt64.toUInt64).toInt64) = x
  have q := c_maskL x 31 5 (by decide) (by decide)
  have r := c_l2i (x &&& 31)
  have s := rng32 (x &&& 31).toInt32
  rw [Int32.lt_iff_toInt_lt, Int32.lt_iff_toInt_lt, show (0 : Int32).toInt = 0 from by decide, show (32 : Int32).toInt = 32 from by decide]
  omega
theorem own_dsb (p1 p2 : Int64) (p3 : Int32) : ∀ d ∈ own_ds p1 p2 p3, OwnB d := by
  intro d hd
  simp only [own_ds, List.mem_cons, List.not_mem_nil, or_false] at hd
  rcases hd with rfl | rfl | rfl | rfl | rfl | rfl | rfl | rfl | rfl | rfl | rfl | rfl | rfl | rfl | rfl | rfl | rfl | rfl | rfl | rfl | rfl | rfl | rfl | rfl | rfl | rfl
  · exact own_bnd (own_b7 _)
  · exact own_bnd (own_digb _ _)
  · exact own_bnd (own_digb _ _)
  · exact own_bnd (own_digb _ _)
  · exact own_bnd (own_digb _ _)
  · exact own_bnd (own_digb _ _)
  · exact own_bnd (own_digb _ _)
  · exact own_bnd (own_digb _ _)
  · exact own_bnd (own_digb _ _)
  · exact own_bnd (own_digb _ _)
  · exact own_bnd (own_digb _ _)
  · exact own_bnd (own_digb _ _)
  · exact own_bnd (own_digb _ _)
  · exact own_bnd (own_digb _ _)
  · exact own_bnd (own_digb _ _)
  · exact own_bnd (own_digb _ _)
  · exact own_bnd (own_digb _ _)
  · exact own_bnd (own_digb _ _)
  · exact own_bnd (own_digb _ _)
  · exact own_bnd (own_digb _ _)
  · exact own_bnd (own_digb _ _)
  · exact own_bnd (own_digb _ _)
  · exact own_bnd (own_digb _ _)
  · exact own_bnd (own_digb _ _)
  · exact own_bnd (own_a31 _)
  · exact own_bnd (own_a31 _)
theorem own_dsi (p1 p2 : Int64) (p3 : Int32) (i : Nat) (h : i < 26) : OwnB ((own_ds p1 p2 p3).getD i 0) := own_dsb p1 p2 p3 _ (own_gmem _ i h)
theorem own_tm (p1 p2 : Int64) (p3 : Int32) : own_v (own_ds p1 p2 p3) 10 = own_U p1 / 1024 % 281474976710656 := by
  have n0 : 0 ≤ own_U p1 := Int.emod_nonneg _ (by decide)
  have e0 : own_v (own_ds p1 p2 p3) 1 = own_U p1 / 36028797018963968 % 8 := by
    show 32 * 0 + _ = _
    rw [Int.mul_zero, Int.zero_add]
    exact own_dig0 p1
  have e1 : own_v (own_ds p1 p2 p3) 2 = own_U p1 / 1125899906842624 % 256 := by
    show 32 * own_v (own_ds p1 p2 p3) 1 + (own_dig p1 (10 : Int32)).toInt = _
    rw [e0, own_digv p1 10 50 1125899906842624 (by decide) (by decide) (by decide)]
    have q := own_mm (own_U p1 / 1125899906842624) 8 (by decide)
    rw [Int.ediv_ediv_of_nonneg (by decide)] at q
    exact q
  have e2 : own_v (own_ds p1 p2 p3) 3 = own_U p1 / 35184372088832 % 8192 := by
    show 32 * own_v (own_ds p1 p2 p3) 2 + (own_dig p1 (9 : Int32)).toInt = _
    rw [e1, own_digv p1 9 45 35184372088832 (by decide) (by decide) (by decide)]
    have q := own_mm (own_U p1 / 35184372088832) 256 (by decide)
    rw [Int.ediv_ediv_of_nonneg (by decide)] at q
    exact q
  have e3 : own_v (own_ds p1 p2 p3) 4 = own_U p1 / 1099511627776 % 262144 := by
    show 32 * own_v (own_ds p1 p2 p3) 3 + (own_dig p1 (8 : Int32)).toInt = _
    rw [e2, own_digv p1 8 40 1099511627776 (by decide) (by decide) (by decide)]
    have q := own_mm (own_U p1 / 1099511627776) 8192 (by decide)
    rw [Int.ediv_ediv_of_nonneg (by decide)] at q
    exact q
  have e4 : own_v (own_ds p1 p2 p3) 5 = own_U p1 / 34359738368 % 8388608 := by
    show 32 * own_v (own_ds p1 p2 p3) 4 + (own_dig p1 (7 : Int32)).toInt = _
    rw [e3, own_digv p1 7 35 34359738368 (by decide) (by decide) (by decide)]
    have q := own_mm (own_U p1 / 34359738368) 262144 (by decide)
    rw [Int.ediv_ediv_of_nonneg (by decide)] at q
    exact q
  have e5 : own_v (own_ds p1 p2 p3) 6 = own_U p1 / 1073741824 % 268435456 := by
    show 32 * own_v (own_ds p1 p2 p3) 5 + (own_dig p1 (6 : Int32)).toInt = _
    rw [e4, own_digv p1 6 30 1073741824 (by decide) (by decide) (by decide)]
    have q := own_mm (own_U p1 / 1073741824) 8388608 (by decide)
    rw [Int.ediv_ediv_of_nonneg (by decide)] at q
    exact q
  have e6 : own_v (own_ds p1 p2 p3) 7 = own_U p1 / 33554432 % 8589934592 := by
    show 32 * own_v (own_ds p1 p2 p3) 6 + (own_dig p1 (5 : Int32)).toInt = _
    rw [e5, own_digv p1 5 25 33554432 (by decide) (by decide) (by decide)]
    have q := own_mm (own_U p1 / 33554432) 268435456 (by decide)
    rw [Int.ediv_ediv_of_nonneg (by decide)] at q
    exact q
  have e7 : own_v (own_ds p1 p2 p3) 8 = own_U p1 / 1048576 % 274877906944 := by
    show 32 * own_v (own_ds p1 p2 p3) 7 + (own_dig p1 (4 : Int32)).toInt = _
    rw [e6, own_digv p1 4 20 1048576 (by decide) (by decide) (by decide)]
    have q := own_mm (own_U p1 / 1048576) 8589934592 (by decide)
    rw [Int.ediv_ediv_of_nonneg (by decide)] at q
    exact q
  have e8 : own_v (own_ds p1 p2 p3) 9 = own_U p1 / 32768 % 8796093022208 := by
    show 32 * own_v (own_ds p1 p2 p3) 8 + (own_dig p1 (3 : Int32)).toInt = _
    rw [e7, own_digv p1 3 15 32768 (by decide) (by decide) (by decide)]
    have q := own_mm (own_U p1 / 32768) 274877906944 (by decide)
    rw [Int.ediv_ediv_of_nonneg (by decide)] at q
    exact q
  have e9 : own_v (own_ds p1 p2 p3) 10 = own_U p1 / 1024 % 281474976710656 := by
    show 32 * own_v (own_ds p1 p2 p3) 9 + (own_dig p1 (2 : Int32)).toInt = _
    rw [e8, own_digv p1 2 10 1024 (by decide) (by decide) (by decide)]
    have q := own_mm (own_U p1 / 1024) 8796093022208 (by decide)
    rw [Int.ediv_ediv_of_nonneg (by decide)] at q
    exact q
  exact e9
theorem own_v26 (ds : List Int32) (hb : ∀ i, i < 26 → OwnB (ds.getD i 0)) : own_v ds 26 / 1208925819614629174706176 = own_v ds 10 := by
  have e25 : own_v ds 26 / 32 = own_v ds 25 := (own_vdiv ds hb 25 (by decide)).1
  have e24 : own_v ds 25 / 32 = own_v ds 24 := (own_vdiv ds hb 24 (by decide)).1
  have e23 : own_v ds 24 / 32 = own_v ds 23 := (own_vdiv ds hb 23 (by decide)).1
  have e22 : own_v ds 23 / 32 = own_v ds 22 := (own_vdiv ds hb 22 (by decide)).1
  have e21 : own_v ds 22 / 32 = own_v ds 21 := (own_vdiv ds hb 21 (by decide)).1
  have e20 : own_v ds 21 / 32 = own_v ds 20 := (own_vdiv ds hb 20 (by decide)).1
  have e19 : own_v ds 20 / 32 = own_v ds 19 := (own_vdiv ds hb 19 (by decide)).1
  have e18 : own_v ds 19 / 32 = own_v ds 18 := (own_vdiv ds hb 18 (by decide)).1
  have e17 : own_v ds 18 / 32 = own_v ds 17 := (own_vdiv ds hb 17 (by decide)).1
  have e16 : own_v ds 17 / 32 = own_v ds 16 := (own_vdiv ds hb 16 (by decide)).1
  have e15 : own_v ds 16 / 32 = own_v ds 15 := (own_vdiv ds hb 15 (by decide)).1
  have e14 : own_v ds 15 / 32 = own_v ds 14 := (own_vdiv ds hb 14 (by decide)).1
  have e13 : own_v ds 14 / 32 = own_v ds 13 := (own_vdiv ds hb 13 (by decide)).1
  have e12 : own_v ds 13 / 32 = own_v ds 12 := (own_vdiv ds hb 12 (by decide)).1
  have e11 : own_v ds 12 / 32 = own_v ds 11 := (own_vdiv ds hb 11 (by decide)).1
  have e10 : own_v ds 11 / 32 = own_v ds 10 := (own_vdiv ds hb 10 (by decide)).1
  omega
theorem own_law (p1 p2 : Int64) (p3 p4 : Int32) {lu lm : List Int32} (e1 : lu = (own_ds p1 p2 p3).map own_dc) (e2 : lm = own_ml (own_ds p1 p2 p3) p4 0) :
    own_good lm ∧ own_good lu ∧ own_p lm 26 = own_p lu 26 ∧ own_ts (own_p lu 26).1 (own_p lu 26).2 = lu ∧
    lcmpW ((((own_p lu 26).1).toUInt64 >>> ((16 : Int32) &&& 0x3f).toInt64.toUInt64).toInt64) (((p1.toUInt64 >>> ((10 : Int32) &&& 0x3f).toInt64.toUInt64).toInt64) &&& (281474976710655 : Int64)) = (0 : Int32) := by
  have hl : (own_ds p1 p2 p3).length = 26 := rfl
  have hb := own_dsi p1 p2 p3
  have tmv := own_tm p1 p2 p3
  have h7 : ((own_ds p1 p2 p3).getD 0 0).toInt ≤ 7 := by
    show ((((p1.toUInt64 >>> ((55 : Int32) &&& 0x3f).toInt64.toUInt64).toInt64) &&& (7 : Int64)).toInt32).toInt ≤ 7
    rw [own_dig0]
    omega
  generalize own_ds p1 p2 p3 = ds at *
  have tu : ∀ i, i < 26 → own_ok (lu.getD i 0) ∧ own_tab.getD (lu.getD i 0).toNatClampNeg 0 = ds.getD i 0 := fun i hi => by
    rw [e1, own_mapd _ _ i (by omega)]
    exact own_t1 (hb i hi)
  have tm : ∀ i, i < 26 → own_ok (lm.getD i 0) ∧ own_tab.getD (lm.getD i 0).toNatClampNeg 0 = ds.getD i 0 := fun i hi => by
    rw [e2, own_mld _ _ _ i (by omega)]
    exact own_t2 (hb i hi) _ _
  have n7 : ¬ ((7 : Int32) < ds.getD 0 0) := by
    rw [Int32.lt_iff_toInt_lt, show (7 : Int32).toInt = 7 from by decide]
    omega
  have pu := own_ppd lu ds 26 (fun i hi => (tu i hi).2) 26 (by decide)
  have pm := own_ppd lm ds 26 (fun i hi => (tm i hi).2) 26 (by decide)
  have hP := own_Pv ds hb h7 26 (by decide)
  refine ⟨⟨by rw [e2, own_mll, hl], fun i hi => (tm i hi).1, by rw [(tm 0 (by decide)).2]; exact n7⟩, ⟨by rw [e1, List.length_map, hl], fun i hi => (tu i hi).1, by rw [(tu 0 (by decide)).2]; exact n7⟩, by rw [pu, pm], ?_, ?_⟩
  · rw [pu, e1]
    exact own_tsl ds hl hb _ _ hP
  · rw [pu]
    have v := own_v26 ds hb
    rw [tmv, ← hP] at v
    generalize own_pd ds 26 = hl' at v
    obtain ⟨x, y⟩ := hl'
    have a := c_lushr x 16 16 (by decide) (by decide)
    have b := c_lushr p1 10 10 (by decide) (by decide)
    simp only [own_P, own_U] at v
    have e : ((x.toUInt64 >>> ((16 : Int32) &&& 0x3f).toInt64.toUInt64).toInt64) = (((p1.toUInt64 >>> ((10 : Int32) &&& 0x3f).toInt64.toUInt64).toInt64) &&& (281474976710655 : Int64)) := by
      generalize ((p1.toUInt64 >>> ((10 : Int32) &&& 0x3f).toInt64.toUInt64).toInt64) = z at *
      have q := c_maskL z 281474976710655 48 (by decide) (by decide)
      apply Int64.toInt_inj.mp
      omega
    show lcmpW ((x.toUInt64 >>> ((16 : Int32) &&& 0x3f).toInt64.toUInt64).toInt64) _ = 0
    rw [e]
    exact own_lw0 _
theorem ef_rm0 (m : MethodId) (x0 : Int64) (x1 : Int64) (x2 : Int32) (x3 : Int32) : entryFrame m #[(.long x0), (.long x1), (.int x2), (.int x3)] maxLocals = mkF m 0 #[.val (.long x0), .second, .val (.long x1), .second, .val (.int x2), .val (.int x3), .unset, .unset, .unset, .unset, .unset, .unset, .unset, .unset] [] := by first | (simp [entryFrame, mkF, argsToLocals, Value.category, maxLocals]; done) | rfl
theorem pd__28_5bC_5bCIII_29V : parseMethodDescriptor "([C[CIII)V" = some ⟨[(.array .char), (.array .char), .int, .int, .int], none⟩ := by decide +kernel
theorem pd__28JI_29I : parseMethodDescriptor "(JI)I" = some ⟨[.long, .int], some .int⟩ := by decide +kernel
theorem pd__28Ljava_2flang_2fString_3b_29Lcom_2fexample_2fknown_paths_2fknownpaths_2fulid_2fUlid_3b : parseMethodDescriptor "(Ljava/lang/String;)Lcom/example/known_paths/knownpaths/ulid/Ulid;" = some ⟨[(.object "java/lang/String")], some (.object "com/example/known_paths/knownpaths/ulid/Ulid")⟩ := by decide +kernel
theorem pd__28Ljava_2flang_2fObject_3b_29Z : parseMethodDescriptor "(Ljava/lang/Object;)Z" = some ⟨[(.object "java/lang/Object")], some .boolean⟩ := by decide +kernel
theorem pd__28_29Ljava_2flang_2fString_3b : parseMethodDescriptor "()Ljava/lang/String;" = some ⟨[], some (.object "java/lang/String")⟩ := by decide +kernel
theorem pd__28_29J : parseMethodDescriptor "()J" = some ⟨[], some .long⟩ := by decide +kernel
def Q_rm0 (Z : State) (p1 p2 : Int64) (p3 p4 : Int32) (cs : Int32) (sf : Value) (da : Addr) (kd : ClassId) (h0 : Heap) (n0 : Nat) (vm : Vm) (v : Option Value) (h : Heap) (L : List Loc) : Prop := v = some (.int 1) ∧ Fr n0 L
set_option maxRecDepth 65536 in
set_option maxHeartbeats 40000000 in
theorem rm0 (l : Launch) (Z : State) (a0 : Array Value) (hw : ∀ d ∈ tables_1, d.before a0 Z = true) (hEL : EW Z a0 own_EL) (ws : List Jvm.Cond) (p1 p2 : Int64) (p3 p4 : Int32) (cs : Int32) (sf : Value) (da : Addr) (kd : ClassId) (h0 : Heap) (n0 : Nat) (Z0 : n0 ≤ h0.size) (S_COMPACT_STRINGS : Sta Z Z.heap "java/lang/String" "COMPACT_STRINGS" "Z" (.int cs)) (S_SIOOBE_FORMATTER : Sta Z Z.heap "jdk/internal/util/Preconditions" "SIOOBE_FORMATTER" "Ljava/util/function/BiFunction;" sf) (S_DIGIT_VALUES : Sta Z Z.heap "com/example/known_paths/knownpaths/ulid/Ulid" "DIGIT_VALUES" "[I" (.ref da)) (V_da : Arv Z Z.heap da kd .int (128 : Int32) (own_tab.map Value.int) (.int (0 : Int32))) (hcs : ¬ (cs = (0 : Int32))) (hsf : sf.isRef = true) (O : Old Z n0 h0) :
    MetW l Z own_EL x code maxLocals ret ws room_1 #[(.long p1), (.long p2), (.int p3), (.int p4)] [] h0 (Q_rm0 Z p1 p2 p3 p4 cs sf da kd h0 n0) := by
  refine metW_of (plainFor_of_name pn_com_example_known_paths_knownpaths_ulid_UlidParsePinLaw) (own := "com/example/known_paths/knownpaths/ulid/UlidParsePinLaw") rfl (fun m => ef_rm0 m p1 p2 p3 p4) ?_
  intro p e s m below meth c s₁ hx hby hml hown hnm hZ X0 e0 hret hlk H hSf CR hS
  have hml : c.maxLocals = 14 := hml
  have N0 := Fr.nil n0
  have hk := Nat.le_refl h0.size
  show GoesW p e below s Z own_EL _ _ _ (s₁.setTop (mkF m 0 #[.val (.long p1), .second, .val (.long p2), .second, .val (.int p3), .val (.int p4), .unset, .unset, .unset, .unset, .unset, .unset, .unset, .unset] []))
  refine GoesW.pre (U' := s₁.setTop (mkF m 2 #[.val (.long p1), .second, .val (.long p2), .second, .val (.int p3), .val (.int p4), .unset, .unset, .unset, .unset, .unset, .unset, .unset, .unset] [(.int (26 : Int32))])) (fun t k => XS.bipush X0.here hx rfl (hb hby at_0) k) ?_
  obtain ⟨T1, h1, k1, X1, e1, E1, A1, B1, st1⟩ := newPE X0 hx hZ (wq hw 0 rfl) e0 (g := (mkF m 2 #[.val (.long p1), .second, .val (.long p2), .second, .val (.int p3), .val (.int p4), .unset, .unset, .unset, .unset, .unset, .unset, .unset, .unset] [(.int (26 : Int32))])) rfl (hb hby at_2) rfl (by decide) (cap := 26) (by decide) (by decide) (by decide) (by decide) (ad := "[C") (by decide)
  obtain ⟨ma, g1⟩ : ∃ z, z = h0.size := ⟨_, rfl⟩
  rw [← g1] at A1 B1 st1
  have ne_da_ma : da ≠ ma := Nat.ne_of_lt (Nat.lt_of_lt_of_le (V_da.ext O.2).lt (Nat.le_of_eq g1.symm))
  have ne_ma_da := ne_da_ma.symm
  have g_ma : n0 ≤ ma := Nat.le_trans Z0 (Nat.le_of_eq g1.symm)
  have O := O.ext E1
  have SF_ma := Safe.ext E1 H (Safe.new (x := ma) (Nat.le_of_eq g1.symm))
  have CR := CR.trans (CHr.ext E1 H)
  have H := H.ext E1
  have hk := Nat.le_trans hk E1.1
  have Z1 : n0 ≤ h1.size := Nat.le_trans Z0 E1.1
  have E_ma := B1
  have V_ma : Arv Z h1 ma k1 .char (26 : Int32) [(.int (0 : Int32)), (.int (0 : Int32)), (.int (0 : Int32)), (.int (0 : Int32)), (.int (0 : Int32)), (.int (0 : Int32)), (.int (0 : Int32)), (.int (0 : Int32)), (.int (0 : Int32)), (.int (0 : Int32)), (.int (0 : Int32)), (.int (0 : Int32)), (.int (0 : Int32)), (.int (0 : Int32)), (.int (0 : Int32)), (.int (0 : Int32)), (.int (0 : Int32)), (.int (0 : Int32)), (.int (0 : Int32)), (.int (0 : Int32)), (.int (0 : Int32)), (.int (0 : Int32)), (.int (0 : Int32)), (.int (0 : Int32)), (.int (0 : Int32)), (.int (0 : Int32))] (.int (0 : Int32)) := (Arv.new A1 (by decide)).pad (pad_rep [] (.int (0 : Int32)) 26)
  refine GoesW.pre (U' := T1.setTop (mkF m 8 #[.val (.long p1), .second, .val (.long p2), .second, .val (.int p3), .val (.int p4), .val (.ref ma), .unset, .unset, .unset, .unset, .unset, .unset, .unset] [(.int (26 : Int32))])) (fun t k => st1 t (XS.astore X1.here hx rfl (hb hby at_4) rfl rfl (l' := #[.val (.long p1), .second, .val (.long p2), .second, .val (.int p3), .val (.int p4), .val (.ref ma), .unset, .unset, .unset, .unset, .unset, .unset, .unset]) rfl (XS.bipush X1.here hx rfl (hb hby at_6) k))) ?_
  obtain ⟨T2, h2, k2, X2, e2, E2, A2, B2, st2⟩ := newPE X1 hx hZ (wq hw 0 rfl) e1 (g := (mkF m 8 #[.val (.long p1), .second, .val (.long p2), .second, .val (.int p3), .val (.int p4), .val (.ref ma), .unset, .unset, .unset, .unset, .unset, .unset, .unset] [(.int (26 : Int32))])) rfl (hb hby at_8) rfl (by decide) (cap := 26) (by decide) (by decide) (by decide) (by decide) (ad := "[C") (by decide)
  obtain ⟨ua, g2⟩ : ∃ z, z = h1.size := ⟨_, rfl⟩
  rw [← g2] at A2 B2 st2
  have ne_da_ua : da ≠ ua := Nat.ne_of_lt (Nat.lt_of_lt_of_le (V_da.ext O.2).lt (Nat.le_of_eq g2.symm))
  have ne_ua_da := ne_da_ua.symm
  have ne_ma_ua : ma ≠ ua := Nat.ne_of_lt (Nat.lt_of_lt_of_le E_ma.lt (Nat.le_of_eq g2.symm))
  have ne_ua_ma := ne_ma_ua.symm
  have g_ua : n0 ≤ ua := Nat.le_trans Z1 (Nat.le_of_eq g2.symm)
  have E_ma := E_ma.ext E2
  have V_ma := V_ma.ext E2
  have O := O.ext E2
  have SF_ma := Safe.ext E2 H SF_ma
  have SF_ua := Safe.ext E2 H (Safe.new (x := ua) (Nat.le_of_eq g2.symm))
  have CR := CR.trans (CHr.ext E2 H)
  have H := H.ext E2
  have hk := Nat.le_trans hk E2.1
  have Z2 : n0 ≤ h2.size := Nat.le_trans Z1 E2.1
  have E_ua := B2
  have V_ua : Arv Z h2 ua k2 .char (26 : Int32) [(.int (0 : Int32)), (.int (0 : Int32)), (.int (0 : Int32)), (.int (0 : Int32)), (.int (0 : Int32)), (.int (0 : Int32)), (.int (0 : Int32)), (.int (0 : Int32)), (.int (0 : Int32)), (.int (0 : Int32)), (.int (0 : Int32)), (.int (0 : Int32)), (.int (0 : Int32)), (.int (0 : Int32)), (.int (0 : Int32)), (.int (0 : Int32)), (.int (0 : Int32)), (.int (0 : Int32)), (.int (0 : Int32)), (.int (0 : Int32)), (.int (0 : Int32)), (.int (0 : Int32)), (.int (0 : Int32)), (.int (0 : Int32)), (.int (0 : Int32)), (.int (0 : Int32))] (.int (0 : Int32)) := (Arv.new A2 (by decide)).pad (pad_rep [] (.int (0 : Int32)) 26)
  refine GoesW.pre (U' := T2.setTop (mkF m 28 #[.val (.long p1), .second, .val (.long p2), .second, .val (.int p3), .val (.int p4), .val (.ref ma), .val (.ref ua), .unset, .unset, .unset, .unset, .unset, .unset] [(.int p4), (.int ((((p1.toUInt64 >>> ((55 : Int32) &&& 0x3f).toInt64.toUInt64).toInt64) &&& (7 : Int64)).toInt32)), (.int (0 : Int32)), (.ref ua), (.ref ma)])) (fun t k => st2 t (XS.astore X2.here hx rfl (hb hby at_10) rfl rfl (l' := #[.val (.long p1), .second, .val (.long p2), .second, .val (.int p3), .val (.int p4), .val (.ref ma), .val (.ref ua), .unset, .unset, .unset, .unset, .unset, .unset]) rfl (XS.aload X2.here hx rfl (hb hby at_12) rfl rfl (XS.aload X2.here hx rfl (hb hby at_14) rfl rfl (XS.iconst X2.here hx rfl (hb hby at_16) (XS.lloadN X2.here hx rfl (hb hby at_17) rfl (XS.bipush X2.here hx rfl (hb hby at_18) (XS.lushr X2.here hx rfl (hb hby at_20) rfl (X2.ldc2Long hx hown (mvT hZ (wq hw 1 rfl)) (g := (mkF m 21 #[.val (.long p1), .second, .val (.long p2), .second, .val (.int p3), .val (.int p4), .val (.ref ma), .val (.ref ua), .unset, .unset, .unset, .unset, .unset, .unset] [(.long ((p1.toUInt64 >>> ((55 : Int32) &&& 0x3f).toInt64.toUInt64).toInt64)), (.int (0 : Int32)), (.ref ua), (.ref ma)])) rfl (hb hby at_21) _ (XS.land X2.here hx rfl (hb hby at_24) rfl (XS.l2i X2.here hx rfl (hb hby at_25) rfl (XS.iload X2.here hx rfl (hb hby at_26) rfl k)))))))))))) ?_
  obtain ⟨dg0, hdg0⟩ : ∃ z : Int32, z = ((((p1.toUInt64 >>> ((55 : Int32) &&& 0x3f).toInt64.toUInt64).toInt64) &&& (7 : Int64)).toInt32) := ⟨_, rfl⟩
  rw [← hdg0]
  have bd0 : ¬ (dg0 < (0 : Int32)) ∧ dg0 < (32 : Int32) := by rw [hdg0]; exact own_b7 _
  obtain ⟨_, _, ⟨T3, L3, k3, n3⟩, -, X3, hS3, hge3, ⟨Lc3, hQ3, l3, y3, z3, CQ3⟩, st3⟩ := Jvm.RoadKit.callSS X2 hx (y := (⟨"com/example/known_paths/knownpaths/ulid/UlidParsePinLaw", "put", "([C[CIII)V"⟩ : MethodName)) hown (mvT hZ (wq hw 2 rfl)) (mvT hZ (wq hw 3 rfl)) (mvT hZ (wq hw 4 rfl)) (mvT hZ (wq hw 5 rfl)) (by decide) (own_backSH (s := s) (W := 0) (rm_putC l Z a0 hw hEL [] ma ua k1 k2 ([(.int (0 : Int32)), (.int (0 : Int32)), (.int (0 : Int32)), (.int (0 : Int32)), (.int (0 : Int32)), (.int (0 : Int32)), (.int (0 : Int32)), (.int (0 : Int32)), (.int (0 : Int32)), (.int (0 : Int32)), (.int (0 : Int32)), (.int (0 : Int32)), (.int (0 : Int32)), (.int (0 : Int32)), (.int (0 : Int32)), (.int (0 : Int32)), (.int (0 : Int32)), (.int (0 : Int32)), (.int (0 : Int32)), (.int (0 : Int32)), (.int (0 : Int32)), (.int (0 : Int32)), (.int (0 : Int32)), (.int (0 : Int32)), (.int (0 : Int32)), (.int (0 : Int32))]) ([(.int (0 : Int32)), (.int (0 : Int32)), (.int (0 : Int32)), (.int (0 : Int32)), (.int (0 : Int32)), (.int (0 : Int32)), (.int (0 : Int32)), (.int (0 : Int32)), (.int (0 : Int32)), (.int (0 : Int32)), (.int (0 : Int32)), (.int (0 : Int32)), (.int (0 : Int32)), (.int (0 : Int32)), (.int (0 : Int32)), (.int (0 : Int32)), (.int (0 : Int32)), (.int (0 : Int32)), (.int (0 : Int32)), (.int (0 : Int32)), (.int (0 : Int32)), (.int (0 : Int32)), (.int (0 : Int32)), (.int (0 : Int32)), (.int (0 : Int32)), (.int (0 : Int32))]) 0 (0 : Int32) dg0 p4 cs sf h2 n0 Z2 V_ma V_ua S_COMPACT_STRINGS S_SIOOBE_FORMATTER (by decide) ⟨by decide, by decide⟩ (by decide) rfl rfl bd0.1 bd0.2 hcs hsf ne_ma_ua ne_ua_ma g_ma g_ua O) hZ (wq hw 5 rfl) (wq hw 4 rfl) (by decide) (by decide) hEL H (allS (P := fun x => Safe Z own_EL s.vm h2 x ∧ x < h2.size) ⟨SF_ma, E_ma.lt⟩ (allS (P := fun x => Safe Z own_EL s.vm h2 x ∧ x < h2.size) ⟨SF_ua, E_ua.lt⟩ all0))) (g := (mkF m 28 #[.val (.long p1), .second, .val (.long p2), .second, .val (.int p3), .val (.int p4), .val (.ref ma), .val (.ref ua), .unset, .unset, .unset, .unset, .unset, .unset] [(.int p4), (.int dg0), (.int (0 : Int32)), (.ref ua), (.ref ma)])) rfl (by rw [hml]; rfl) (argsL := [(.ref ma), (.ref ua), (.int (0 : Int32)), (.int dg0), (.int p4)]) (rest := []) (lenOf pd__28_5bC_5bCIII_29V rfl) rfl (by show 2 * 0 + _ ≤ _; exact Nat.le_of_eq rfl) (hb hby at_28) (fun _ _ => ⟨rfl, e2, (by decide : 2 + 2 ≤ _), (by decide : 52 + 132 ≤ _)⟩)
  dsimp only [Pt.U, Pt.locs, Pt.cells, Pt.slots] at X3 l3 y3 z3 st3 hQ3 hS3 hge3 CQ3
  rw [l3, y3, z3] at X3
  obtain ⟨la3, lb3, kl3, rfl, N3q, KQ3, fo0_3, fo1_3, fo2_3, hx3⟩ := hQ3
  have N3 := Fr.app N0 N3q
  have SF_ma := CQ3.safe E_ma.lt SF_ma
  have SF_ua := CQ3.safe E_ua.lt SF_ua
  have hS := foldS (T := T2) hS (by rw [e2]; exact hk) hS3 hge3
  have hZ : Z.Warmed39 (s.setVm T3.vm).vm := State.Warmed39.trans (t := s.setVm s.vm) hZ hS3.1
  have hown := own_found hS3 hown
  have H := CQ3.1
  have CR := CR.trans CQ3
  have hk := Nat.le_refl T3.heap.size
  have E_ma := E_ma.keep KQ3
  have E_ua := E_ua.keep KQ3
  have Z4 : n0 ≤ T3.heap.size := Nat.le_trans Z2 KQ3.1
  have O := O.keep KQ3 (allS (P := fun x => n0 ≤ x) g_ma (allS (P := fun x => n0 ≤ x) g_ua all0))
  have V_ua := fo0_3
  have V_ma := fo1_3
  have S_la3 := fo2_3
  refine GoesW.pre (U' := T3.setTop (mkF m 31 #[.val (.long p1), .second, .val (.long p2), .second, .val (.int p3), .val (.int p4), .val (.ref ma), .val (.ref ua), .unset, .unset, .unset, .unset, .unset, .unset] [])) (fun t k => st3.trans k) ?_
  obtain ⟨Li_la3, ne_ma_la3, ne_ma_lb3, ne_ua_la3, ne_ua_lb3⟩ := hx3
  have ne_la3_ma := ne_ma_la3.symm
  have ne_la3_ua := ne_ua_la3.symm
  have ne_lb3_ma := ne_ma_lb3.symm
  have ne_lb3_ua := ne_ua_lb3.symm
  obtain ⟨u0, hu0⟩ : ∃ z, z = own_dc dg0 := ⟨_, rfl⟩
  rw [← hu0] at V_ua V_ma
  obtain ⟨m0, hm0⟩ : ∃ z, z = own_mc u0 p4 (0 : Int32) := ⟨_, rfl⟩
  rw [← hm0] at V_ma
  have V_ma : Arv Z T3.heap ma k1 .char (26 : Int32) [(.int m0), (.int (0 : Int32)), (.int (0 : Int32)), (.int (0 : Int32)), (.int (0 : Int32)), (.int (0 : Int32)), (.int (0 : Int32)), (.int (0 : Int32)), (.int (0 : Int32)), (.int (0 : Int32)), (.int (0 : Int32)), (.int (0 : Int32)), (.int (0 : Int32)), (.int (0 : Int32)), (.int (0 : Int32)), (.int (0 : Int32)), (.int (0 : Int32)), (.int (0 : Int32)), (.int (0 : Int32)), (.int (0 : Int32)), (.int (0 : Int32)), (.int (0 : Int32)), (.int (0 : Int32)), (.int (0 : Int32)), (.int (0 : Int32)), (.int (0 : Int32))] (.int (0 : Int32)) := V_ma
  have V_ua : Arv Z T3.heap ua k2 .char (26 : Int32) [(.int u0), (.int (0 : Int32)), (.int (0 : Int32)), (.int (0 : Int32)), (.int (0 : Int32)), (.int (0 : Int32)), (.int (0 : Int32)), (.int (0 : Int32)), (.int (0 : Int32)), (.int (0 : Int32)), (.int (0 : Int32)), (.int (0 : Int32)), (.int (0 : Int32)), (.int (0 : Int32)), (.int (0 : Int32)), (.int (0 : Int32)), (.int (0 : Int32)), (.int (0 : Int32)), (.int (0 : Int32)), (.int (0 : Int32)), (.int (0 : Int32)), (.int (0 : Int32)), (.int (0 : Int32)), (.int (0 : Int32)), (.int (0 : Int32)), (.int (0 : Int32))] (.int (0 : Int32)) := V_ua
  refine GoesW.pre (U' := T3.setTop (mkF m 39 #[.val (.long p1), .second, .val (.long p2), .second, .val (.int p3), .val (.int p4), .val (.ref ma), .val (.ref ua), .unset, .unset, .unset, .unset, .unset, .unset] [(.int (10 : Int32)), (.long p1), (.int (1 : Int32)), (.ref ua), (.ref ma)])) (fun t k => XS.aload X3.here hx rfl (hb hby at_31) rfl rfl (XS.aload X3.here hx rfl (hb hby at_33) rfl rfl (XS.iconst X3.here hx rfl (hb hby at_35) (XS.lloadN X3.here hx rfl (hb hby at_36) rfl (XS.bipush X3.here hx rfl (hb hby at_37) k))))) ?_
  obtain ⟨_, _, ⟨T5, L5, k5, n5⟩, -, X5, ⟨Lc5, hQ5, l5, y5, z5⟩, st5⟩ := Jvm.LawKit.callS X3 hx (y := (⟨"com/example/known_paths/knownpaths/ulid/UlidParsePinLaw", "dig", "(JI)I"⟩ : MethodName)) hown (mvT hZ (wq hw 39 rfl)) (mvT hZ (wq hw 40 rfl)) (mvT hZ (wq hw 4 rfl)) (mvT hZ (wq hw 41 rfl)) (by decide) (backOf (W := 3) (rm_dig l Z a0 hw [] p1 (10 : Int32) T3.heap n0 Z4) hZ (wq hw 41 rfl) (wq hw 4 rfl) (by decide) (by decide)) (g := (mkF m 39 #[.val (.long p1), .second, .val (.long p2), .second, .val (.int p3), .val (.int p4), .val (.ref ma), .val (.ref ua), .unset, .unset, .unset, .unset, .unset, .unset] [(.int (10 : Int32)), (.long p1), (.int (1 : Int32)), (.ref ua), (.ref ma)])) rfl (by rw [hml]; rfl) (argsL := [(.long p1), (.int (10 : Int32))]) (rest := [(.int (1 : Int32)), (.ref ua), (.ref ma)]) (lenOf pd__28JI_29I rfl) rfl (by show 2 * 0 + _ ≤ _; exact Nat.le_of_eq rfl) (hb hby at_39) (fun _ _ => ⟨rfl, rfl, (by decide : 4 + 0 ≤ _), (by decide : 184 + 0 ≤ _)⟩)
  dsimp only [Pt.U, Pt.locs, Pt.cells, Pt.slots] at X5 l5 y5 z5 st5 hQ5
  rw [l5, y5, z5] at X5
  obtain ⟨rfl, N5q, HQ5⟩ := hQ5
  have N5 := Fr.app N3 N5q
  refine GoesW.pre (U' := T5.setTop (mkF m 44 #[.val (.long p1), .second, .val (.long p2), .second, .val (.int p3), .val (.int p4), .val (.ref ma), .val (.ref ua), .unset, .unset, .unset, .unset, .unset, .unset] [(.int p4), (.int (own_dig p1 (10 : Int32))), (.int (1 : Int32)), (.ref ua), (.ref ma)])) (fun t k => st5 t (XS.iload X5.here hx rfl (hb hby at_42) rfl k)) ?_
  obtain ⟨dg1, hdg1⟩ : ∃ z : Int32, z = (own_dig p1 (10 : Int32)) := ⟨_, rfl⟩
  rw [← hdg1]
  have bd1 : ¬ (dg1 < (0 : Int32)) ∧ dg1 < (32 : Int32) := by rw [hdg1]; exact own_digb _ _
  obtain ⟨_, _, ⟨T6, L6, k6, n6⟩, -, X6, ⟨Lc6, hQ6, l6, y6, z6⟩, st6⟩ := Jvm.LawKit.callS X5 hx (y := (⟨"com/example/known_paths/knownpaths/ulid/UlidParsePinLaw", "put", "([C[CIII)V"⟩ : MethodName)) hown (mvT hZ (wq hw 2 rfl)) (mvT hZ (wq hw 3 rfl)) (mvT hZ (wq hw 4 rfl)) (mvT hZ (wq hw 5 rfl)) (by decide) (own_backL (W := 0) (rm_putW l Z a0 hw [] ma ua k1 k2 ([(.int m0), (.int (0 : Int32)), (.int (0 : Int32)), (.int (0 : Int32)), (.int (0 : Int32)), (.int (0 : Int32)), (.int (0 : Int32)), (.int (0 : Int32)), (.int (0 : Int32)), (.int (0 : Int32)), (.int (0 : Int32)), (.int (0 : Int32)), (.int (0 : Int32)), (.int (0 : Int32)), (.int (0 : Int32)), (.int (0 : Int32)), (.int (0 : Int32)), (.int (0 : Int32)), (.int (0 : Int32)), (.int (0 : Int32)), (.int (0 : Int32)), (.int (0 : Int32)), (.int (0 : Int32)), (.int (0 : Int32)), (.int (0 : Int32)), (.int (0 : Int32))]) ([(.int u0), (.int (0 : Int32)), (.int (0 : Int32)), (.int (0 : Int32)), (.int (0 : Int32)), (.int (0 : Int32)), (.int (0 : Int32)), (.int (0 : Int32)), (.int (0 : Int32)), (.int (0 : Int32)), (.int (0 : Int32)), (.int (0 : Int32)), (.int (0 : Int32)), (.int (0 : Int32)), (.int (0 : Int32)), (.int (0 : Int32)), (.int (0 : Int32)), (.int (0 : Int32)), (.int (0 : Int32)), (.int (0 : Int32)), (.int (0 : Int32)), (.int (0 : Int32)), (.int (0 : Int32)), (.int (0 : Int32)), (.int (0 : Int32)), (.int (0 : Int32))]) 1 (1 : Int32) dg1 p4 cs sf la3 lb3 kl3 T3.heap n0 Z4 V_ma V_ua S_COMPACT_STRINGS S_SIOOBE_FORMATTER S_la3 (by decide) ⟨by decide, by decide⟩ (by decide) rfl rfl bd1.1 bd1.2 hcs hsf ne_ma_ua ne_ua_ma ne_la3_ma ne_lb3_ma ne_la3_ua ne_lb3_ua g_ma g_ua O) hZ (wq hw 5 rfl) (wq hw 4 rfl) (by decide) (by decide) Li_la3) (g := (mkF m 44 #[.val (.long p1), .second, .val (.long p2), .second, .val (.int p3), .val (.int p4), .val (.ref ma), .val (.ref ua), .unset, .unset, .unset, .unset, .unset, .unset] [(.int p4), (.int dg1), (.int (1 : Int32)), (.ref ua), (.ref ma)])) rfl (by rw [hml]; rfl) (argsL := [(.ref ma), (.ref ua), (.int (1 : Int32)), (.int dg1), (.int p4)]) (rest := []) (lenOf pd__28_5bC_5bCIII_29V rfl) rfl (by show 2 * 0 + _ ≤ _; exact Nat.le_of_eq rfl) (hb hby at_44) (fun _ _ => ⟨rfl, HQ5, (by decide : 4 + 0 ≤ _), (by decide : 184 + 0 ≤ _)⟩)
  dsimp only [Pt.U, Pt.locs, Pt.cells, Pt.slots] at X6 l6 y6 z6 st6 hQ6
  rw [l6, y6, z6] at X6
  obtain ⟨rfl, N6q, KQ6, fo0_6, fo1_6⟩ := hQ6
  have N6 := Fr.app N5 N6q
  have E_ma := E_ma.keep KQ6
  have E_ua := E_ua.keep KQ6
  have S_la3 := S_la3.keep KQ6 (ninS ne_la3_ma (ninS ne_la3_ua nin0)) (ninS ne_lb3_ma (ninS ne_lb3_ua nin0))
  have Z7 : n0 ≤ T6.heap.size := Nat.le_trans Z4 KQ6.1
  have O := O.keep KQ6 (allS (P := fun x => n0 ≤ x) g_ma (allS (P := fun x => n0 ≤ x) g_ua all0))
  have hsafe := (allS (P := fun x => Safe Z own_EL T3.vm _ x) SF_ma (allS (P := fun x => Safe Z own_EL T3.vm _ x) SF_ua all0))
  have SF_ma := Safe.keep KQ6 hsafe H SF_ma
  have SF_ua := Safe.keep KQ6 hsafe H SF_ua
  have CR := CR.trans (CHr.keep KQ6 hsafe H)
  have H := H.keep KQ6 hsafe
  have hk := Nat.le_trans hk KQ6.1
  have V_ua := fo0_6
  have V_ma := fo1_6
  refine GoesW.pre (U' := T6.setTop (mkF m 47 #[.val (.long p1), .second, .val (.long p2), .second, .val (.int p3), .val (.int p4), .val (.ref ma), .val (.ref ua), .unset, .unset, .unset, .unset, .unset, .unset] [])) (fun t k => st6 t k) ?_
  obtain ⟨u1, hu1⟩ : ∃ z, z = own_dc dg1 := ⟨_, rfl⟩
  rw [← hu1] at V_ua V_ma
  obtain ⟨m1, hm1⟩ : ∃ z, z = own_mc u1 p4 (1 : Int32) := ⟨_, rfl⟩
  rw [← hm1] at V_ma
  have V_ma : Arv Z T6.heap ma k1 .char (26 : Int32) [(.int m0), (.int m1), (.int (0 : Int32)), (.int (0 : Int32)), (.int (0 : Int32)), (.int (0 : Int32)), (.int (0 : Int32)), (.int (0 : Int32)), (.int (0 : Int32)), (.int (0 : Int32)), (.int (0 : Int32)), (.int (0 : Int32)), (.int (0 : Int32)), (.int (0 : Int32)), (.int (0 : Int32)), (.int (0 : Int32)), (.int (0 : Int32)), (.int (0 : Int32)), (.int (0 : Int32)), (.int (0 : Int32)), (.int (0 : Int32)), (.int (0 : Int32)), (.int (0 : Int32)), (.int (0 : Int32)), (.int (0 : Int32)), (.int (0 : Int32))] (.int (0 : Int32)) := V_ma
  have V_ua : Arv Z T6.heap ua k2 .char (26 : Int32) [(.int u0), (.int u1), (.int (0 : Int32)), (.int (0 : Int32)), (.int (0 : Int32)), (.int (0 : Int32)), (.int (0 : Int32)), (.int (0 : Int32)), (.int (0 : Int32)), (.int (0 : Int32)), (.int (0 : Int32)), (.int (0 : Int32)), (.int (0 : Int32)), (.int (0 : Int32)), (.int (0 : Int32)), (.int (0 : Int32)), (.int (0 : Int32)), (.int (0 : Int32)), (.int (0 : Int32)), (.int (0 : Int32)), (.int (0 : Int32)), (.int (0 : Int32)), (.int (0 : Int32)), (.int (0 : Int32)), (.int (0 : Int32)), (.int (0 : Int32))] (.int (0 : Int32)) := V_ua
  refine GoesW.pre (U' := T6.setTop (mkF m 55 #[.val (.long p1), .second, .val (.long p2), .second, .val (.int p3), .val (.int p4), .val (.ref ma), .val (.ref ua), .unset, .unset, .unset, .unset, .unset, .unset] [(.int (9 : Int32)), (.long p1), (.int (2 : Int32)), (.ref ua), (.ref ma)])) (fun t k => XS.aload X6.here hx rfl (hb hby at_47) rfl rfl (XS.aload X6.here hx rfl (hb hby at_49) rfl rfl (XS.iconst X6.here hx rfl (hb hby at_51) (XS.lloadN X6.here hx rfl (hb hby at_52) rfl (XS.bipush X6.here hx rfl (hb hby at_53) k))))) ?_
  obtain ⟨_, _, ⟨T8, L8, k8, n8⟩, -, X8, ⟨Lc8, hQ8, l8, y8, z8⟩, st8⟩ := Jvm.LawKit.callS X6 hx (y := (⟨"com/example/known_paths/knownpaths/ulid/UlidParsePinLaw", "dig", "(JI)I"⟩ : MethodName)) hown (mvT hZ (wq hw 39 rfl)) (mvT hZ (wq hw 40 rfl)) (mvT hZ (wq hw 4 rfl)) (mvT hZ (wq hw 41 rfl)) (by decide) (backOf (W := 3) (rm_dig l Z a0 hw [] p1 (9 : Int32) T6.heap n0 Z7) hZ (wq hw 41 rfl) (wq hw 4 rfl) (by decide) (by decide)) (g := (mkF m 55 #[.val (.long p1), .second, .val (.long p2), .second, .val (.int p3), .val (.int p4), .val (.ref ma), .val (.ref ua), .unset, .unset, .unset, .unset, .unset, .unset] [(.int (9 : Int32)), (.long p1), (.int (2 : Int32)), (.ref ua), (.ref ma)])) rfl (by rw [hml]; rfl) (argsL := [(.long p1), (.int (9 : Int32))]) (rest := [(.int (2 : Int32)), (.ref ua), (.ref ma)]) (lenOf pd__28JI_29I rfl) rfl (by show 2 * 0 + _ ≤ _; exact Nat.le_of_eq rfl) (hb hby at_55) (fun _ _ => ⟨rfl, rfl, (by decide : 4 + 0 ≤ _), (by decide : 184 + 0 ≤ _)⟩)
  dsimp only [Pt.U, Pt.locs, Pt.cells, Pt.slots] at X8 l8 y8 z8 st8 hQ8
  rw [l8, y8, z8] at X8
  obtain ⟨rfl, N8q, HQ8⟩ := hQ8
  have N8 := Fr.app N6 N8q
  refine GoesW.pre (U' := T8.setTop (mkF m 60 #[.val (.long p1), .second, .val (.long p2), .second, .val (.int p3), .val (.int p4), .val (.ref ma), .val (.ref ua), .unset, .unset, .unset, .unset, .unset, .unset] [(.int p4), (.int (own_dig p1 (9 : Int32))), (.int (2 : Int32)), (.ref ua), (.ref ma)])) (fun t k => st8 t (XS.iload X8.here hx rfl (hb hby at_58) rfl k)) ?_
  obtain ⟨dg2, hdg2⟩ : ∃ z : Int32, z = (own_dig p1 (9 : Int32)) := ⟨_, rfl⟩
  rw [← hdg2]
  have bd2 : ¬ (dg2 < (0 : Int32)) ∧ dg2 < (32 : Int32) := by rw [hdg2]; exact own_digb _ _
  obtain ⟨_, _, ⟨T9, L9, k9, n9⟩, -, X9, ⟨Lc9, hQ9, l9, y9, z9⟩, st9⟩ := Jvm.LawKit.callS X8 hx (y := (⟨"com/example/known_paths/knownpaths/ulid/UlidParsePinLaw", "put", "([C[CIII)V"⟩ : MethodName)) hown (mvT hZ (wq hw 2 rfl)) (mvT hZ (wq hw 3 rfl)) (mvT hZ (wq hw 4 rfl)) (mvT hZ (wq hw 5 rfl)) (by decide) (own_backL (W := 0) (rm_putW l Z a0 hw [] ma ua k1 k2 ([(.int m0), (.int m1), (.int (0 : Int32)), (.int (0 : Int32)), (.int (0 : Int32)), (.int (0 : Int32)), (.int (0 : Int32)), (.int (0 : Int32)), (.int (0 : Int32)), (.int (0 : Int32)), (.int (0 : Int32)), (.int (0 : Int32)), (.int (0 : Int32)), (.int (0 : Int32)), (.int (0 : Int32)), (.int (0 : Int32)), (.int (0 : Int32)), (.int (0 : Int32)), (.int (0 : Int32)), (.int (0 : Int32)), (.int (0 : Int32)), (.int (0 : Int32)), (.int (0 : Int32)), (.int (0 : Int32)), (.int (0 : Int32)), (.int (0 : Int32))]) ([(.int u0), (.int u1), (.int (0 : Int32)), (.int (0 : Int32)), (.int (0 : Int32)), (.int (0 : Int32)), (.int (0 : Int32)), (.int (0 : Int32)), (.int (0 : Int32)), (.int (0 : Int32)), (.int (0 : Int32)), (.int (0 : Int32)), (.int (0 : Int32)), (.int (0 : Int32)), (.int (0 : Int32)), (.int (0 : Int32)), (.int (0 : Int32)), (.int (0 : Int32)), (.int (0 : Int32)), (.int (0 : Int32)), (.int (0 : Int32)), (.int (0 : Int32)), (.int (0 : Int32)), (.int (0 : Int32)), (.int (0 : Int32)), (.int (0 : Int32))]) 2 (2 : Int32) dg2 p4 cs sf la3 lb3 kl3 T6.heap n0 Z7 V_ma V_ua S_COMPACT_STRINGS S_SIOOBE_FORMATTER S_la3 (by decide) ⟨by decide, by decide⟩ (by decide) rfl rfl bd2.1 bd2.2 hcs hsf ne_ma_ua ne_ua_ma ne_la3_ma ne_lb3_ma ne_la3_ua ne_lb3_ua g_ma g_ua O) hZ (wq hw 5 rfl) (wq hw 4 rfl) (by decide) (by decide) Li_la3) (g := (mkF m 60 #[.val (.long p1), .second, .val (.long p2), .second, .val (.int p3), .val (.int p4), .val (.ref ma), .val (.ref ua), .unset, .unset, .unset, .unset, .unset, .unset] [(.int p4), (.int dg2), (.int (2 : Int32)), (.ref ua), (.ref ma)])) rfl (by rw [hml]; rfl) (argsL := [(.ref ma), (.ref ua), (.int (2 : Int32)), (.int dg2), (.int p4)]) (rest := []) (lenOf pd__28_5bC_5bCIII_29V rfl) rfl (by show 2 * 0 + _ ≤ _; exact Nat.le_of_eq rfl) (hb hby at_60) (fun _ _ => ⟨rfl, HQ8, (by decide : 4 + 0 ≤ _), (by decide : 184 + 0 ≤ _)⟩)
  dsimp only [Pt.U, Pt.locs, Pt.cells, Pt.slots] at X9 l9 y9 z9 st9 hQ9
  rw [l9, y9, z9] at X9
  obtain ⟨rfl, N9q, KQ9, fo0_9, fo1_9⟩ := hQ9
  have N9 := Fr.app N8 N9q
  have E_ma := E_ma.keep KQ9
  have E_ua := E_ua.keep KQ9
  have S_la3 := S_la3.keep KQ9 (ninS ne_la3_ma (ninS ne_la3_ua nin0)) (ninS ne_lb3_ma (ninS ne_lb3_ua nin0))
  have Z10 : n0 ≤ T9.heap.size := Nat.le_trans Z7 KQ9.1
  have O := O.keep KQ9 (allS (P := fun x => n0 ≤ x) g_ma (allS (P := fun x => n0 ≤ x) g_ua all0))
  have hsafe := (allS (P := fun x => Safe Z own_EL T3.vm _ x) SF_ma (allS (P := fun x => Safe Z own_EL T3.vm _ x) SF_ua all0))
  have SF_ma := Safe.keep KQ9 hsafe H SF_ma
  have SF_ua := Safe.keep KQ9 hsafe H SF_ua
  have CR := CR.trans (CHr.keep KQ9 hsafe H)
  have H := H.keep KQ9 hsafe
  have hk := Nat.le_trans hk KQ9.1
  have V_ua := fo0_9
  have V_ma := fo1_9
  refine GoesW.pre (U' := T9.setTop (mkF m 63 #[.val (.long p1), .second, .val (.long p2), .second, .val (.int p3), .val (.int p4), .val (.ref ma), .val (.ref ua), .unset, .unset, .unset, .unset, .unset, .unset] [])) (fun t k => st9 t k) ?_
  obtain ⟨u2, hu2⟩ : ∃ z, z = own_dc dg2 := ⟨_, rfl⟩
  rw [← hu2] at V_ua V_ma
  obtain ⟨m2, hm2⟩ : ∃ z, z = own_mc u2 p4 (2 : Int32) := ⟨_, rfl⟩
  rw [← hm2] at V_ma
  have V_ma : Arv Z T9.heap ma k1 .char (26 : Int32) [(.int m0), (.int m1), (.int m2), (.int (0 : Int32)), (.int (0 : Int32)), (.int (0 : Int32)), (.int (0 : Int32)), (.int (0 : Int32)), (.int (0 : Int32)), (.int (0 : Int32)), (.int (0 : Int32)), (.int (0 : Int32)), (.int (0 : Int32)), (.int (0 : Int32)), (.int (0 : Int32)), (.int (0 : Int32)), (.int (0 : Int32)), (.int (0 : Int32)), (.int (0 : Int32)), (.int (0 : Int32)), (.int (0 : Int32)), (.int (0 : Int32)), (.int (0 : Int32)), (.int (0 : Int32)), (.int (0 : Int32)), (.int (0 : Int32))] (.int (0 : Int32)) := V_ma
  have V_ua : Arv Z T9.heap ua k2 .char (26 : Int32) [(.int u0), (.int u1), (.int u2), (.int (0 : Int32)), (.int (0 : Int32)), (.int (0 : Int32)), (.int (0 : Int32)), (.int (0 : Int32)), (.int (0 : Int32)), (.int (0 : Int32)), (.int (0 : Int32)), (.int (0 : Int32)), (.int (0 : Int32)), (.int (0 : Int32)), (.int (0 : Int32)), (.int (0 : Int32)), (.int (0 : Int32)), (.int (0 : Int32)), (.int (0 : Int32)), (.int (0 : Int32)), (.int (0 : Int32)), (.int (0 : Int32)), (.int (0 : Int32)), (.int (0 : Int32)), (.int (0 : Int32)), (.int (0 : Int32))] (.int (0 : Int32)) := V_ua
  refine GoesW.pre (U' := T9.setTop (mkF m 71 #[.val (.long p1), .second, .val (.long p2), .second, .val (.int p3), .val (.int p4), .val (.ref ma), .val (.ref ua), .unset, .unset, .unset, .unset, .unset, .unset] [(.int (8 : Int32)), (.long p1), (.int (3 : Int32)), (.ref ua), (.ref ma)])) (fun t k => XS.aload X9.here hx rfl (hb hby at_63) rfl rfl (XS.aload X9.here hx rfl (hb hby at_65) rfl rfl (XS.iconst X9.here hx rfl (hb hby at_67) (XS.lloadN X9.here hx rfl (hb hby at_68) rfl (XS.bipush X9.here hx rfl (hb hby at_69) k))))) ?_
  obtain ⟨_, _, ⟨T11, L11, k11, n11⟩, -, X11, ⟨Lc11, hQ11, l11, y11, z11⟩, st11⟩ := Jvm.LawKit.callS X9 hx (y := (⟨"com/example/known_paths/knownpaths/ulid/UlidParsePinLaw", "dig", "(JI)I"⟩ : MethodName)) hown (mvT hZ (wq hw 39 rfl)) (mvT hZ (wq hw 40 rfl)) (mvT hZ (wq hw 4 rfl)) (mvT hZ (wq hw 41 rfl)) (by decide) (backOf (W := 3) (rm_dig l Z a0 hw [] p1 (8 : Int32) T9.heap n0 Z10) hZ (wq hw 41 rfl) (wq hw 4 rfl) (by decide) (by decide)) (g := (mkF m 71 #[.val (.long p1), .second, .val (.long p2), .second, .val (.int p3), .val (.int p4), .val (.ref ma), .val (.ref ua), .unset, .unset, .unset, .unset, .unset, .unset] [(.int (8 : Int32)), (.long p1), (.int (3 : Int32)), (.ref ua), (.ref ma)])) rfl (by rw [hml]; rfl) (argsL := [(.long p1), (.int (8 : Int32))]) (rest := [(.int (3 : Int32)), (.ref ua), (.ref ma)]) (lenOf pd__28JI_29I rfl) rfl (by show 2 * 0 + _ ≤ _; exact Nat.le_of_eq rfl) (hb hby at_71) (fun _ _ => ⟨rfl, rfl, (by decide : 4 + 0 ≤ _), (by decide : 184 + 0 ≤ _)⟩)
  dsimp only [Pt.U, Pt.locs, Pt.cells, Pt.slots] at X11 l11 y11 z11 st11 hQ11
  rw [l11, y11, z11] at X11
  obtain ⟨rfl, N11q, HQ11⟩ := hQ11
  have N11 := Fr.app N9 N11q
  refine GoesW.pre (U' := T11.setTop (mkF m 76 #[.val (.long p1), .second, .val (.long p2), .second, .val (.int p3), .val (.int p4), .val (.ref ma), .val (.ref ua), .unset, .unset, .unset, .unset, .unset, .unset] [(.int p4), (.int (own_dig p1 (8 : Int32))), (.int (3 : Int32)), (.ref ua), (.ref ma)])) (fun t k => st11 t (XS.iload X11.here hx rfl (hb hby at_74) rfl k)) ?_
  obtain ⟨dg3, hdg3⟩ : ∃ z : Int32, z = (own_dig p1 (8 : Int32)) := ⟨_, rfl⟩
  rw [← hdg3]
  have bd3 : ¬ (dg3 < (0 : Int32)) ∧ dg3 < (32 : Int32) := by rw [hdg3]; exact own_digb _ _
  obtain ⟨_, _, ⟨T12, L12, k12, n12⟩, -, X12, ⟨Lc12, hQ12, l12, y12, z12⟩, st12⟩ := Jvm.LawKit.callS X11 hx (y := (⟨"com/example/known_paths/knownpaths/ulid/UlidParsePinLaw", "put", "([C[CIII)V"⟩ : MethodName)) hown (mvT hZ (wq hw 2 rfl)) (mvT hZ (wq hw 3 rfl)) (mvT hZ (wq hw 4 rfl)) (mvT hZ (wq hw 5 rfl)) (by decide) (own_backL (W := 0) (rm_putW l Z a0 hw [] ma ua k1 k2 ([(.int m0), (.int m1), (.int m2), (.int (0 : Int32)), (.int (0 : Int32)), (.int (0 : Int32)), (.int (0 : Int32)), (.int (0 : Int32)), (.int (0 : Int32)), (.int (0 : Int32)), (.int (0 : Int32)), (.int (0 : Int32)), (.int (0 : Int32)), (.int (0 : Int32)), (.int (0 : Int32)), (.int (0 : Int32)), (.int (0 : Int32)), (.int (0 : Int32)), (.int (0 : Int32)), (.int (0 : Int32)), (.int (0 : Int32)), (.int (0 : Int32)), (.int (0 : Int32)), (.int (0 : Int32)), (.int (0 : Int32)), (.int (0 : Int32))]) ([(.int u0), (.int u1), (.int u2), (.int (0 : Int32)), (.int (0 : Int32)), (.int (0 : Int32)), (.int (0 : Int32)), (.int (0 : Int32)), (.int (0 : Int32)), (.int (0 : Int32)), (.int (0 : Int32)), (.int (0 : Int32)), (.int (0 : Int32)), (.int (0 : Int32)), (.int (0 : Int32)), (.int (0 : Int32)), (.int (0 : Int32)), (.int (0 : Int32)), (.int (0 : Int32)), (.int (0 : Int32)), (.int (0 : Int32)), (.int (0 : Int32)), (.int (0 : Int32)), (.int (0 : Int32)), (.int (0 : Int32)), (.int (0 : Int32))]) 3 (3 : Int32) dg3 p4 cs sf la3 lb3 kl3 T9.heap n0 Z10 V_ma V_ua S_COMPACT_STRINGS S_SIOOBE_FORMATTER S_la3 (by decide) ⟨by decide, by decide⟩ (by decide) rfl rfl bd3.1 bd3.2 hcs hsf ne_ma_ua ne_ua_ma ne_la3_ma ne_lb3_ma ne_la3_ua ne_lb3_ua g_ma g_ua O) hZ (wq hw 5 rfl) (wq hw 4 rfl) (by decide) (by decide) Li_la3) (g := (mkF m 76 #[.val (.long p1), .second, .val (.long p2), .second, .val (.int p3), .val (.int p4), .val (.ref ma), .val (.ref ua), .unset, .unset, .unset, .unset, .unset, .unset] [(.int p4), (.int dg3), (.int (3 : Int32)), (.ref ua), (.ref ma)])) rfl (by rw [hml]; rfl) (argsL := [(.ref ma), (.ref ua), (.int (3 : Int32)), (.int dg3), (.int p4)]) (rest := []) (lenOf pd__28_5bC_5bCIII_29V rfl) rfl (by show 2 * 0 + _ ≤ _; exact Nat.le_of_eq rfl) (hb hby at_76) (fun _ _ => ⟨rfl, HQ11, (by decide : 4 + 0 ≤ _), (by decide : 184 + 0 ≤ _)⟩)
  dsimp only [Pt.U, Pt.locs, Pt.cells, Pt.slots] at X12 l12 y12 z12 st12 hQ12
  rw [l12, y12, z12] at X12
  obtain ⟨rfl, N12q, KQ12, fo0_12, fo1_12⟩ := hQ12
  have N12 := Fr.app N11 N12q
  have E_ma := E_ma.keep KQ12
  have E_ua := E_ua.keep KQ12
  have S_la3 := S_la3.keep KQ12 (ninS ne_la3_ma (ninS ne_la3_ua nin0)) (ninS ne_lb3_ma (ninS ne_lb3_ua nin0))
  have Z13 : n0 ≤ T12.heap.size := Nat.le_trans Z10 KQ12.1
  have O := O.keep KQ12 (allS (P := fun x => n0 ≤ x) g_ma (allS (P := fun x => n0 ≤ x) g_ua all0))
  have hsafe := (allS (P := fun x => Safe Z own_EL T3.vm _ x) SF_ma (allS (P := fun x => Safe Z own_EL T3.vm _ x) SF_ua all0))
  have SF_ma := Safe.keep KQ12 hsafe H SF_ma
  have SF_ua := Safe.keep KQ12 hsafe H SF_ua
  have CR := CR.trans (CHr.keep KQ12 hsafe H)
  have H := H.keep KQ12 hsafe
  have hk := Nat.le_trans hk KQ12.1
  have V_ua := fo0_12
  have V_ma := fo1_12
  refine GoesW.pre (U' := T12.setTop (mkF m 79 #[.val (.long p1), .second, .val (.long p2), .second, .val (.int p3), .val (.int p4), .val (.ref ma), .val (.ref ua), .unset, .unset, .unset, .unset, .unset, .unset] [])) (fun t k => st12 t k) ?_
  obtain ⟨u3, hu3⟩ : ∃ z, z = own_dc dg3 := ⟨_, rfl⟩
  rw [← hu3] at V_ua V_ma
  obtain ⟨m3, hm3⟩ : ∃ z, z = own_mc u3 p4 (3 : Int32) := ⟨_, rfl⟩
  rw [← hm3] at V_ma
  have V_ma : Arv Z T12.heap ma k1 .char (26 : Int32) [(.int m0), (.int m1), (.int m2), (.int m3), (.int (0 : Int32)), (.int (0 : Int32)), (.int (0 : Int32)), (.int (0 : Int32)), (.int (0 : Int32)), (.int (0 : Int32)), (.int (0 : Int32)), (.int (0 : Int32)), (.int (0 : Int32)), (.int (0 : Int32)), (.int (0 : Int32)), (.int (0 : Int32)), (.int (0 : Int32)), (.int (0 : Int32)), (.int (0 : Int32)), (.int (0 : Int32)), (.int (0 : Int32)), (.int (0 : Int32)), (.int (0 : Int32)), (.int (0 : Int32)), (.int (0 : Int32)), (.int (0 : Int32))] (.int (0 : Int32)) := V_ma
  have V_ua : Arv Z T12.heap ua k2 .char (26 : Int32) [(.int u0), (.int u1), (.int u2), (.int u3), (.int (0 : Int32)), (.int (0 : Int32)), (.int (0 : Int32)), (.int (0 : Int32)), (.int (0 : Int32)), (.int (0 : Int32)), (.int (0 : Int32)), (.int (0 : Int32)), (.int (0 : Int32)), (.int (0 : Int32)), (.int (0 : Int32)), (.int (0 : Int32)), (.int (0 : Int32)), (.int (0 : Int32)), (.int (0 : Int32)), (.int (0 : Int32)), (.int (0 : Int32)), (.int (0 : Int32)), (.int (0 : Int32)), (.int (0 : Int32)), (.int (0 : Int32)), (.int (0 : Int32))] (.int (0 : Int32)) := V_ua
  refine GoesW.pre (U' := T12.setTop (mkF m 87 #[.val (.long p1), .second, .val (.long p2), .second, .val (.int p3), .val (.int p4), .val (.ref ma), .val (.ref ua), .unset, .unset, .unset, .unset, .unset, .unset] [(.int (7 : Int32)), (.long p1), (.int (4 : Int32)), (.ref ua), (.ref ma)])) (fun t k => XS.aload X12.here hx rfl (hb hby at_79) rfl rfl (XS.aload X12.here hx rfl (hb hby at_81) rfl rfl (XS.iconst X12.here hx rfl (hb hby at_83) (XS.lloadN X12.here hx rfl (hb hby at_84) rfl (XS.bipush X12.here hx rfl (hb hby at_85) k))))) ?_
  obtain ⟨_, _, ⟨T14, L14, k14, n14⟩, -, X14, ⟨Lc14, hQ14, l14, y14, z14⟩, st14⟩ := Jvm.LawKit.callS X12 hx (y := (⟨"com/example/known_paths/knownpaths/ulid/UlidParsePinLaw", "dig", "(JI)I"⟩ : MethodName)) hown (mvT hZ (wq hw 39 rfl)) (mvT hZ (wq hw 40 rfl)) (mvT hZ (wq hw 4 rfl)) (mvT hZ (wq hw 41 rfl)) (by decide) (backOf (W := 3) (rm_dig l Z a0 hw [] p1 (7 : Int32) T12.heap n0 Z13) hZ (wq hw 41 rfl) (wq hw 4 rfl) (by decide) (by decide)) (g := (mkF m 87 #[.val (.long p1), .second, .val (.long p2), .second, .val (.int p3), .val (.int p4), .val (.ref ma), .val (.ref ua), .unset, .unset, .unset, .unset, .unset, .unset] [(.int (7 : Int32)), (.long p1), (.int (4 : Int32)), (.ref ua), (.ref ma)])) rfl (by rw [hml]; rfl) (argsL := [(.long p1), (.int (7 : Int32))]) (rest := [(.int (4 : Int32)), (.ref ua), (.ref ma)]) (lenOf pd__28JI_29I rfl) rfl (by show 2 * 0 + _ ≤ _; exact Nat.le_of_eq rfl) (hb hby at_87) (fun _ _ => ⟨rfl, rfl, (by decide : 4 + 0 ≤ _), (by decide : 184 + 0 ≤ _)⟩)
  dsimp only [Pt.U, Pt.locs, Pt.cells, Pt.slots] at X14 l14 y14 z14 st14 hQ14
  rw [l14, y14, z14] at X14
  obtain ⟨rfl, N14q, HQ14⟩ := hQ14
  have N14 := Fr.app N12 N14q
  refine GoesW.pre (U' := T14.setTop (mkF m 92 #[.val (.long p1), .second, .val (.long p2), .second, .val (.int p3), .val (.int p4), .val (.ref ma), .val (.ref ua), .unset, .unset, .unset, .unset, .unset, .unset] [(.int p4), (.int (own_dig p1 (7 : Int32))), (.int (4 : Int32)), (.ref ua), (.ref ma)])) (fun t k => st14 t (XS.iload X14.here hx rfl (hb hby at_90) rfl k)) ?_
  obtain ⟨dg4, hdg4⟩ : ∃ z : Int32, z = (own_dig p1 (7 : Int32)) := ⟨_, rfl⟩
  rw [← hdg4]
  have bd4 : ¬ (dg4 < (0 : Int32)) ∧ dg4 < (32 : Int32) := by rw [hdg4]; exact own_digb _ _
  obtain ⟨_, _, ⟨T15, L15, k15, n15⟩, -, X15, ⟨Lc15, hQ15, l15, y15, z15⟩, st15⟩ := Jvm.LawKit.callS X14 hx (y := (⟨"com/example/known_paths/knownpaths/ulid/UlidParsePinLaw", "put", "([C[CIII)V"⟩ : MethodName)) hown (mvT hZ (wq hw 2 rfl)) (mvT hZ (wq hw 3 rfl)) (mvT hZ (wq hw 4 rfl)) (mvT hZ (wq hw 5 rfl)) (by decide) (own_backL (W := 0) (rm_putW l Z a0 hw [] ma ua k1 k2 ([(.int m0), (.int m1), (.int m2), (.int m3), (.int (0 : Int32)), (.int (0 : Int32)), (.int (0 : Int32)), (.int (0 : Int32)), (.int (0 : Int32)), (.int (0 : Int32)), (.int (0 : Int32)), (.int (0 : Int32)), (.int (0 : Int32)), (.int (0 : Int32)), (.int (0 : Int32)), (.int (0 : Int32)), (.int (0 : Int32)), (.int (0 : Int32)), (.int (0 : Int32)), (.int (0 : Int32)), (.int (0 : Int32)), (.int (0 : Int32)), (.int (0 : Int32)), (.int (0 : Int32)), (.int (0 : Int32)), (.int (0 : Int32))]) ([(.int u0), (.int u1), (.int u2), (.int u3), (.int (0 : Int32)), (.int (0 : Int32)), (.int (0 : Int32)), (.int (0 : Int32)), (.int (0 : Int32)), (.int (0 : Int32)), (.int (0 : Int32)), (.int (0 : Int32)), (.int (0 : Int32)), (.int (0 : Int32)), (.int (0 : Int32)), (.int (0 : Int32)), (.int (0 : Int32)), (.int (0 : Int32)), (.int (0 : Int32)), (.int (0 : Int32)), (.int (0 : Int32)), (.int (0 : Int32)), (.int (0 : Int32)), (.int (0 : Int32)), (.int (0 : Int32)), (.int (0 : Int32))]) 4 (4 : Int32) dg4 p4 cs sf la3 lb3 kl3 T12.heap n0 Z13 V_ma V_ua S_COMPACT_STRINGS S_SIOOBE_FORMATTER S_la3 (by decide) ⟨by decide, by decide⟩ (by decide) rfl rfl bd4.1 bd4.2 hcs hsf ne_ma_ua ne_ua_ma ne_la3_ma ne_lb3_ma ne_la3_ua ne_lb3_ua g_ma g_ua O) hZ (wq hw 5 rfl) (wq hw 4 rfl) (by decide) (by decide) Li_la3) (g := (mkF m 92 #[.val (.long p1), .second, .val (.long p2), .second, .val (.int p3), .val (.int p4), .val (.ref ma), .val (.ref ua), .unset, .unset, .unset, .unset, .unset, .unset] [(.int p4), (.int dg4), (.int (4 : Int32)), (.ref ua), (.ref ma)])) rfl (by rw [hml]; rfl) (argsL := [(.ref ma), (.ref ua), (.int (4 : Int32)), (.int dg4), (.int p4)]) (rest := []) (lenOf pd__28_5bC_5bCIII_29V rfl) rfl (by show 2 * 0 + _ ≤ _; exact Nat.le_of_eq rfl) (hb hby at_92) (fun _ _ => ⟨rfl, HQ14, (by decide : 4 + 0 ≤ _), (by decide : 184 + 0 ≤ _)⟩)
  dsimp only [Pt.U, Pt.locs, Pt.cells, Pt.slots] at X15 l15 y15 z15 st15 hQ15
  rw [l15, y15, z15] at X15
  obtain ⟨rfl, N15q, KQ15, fo0_15, fo1_15⟩ := hQ15
  have N15 := Fr.app N14 N15q
  have E_ma := E_ma.keep KQ15
  have E_ua := E_ua.keep KQ15
  have S_la3 := S_la3.keep KQ15 (ninS ne_la3_ma (ninS ne_la3_ua nin0)) (ninS ne_lb3_ma (ninS ne_lb3_ua nin0))
  have Z16 : n0 ≤ T15.heap.size := Nat.le_trans Z13 KQ15.1
  have O := O.keep KQ15 (allS (P := fun x => n0 ≤ x) g_ma (allS (P := fun x => n0 ≤ x) g_ua all0))
  have hsafe := (allS (P := fun x => Safe Z own_EL T3.vm _ x) SF_ma (allS (P := fun x => Safe Z own_EL T3.vm _ x) SF_ua all0))
  have SF_ma := Safe.keep KQ15 hsafe H SF_ma
  have SF_ua := Safe.keep KQ15 hsafe H SF_ua
  have CR := CR.trans (CHr.keep KQ15 hsafe H)
  have H := H.keep KQ15 hsafe
  have hk := Nat.le_trans hk KQ15.1
  have V_ua := fo0_15
  have V_ma := fo1_15
  refine GoesW.pre (U' := T15.setTop (mkF m 95 #[.val (.long p1), .second, .val (.long p2), .second, .val (.int p3), .val (.int p4), .val (.ref ma), .val (.ref ua), .unset, .unset, .unset, .unset, .unset, .unset] [])) (fun t k => st15 t k) ?_
  obtain ⟨u4, hu4⟩ : ∃ z, z = own_dc dg4 := ⟨_, rfl⟩
  rw [← hu4] at V_ua V_ma
  obtain ⟨m4, hm4⟩ : ∃ z, z = own_mc u4 p4 (4 : Int32) := ⟨_, rfl⟩
  rw [← hm4] at V_ma
  have V_ma : Arv Z T15.heap ma k1 .char (26 : Int32) [(.int m0), (.int m1), (.int m2), (.int m3), (.int m4), (.int (0 : Int32)), (.int (0 : Int32)), (.int (0 : Int32)), (.int (0 : Int32)), (.int (0 : Int32)), (.int (0 : Int32)), (.int (0 : Int32)), (.int (0 : Int32)), (.int (0 : Int32)), (.int (0 : Int32)), (.int (0 : Int32)), (.int (0 : Int32)), (.int (0 : Int32)), (.int (0 : Int32)), (.int (0 : Int32)), (.int (0 : Int32)), (.int (0 : Int32)), (.int (0 : Int32)), (.int (0 : Int32)), (.int (0 : Int32)), (.int (0 : Int32))] (.int (0 : Int32)) := V_ma
  have V_ua : Arv Z T15.heap ua k2 .char (26 : Int32) [(.int u0), (.int u1), (.int u2), (.int u3), (.int u4), (.int (0 : Int32)), (.int (0 : Int32)), (.int (0 : Int32)), (.int (0 : Int32)), (.int (0 : Int32)), (.int (0 : Int32)), (.int (0 : Int32)), (.int (0 : Int32)), (.int (0 : Int32)), (.int (0 : Int32)), (.int (0 : Int32)), (.int (0 : Int32)), (.int (0 : Int32)), (.int (0 : Int32)), (.int (0 : Int32)), (.int (0 : Int32)), (.int (0 : Int32)), (.int (0 : Int32)), (.int (0 : Int32)), (.int (0 : Int32)), (.int (0 : Int32))] (.int (0 : Int32)) := V_ua
  refine GoesW.pre (U' := T15.setTop (mkF m 103 #[.val (.long p1), .second, .val (.long p2), .second, .val (.int p3), .val (.int p4), .val (.ref ma), .val (.ref ua), .unset, .unset, .unset, .unset, .unset, .unset] [(.int (6 : Int32)), (.long p1), (.int (5 : Int32)), (.ref ua), (.ref ma)])) (fun t k => XS.aload X15.here hx rfl (hb hby at_95) rfl rfl (XS.aload X15.here hx rfl (hb hby at_97) rfl rfl (XS.iconst X15.here hx rfl (hb hby at_99) (XS.lloadN X15.here hx rfl (hb hby at_100) rfl (XS.bipush X15.here hx rfl (hb hby at_101) k))))) ?_
  obtain ⟨_, _, ⟨T17, L17, k17, n17⟩, -, X17, ⟨Lc17, hQ17, l17, y17, z17⟩, st17⟩ := Jvm.LawKit.callS X15 hx (y := (⟨"com/example/known_paths/knownpaths/ulid/UlidParsePinLaw", "dig", "(JI)I"⟩ : MethodName)) hown (mvT hZ (wq hw 39 rfl)) (mvT hZ (wq hw 40 rfl)) (mvT hZ (wq hw 4 rfl)) (mvT hZ (wq hw 41 rfl)) (by decide) (backOf (W := 3) (rm_dig l Z a0 hw [] p1 (6 : Int32) T15.heap n0 Z16) hZ (wq hw 41 rfl) (wq hw 4 rfl) (by decide) (by decide)) (g := (mkF m 103 #[.val (.long p1), .second, .val (.long p2), .second, .val (.int p3), .val (.int p4), .val (.ref ma), .val (.ref ua), .unset, .unset, .unset, .unset, .unset, .unset] [(.int (6 : Int32)), (.long p1), (.int (5 : Int32)), (.ref ua), (.ref ma)])) rfl (by rw [hml]; rfl) (argsL := [(.long p1), (.int (6 : Int32))]) (rest := [(.int (5 : Int32)), (.ref ua), (.ref ma)]) (lenOf pd__28JI_29I rfl) rfl (by show 2 * 0 + _ ≤ _; exact Nat.le_of_eq rfl) (hb hby at_103) (fun _ _ => ⟨rfl, rfl, (by decide : 4 + 0 ≤ _), (by decide : 184 + 0 ≤ _)⟩)
  dsimp only [Pt.U, Pt.locs, Pt.cells, Pt.slots] at X17 l17 y17 z17 st17 hQ17
  rw [l17, y17, z17] at X17
  obtain ⟨rfl, N17q, HQ17⟩ := hQ17
  have N17 := Fr.app N15 N17q
  refine GoesW.pre (U' := T17.setTop (mkF m 108 #[.val (.long p1), .second, .val (.long p2), .second, .val (.int p3), .val (.int p4), .val (.ref ma), .val (.ref ua), .unset, .unset, .unset, .unset, .unset, .unset] [(.int p4), (.int (own_dig p1 (6 : Int32))), (.int (5 : Int32)), (.ref ua), (.ref ma)])) (fun t k => st17 t (XS.iload X17.here hx rfl (hb hby at_106) rfl k)) ?_
  obtain ⟨dg5, hdg5⟩ : ∃ z : Int32, z = (own_dig p1 (6 : Int32)) := ⟨_, rfl⟩
  rw [← hdg5]
  have bd5 : ¬ (dg5 < (0 : Int32)) ∧ dg5 < (32 : Int32) := by rw [hdg5]; exact own_digb _ _
  obtain ⟨_, _, ⟨T18, L18, k18, n18⟩, -, X18, ⟨Lc18, hQ18, l18, y18, z18⟩, st18⟩ := Jvm.LawKit.callS X17 hx (y := (⟨"com/example/known_paths/knownpaths/ulid/UlidParsePinLaw", "put", "([C[CIII)V"⟩ : MethodName)) hown (mvT hZ (wq hw 2 rfl)) (mvT hZ (wq hw 3 rfl)) (mvT hZ (wq hw 4 rfl)) (mvT hZ (wq hw 5 rfl)) (by decide) (own_backL (W := 0) (rm_putW l Z a0 hw [] ma ua k1 k2 ([(.int m0), (.int m1), (.int m2), (.int m3), (.int m4), (.int (0 : Int32)), (.int (0 : Int32)), (.int (0 : Int32)), (.int (0 : Int32)), (.int (0 : Int32)), (.int (0 : Int32)), (.int (0 : Int32)), (.int (0 : Int32)), (.int (0 : Int32)), (.int (0 : Int32)), (.int (0 : Int32)), (.int (0 : Int32)), (.int (0 : Int32)), (.int (0 : Int32)), (.int (0 : Int32)), (.int (0 : Int32)), (.int (0 : Int32)), (.int (0 : Int32)), (.int (0 : Int32)), (.int (0 : Int32)), (.int (0 : Int32))]) ([(.int u0), (.int u1), (.int u2), (.int u3), (.int u4), (.int (0 : Int32)), (.int (0 : Int32)), (.int (0 : Int32)), (.int (0 : Int32)), (.int (0 : Int32)), (.int (0 : Int32)), (.int (0 : Int32)), (.int (0 : Int32)), (.int (0 : Int32)), (.int (0 : Int32)), (.int (0 : Int32)), (.int (0 : Int32)), (.int (0 : Int32)), (.int (0 : Int32)), (.int (0 : Int32)), (.int (0 : Int32)), (.int (0 : Int32)), (.int (0 : Int32)), (.int (0 : Int32)), (.int (0 : Int32)), (.int (0 : Int32))]) 5 (5 : Int32) dg5 p4 cs sf la3 lb3 kl3 T15.heap n0 Z16 V_ma V_ua S_COMPACT_STRINGS S_SIOOBE_FORMATTER S_la3 (by decide) ⟨by decide, by decide⟩ (by decide) rfl rfl bd5.1 bd5.2 hcs hsf ne_ma_ua ne_ua_ma ne_la3_ma ne_lb3_ma ne_la3_ua ne_lb3_ua g_ma g_ua O) hZ (wq hw 5 rfl) (wq hw 4 rfl) (by decide) (by decide) Li_la3) (g := (mkF m 108 #[.val (.long p1), .second, .val (.long p2), .second, .val (.int p3), .val (.int p4), .val (.ref ma), .val (.ref ua), .unset, .unset, .unset, .unset, .unset, .unset] [(.int p4), (.int dg5), (.int (5 : Int32)), (.ref ua), (.ref ma)])) rfl (by rw [hml]; rfl) (argsL := [(.ref ma), (.ref ua), (.int (5 : Int32)), (.int dg5), (.int p4)]) (rest := []) (lenOf pd__28_5bC_5bCIII_29V rfl) rfl (by show 2 * 0 + _ ≤ _; exact Nat.le_of_eq rfl) (hb hby at_108) (fun _ _ => ⟨rfl, HQ17, (by decide : 4 + 0 ≤ _), (by decide : 184 + 0 ≤ _)⟩)
  dsimp only [Pt.U, Pt.locs, Pt.cells, Pt.slots] at X18 l18 y18 z18 st18 hQ18
  rw [l18, y18, z18] at X18
  obtain ⟨rfl, N18q, KQ18, fo0_18, fo1_18⟩ := hQ18
  have N18 := Fr.app N17 N18q
  have E_ma := E_ma.keep KQ18
  have E_ua := E_ua.keep KQ18
  have S_la3 := S_la3.keep KQ18 (ninS ne_la3_ma (ninS ne_la3_ua nin0)) (ninS ne_lb3_ma (ninS ne_lb3_ua nin0))
  have Z19 : n0 ≤ T18.heap.size := Nat.le_trans Z16 KQ18.1
  have O := O.keep KQ18 (allS (P := fun x => n0 ≤ x) g_ma (allS (P := fun x => n0 ≤ x) g_ua all0))
  have hsafe := (allS (P := fun x => Safe Z own_EL T3.vm _ x) SF_ma (allS (P := fun x => Safe Z own_EL T3.vm _ x) SF_ua all0))
  have SF_ma := Safe.keep KQ18 hsafe H SF_ma
  have SF_ua := Safe.keep KQ18 hsafe H SF_ua
  have CR := CR.trans (CHr.keep KQ18 hsafe H)
  have H := H.keep KQ18 hsafe
  have hk := Nat.le_trans hk KQ18.1
  have V_ua := fo0_18
  have V_ma := fo1_18
  refine GoesW.pre (U' := T18.setTop (mkF m 111 #[.val (.long p1), .second, .val (.long p2), .second, .val (.int p3), .val (.int p4), .val (.ref ma), .val (.ref ua), .unset, .unset, .unset, .unset, .unset, .unset] [])) (fun t k => st18 t k) ?_
  obtain ⟨u5, hu5⟩ : ∃ z, z = own_dc dg5 := ⟨_, rfl⟩
  rw [← hu5] at V_ua V_ma
  obtain ⟨m5, hm5⟩ : ∃ z, z = own_mc u5 p4 (5 : Int32) := ⟨_, rfl⟩
  rw [← hm5] at V_ma
  have V_ma : Arv Z T18.heap ma k1 .char (26 : Int32) [(.int m0), (.int m1), (.int m2), (.int m3), (.int m4), (.int m5), (.int (0 : Int32)), (.int (0 : Int32)), (.int (0 : Int32)), (.int (0 : Int32)), (.int (0 : Int32)), (.int (0 : Int32)), (.int (0 : Int32)), (.int (0 : Int32)), (.int (0 : Int32)), (.int (0 : Int32)), (.int (0 : Int32)), (.int (0 : Int32)), (.int (0 : Int32)), (.int (0 : Int32)), (.int (0 : Int32)), (.int (0 : Int32)), (.int (0 : Int32)), (.int (0 : Int32)), (.int (0 : Int32)), (.int (0 : Int32))] (.int (0 : Int32)) := V_ma
  have V_ua : Arv Z T18.heap ua k2 .char (26 : Int32) [(.int u0), (.int u1), (.int u2), (.int u3), (.int u4), (.int u5), (.int (0 : Int32)), (.int (0 : Int32)), (.int (0 : Int32)), (.int (0 : Int32)), (.int (0 : Int32)), (.int (0 : Int32)), (.int (0 : Int32)), (.int (0 : Int32)), (.int (0 : Int32)), (.int (0 : Int32)), (.int (0 : Int32)), (.int (0 : Int32)), (.int (0 : Int32)), (.int (0 : Int32)), (.int (0 : Int32)), (.int (0 : Int32)), (.int (0 : Int32)), (.int (0 : Int32)), (.int (0 : Int32)), (.int (0 : Int32))] (.int (0 : Int32)) := V_ua
  refine GoesW.pre (U' := T18.setTop (mkF m 119 #[.val (.long p1), .second, .val (.long p2), .second, .val (.int p3), .val (.int p4), .val (.ref ma), .val (.ref ua), .unset, .unset, .unset, .unset, .unset, .unset] [(.int (5 : Int32)), (.long p1), (.int (6 : Int32)), (.ref ua), (.ref ma)])) (fun t k => XS.aload X18.here hx rfl (hb hby at_111) rfl rfl (XS.aload X18.here hx rfl (hb hby at_113) rfl rfl (XS.bipush X18.here hx rfl (hb hby at_115) (XS.lloadN X18.here hx rfl (hb hby at_117) rfl (XS.iconst X18.here hx rfl (hb hby at_118) k))))) ?_
  obtain ⟨_, _, ⟨T20, L20, k20, n20⟩, -, X20, ⟨Lc20, hQ20, l20, y20, z20⟩, st20⟩ := Jvm.LawKit.callS X18 hx (y := (⟨"com/example/known_paths/knownpaths/ulid/UlidParsePinLaw", "dig", "(JI)I"⟩ : MethodName)) hown (mvT hZ (wq hw 39 rfl)) (mvT hZ (wq hw 40 rfl)) (mvT hZ (wq hw 4 rfl)) (mvT hZ (wq hw 41 rfl)) (by decide) (backOf (W := 3) (rm_dig l Z a0 hw [] p1 (5 : Int32) T18.heap n0 Z19) hZ (wq hw 41 rfl) (wq hw 4 rfl) (by decide) (by decide)) (g := (mkF m 119 #[.val (.long p1), .second, .val (.long p2), .second, .val (.int p3), .val (.int p4), .val (.ref ma), .val (.ref ua), .unset, .unset, .unset, .unset, .unset, .unset] [(.int (5 : Int32)), (.long p1), (.int (6 : Int32)), (.ref ua), (.ref ma)])) rfl (by rw [hml]; rfl) (argsL := [(.long p1), (.int (5 : Int32))]) (rest := [(.int (6 : Int32)), (.ref ua), (.ref ma)]) (lenOf pd__28JI_29I rfl) rfl (by show 2 * 0 + _ ≤ _; exact Nat.le_of_eq rfl) (hb hby at_119) (fun _ _ => ⟨rfl, rfl, (by decide : 4 + 0 ≤ _), (by decide : 184 + 0 ≤ _)⟩)
  dsimp only [Pt.U, Pt.locs, Pt.cells, Pt.slots] at X20 l20 y20 z20 st20 hQ20
  rw [l20, y20, z20] at X20
  obtain ⟨rfl, N20q, HQ20⟩ := hQ20
  have N20 := Fr.app N18 N20q
  refine GoesW.pre (U' := T20.setTop (mkF m 124 #[.val (.long p1), .second, .val (.long p2), .second, .val (.int p3), .val (.int p4), .val (.ref ma), .val (.ref ua), .unset, .unset, .unset, .unset, .unset, .unset] [(.int p4), (.int (own_dig p1 (5 : Int32))), (.int (6 : Int32)), (.ref ua), (.ref ma)])) (fun t k => st20 t (XS.iload X20.here hx rfl (hb hby at_122) rfl k)) ?_
  obtain ⟨dg6, hdg6⟩ : ∃ z : Int32, z = (own_dig p1 (5 : Int32)) := ⟨_, rfl⟩
  rw [← hdg6]
  have bd6 : ¬ (dg6 < (0 : Int32)) ∧ dg6 < (32 : Int32) := by rw [hdg6]; exact own_digb _ _
  obtain ⟨_, _, ⟨T21, L21, k21, n21⟩, -, X21, ⟨Lc21, hQ21, l21, y21, z21⟩, st21⟩ := Jvm.LawKit.callS X20 hx (y := (⟨"com/example/known_paths/knownpaths/ulid/UlidParsePinLaw", "put", "([C[CIII)V"⟩ : MethodName)) hown (mvT hZ (wq hw 2 rfl)) (mvT hZ (wq hw 3 rfl)) (mvT hZ (wq hw 4 rfl)) (mvT hZ (wq hw 5 rfl)) (by decide) (own_backL (W := 0) (rm_putW l Z a0 hw [] ma ua k1 k2 ([(.int m0), (.int m1), (.int m2), (.int m3), (.int m4), (.int m5), (.int (0 : Int32)), (.int (0 : Int32)), (.int (0 : Int32)), (.int (0 : Int32)), (.int (0 : Int32)), (.int (0 : Int32)), (.int (0 : Int32)), (.int (0 : Int32)), (.int (0 : Int32)), (.int (0 : Int32)), (.int (0 : Int32)), (.int (0 : Int32)), (.int (0 : Int32)), (.int (0 : Int32)), (.int (0 : Int32)), (.int (0 : Int32)), (.int (0 : Int32)), (.int (0 : Int32)), (.int (0 : Int32)), (.int (0 : Int32))]) ([(.int u0), (.int u1), (.int u2), (.int u3), (.int u4), (.int u5), (.int (0 : Int32)), (.int (0 : Int32)), (.int (0 : Int32)), (.int (0 : Int32)), (.int (0 : Int32)), (.int (0 : Int32)), (.int (0 : Int32)), (.int (0 : Int32)), (.int (0 : Int32)), (.int (0 : Int32)), (.int (0 : Int32)), (.int (0 : Int32)), (.int (0 : Int32)), (.int (0 : Int32)), (.int (0 : Int32)), (.int (0 : Int32)), (.int (0 : Int32)), (.int (0 : Int32)), (.int (0 : Int32)), (.int (0 : Int32))]) 6 (6 : Int32) dg6 p4 cs sf la3 lb3 kl3 T18.heap n0 Z19 V_ma V_ua S_COMPACT_STRINGS S_SIOOBE_FORMATTER S_la3 (by decide) ⟨by decide, by decide⟩ (by decide) rfl rfl bd6.1 bd6.2 hcs hsf ne_ma_ua ne_ua_ma ne_la3_ma ne_lb3_ma ne_la3_ua ne_lb3_ua g_ma g_ua O) hZ (wq hw 5 rfl) (wq hw 4 rfl) (by decide) (by decide) Li_la3) (g := (mkF m 124 #[.val (.long p1), .second, .val (.long p2), .second, .val (.int p3), .val (.int p4), .val (.ref ma), .val (.ref ua), .unset, .unset, .unset, .unset, .unset, .unset] [(.int p4), (.int dg6), (.int (6 : Int32)), (.ref ua), (.ref ma)])) rfl (by rw [hml]; rfl) (argsL := [(.ref ma), (.ref ua), (.int (6 : Int32)), (.int dg6), (.int p4)]) (rest := []) (lenOf pd__28_5bC_5bCIII_29V rfl) rfl (by show 2 * 0 + _ ≤ _; exact Nat.le_of_eq rfl) (hb hby at_124) (fun _ _ => ⟨rfl, HQ20, (by decide : 4 + 0 ≤ _), (by decide : 184 + 0 ≤ _)⟩)
  dsimp only [Pt.U, Pt.locs, Pt.cells, Pt.slots] at X21 l21 y21 z21 st21 hQ21
  rw [l21, y21, z21] at X21
  obtain ⟨rfl, N21q, KQ21, fo0_21, fo1_21⟩ := hQ21
  have N21 := Fr.app N20 N21q
  have E_ma := E_ma.keep KQ21
  have E_ua := E_ua.keep KQ21
  have S_la3 := S_la3.keep KQ21 (ninS ne_la3_ma (ninS ne_la3_ua nin0)) (ninS ne_lb3_ma (ninS ne_lb3_ua nin0))
  have Z22 : n0 ≤ T21.heap.size := Nat.le_trans Z19 KQ21.1
  have O := O.keep KQ21 (allS (P := fun x => n0 ≤ x) g_ma (allS (P := fun x => n0 ≤ x) g_ua all0))
  have hsafe := (allS (P := fun x => Safe Z own_EL T3.vm _ x) SF_ma (allS (P := fun x => Safe Z own_EL T3.vm _ x) SF_ua all0))
  have SF_ma := Safe.keep KQ21 hsafe H SF_ma
  have SF_ua := Safe.keep KQ21 hsafe H SF_ua
  have CR := CR.trans (CHr.keep KQ21 hsafe H)
  have H := H.keep KQ21 hsafe
  have hk := Nat.le_trans hk KQ21.1
  have V_ua := fo0_21
  have V_ma := fo1_21
  refine GoesW.pre (U' := T21.setTop (mkF m 127 #[.val (.long p1), .second, .val (.long p2), .second, .val (.int p3), .val (.int p4), .val (.ref ma), .val (.ref ua), .unset, .unset, .unset, .unset, .unset, .unset] [])) (fun t k => st21 t k) ?_
  obtain ⟨u6, hu6⟩ : ∃ z, z = own_dc dg6 := ⟨_, rfl⟩
  rw [← hu6] at V_ua V_ma
  obtain ⟨m6, hm6⟩ : ∃ z, z = own_mc u6 p4 (6 : Int32) := ⟨_, rfl⟩
  rw [← hm6] at V_ma
  have V_ma : Arv Z T21.heap ma k1 .char (26 : Int32) [(.int m0), (.int m1), (.int m2), (.int m3), (.int m4), (.int m5), (.int m6), (.int (0 : Int32)), (.int (0 : Int32)), (.int (0 : Int32)), (.int (0 : Int32)), (.int (0 : Int32)), (.int (0 : Int32)), (.int (0 : Int32)), (.int (0 : Int32)), (.int (0 : Int32)), (.int (0 : Int32)), (.int (0 : Int32)), (.int (0 : Int32)), (.int (0 : Int32)), (.int (0 : Int32)), (.int (0 : Int32)), (.int (0 : Int32)), (.int (0 : Int32)), (.int (0 : Int32)), (.int (0 : Int32))] (.int (0 : Int32)) := V_ma
  have V_ua : Arv Z T21.heap ua k2 .char (26 : Int32) [(.int u0), (.int u1), (.int u2), (.int u3), (.int u4), (.int u5), (.int u6), (.int (0 : Int32)), (.int (0 : Int32)), (.int (0 : Int32)), (.int (0 : Int32)), (.int (0 : Int32)), (.int (0 : Int32)), (.int (0 : Int32)), (.int (0 : Int32)), (.int (0 : Int32)), (.int (0 : Int32)), (.int (0 : Int32)), (.int (0 : Int32)), (.int (0 : Int32)), (.int (0 : Int32)), (.int (0 : Int32)), (.int (0 : Int32)), (.int (0 : Int32)), (.int (0 : Int32)), (.int (0 : Int32))] (.int (0 : Int32)) := V_ua
  refine GoesW.pre (U' := T21.setTop (mkF m 135 #[.val (.long p1), .second, .val (.long p2), .second, .val (.int p3), .val (.int p4), .val (.ref ma), .val (.ref ua), .unset, .unset, .unset, .unset, .unset, .unset] [(.int (4 : Int32)), (.long p1), (.int (7 : Int32)), (.ref ua), (.ref ma)])) (fun t k => XS.aload X21.here hx rfl (hb hby at_127) rfl rfl (XS.aload X21.here hx rfl (hb hby at_129) rfl rfl (XS.bipush X21.here hx rfl (hb hby at_131) (XS.lloadN X21.here hx rfl (hb hby at_133) rfl (XS.iconst X21.here hx rfl (hb hby at_134) k))))) ?_
  obtain ⟨_, _, ⟨T23, L23, k23, n23⟩, -, X23, ⟨Lc23, hQ23, l23, y23, z23⟩, st23⟩ := Jvm.LawKit.callS X21 hx (y := (⟨"com/example/known_paths/knownpaths/ulid/UlidParsePinLaw", "dig", "(JI)I"⟩ : MethodName)) hown (mvT hZ (wq hw 39 rfl)) (mvT hZ (wq hw 40 rfl)) (mvT hZ (wq hw 4 rfl)) (mvT hZ (wq hw 41 rfl)) (by decide) (backOf (W := 3) (rm_dig l Z a0 hw [] p1 (4 : Int32) T21.heap n0 Z22) hZ (wq hw 41 rfl) (wq hw 4 rfl) (by decide) (by decide)) (g := (mkF m 135 #[.val (.long p1), .second, .val (.long p2), .second, .val (.int p3), .val (.int p4), .val (.ref ma), .val (.ref ua), .unset, .unset, .unset, .unset, .unset, .unset] [(.int (4 : Int32)), (.long p1), (.int (7 : Int32)), (.ref ua), (.ref ma)])) rfl (by rw [hml]; rfl) (argsL := [(.long p1), (.int (4 : Int32))]) (rest := [(.int (7 : Int32)), (.ref ua), (.ref ma)]) (lenOf pd__28JI_29I rfl) rfl (by show 2 * 0 + _ ≤ _; exact Nat.le_of_eq rfl) (hb hby at_135) (fun _ _ => ⟨rfl, rfl, (by decide : 4 + 0 ≤ _), (by decide : 184 + 0 ≤ _)⟩)
  dsimp only [Pt.U, Pt.locs, Pt.cells, Pt.slots] at X23 l23 y23 z23 st23 hQ23
  rw [l23, y23, z23] at X23
  obtain ⟨rfl, N23q, HQ23⟩ := hQ23
  have N23 := Fr.app N21 N23q
  refine GoesW.pre (U' := T23.setTop (mkF m 140 #[.val (.long p1), .second, .val (.long p2), .second, .val (.int p3), .val (.int p4), .val (.ref ma), .val (.ref ua), .unset, .unset, .unset, .unset, .unset, .unset] [(.int p4), (.int (own_dig p1 (4 : Int32))), (.int (7 : Int32)), (.ref ua), (.ref ma)])) (fun t k => st23 t (XS.iload X23.here hx rfl (hb hby at_138) rfl k)) ?_
  obtain ⟨dg7, hdg7⟩ : ∃ z : Int32, z = (own_dig p1 (4 : Int32)) := ⟨_, rfl⟩
  rw [← hdg7]
  have bd7 : ¬ (dg7 < (0 : Int32)) ∧ dg7 < (32 : Int32) := by rw [hdg7]; exact own_digb _ _
  obtain ⟨_, _, ⟨T24, L24, k24, n24⟩, -, X24, ⟨Lc24, hQ24, l24, y24, z24⟩, st24⟩ := Jvm.LawKit.callS X23 hx (y := (⟨"com/example/known_paths/knownpaths/ulid/UlidParsePinLaw", "put", "([C[CIII)V"⟩ : MethodName)) hown (mvT hZ (wq hw 2 rfl)) (mvT hZ (wq hw 3 rfl)) (mvT hZ (wq hw 4 rfl)) (mvT hZ (wq hw 5 rfl)) (by decide) (own_backL (W := 0) (rm_putW l Z a0 hw [] ma ua k1 k2 ([(.int m0), (.int m1), (.int m2), (.int m3), (.int m4), (.int m5), (.int m6), (.int (0 : Int32)), (.int (0 : Int32)), (.int (0 : Int32)), (.int (0 : Int32)), (.int (0 : Int32)), (.int (0 : Int32)), (.int (0 : Int32)), (.int (0 : Int32)), (.int (0 : Int32)), (.int (0 : Int32)), (.int (0 : Int32)), (.int (0 : Int32)), (.int (0 : Int32)), (.int (0 : Int32)), (.int (0 : Int32)), (.int (0 : Int32)), (.int (0 : Int32)), (.int (0 : Int32)), (.int (0 : Int32))]) ([(.int u0), (.int u1), (.int u2), (.int u3), (.int u4), (.int u5), (.int u6), (.int (0 : Int32)), (.int (0 : Int32)), (.int (0 : Int32)), (.int (0 : Int32)), (.int (0 : Int32)), (.int (0 : Int32)), (.int (0 : Int32)), (.int (0 : Int32)), (.int (0 : Int32)), (.int (0 : Int32)), (.int (0 : Int32)), (.int (0 : Int32)), (.int (0 : Int32)), (.int (0 : Int32)), (.int (0 : Int32)), (.int (0 : Int32)), (.int (0 : Int32)), (.int (0 : Int32)), (.int (0 : Int32))]) 7 (7 : Int32) dg7 p4 cs sf la3 lb3 kl3 T21.heap n0 Z22 V_ma V_ua S_COMPACT_STRINGS S_SIOOBE_FORMATTER S_la3 (by decide) ⟨by decide, by decide⟩ (by decide) rfl rfl bd7.1 bd7.2 hcs hsf ne_ma_ua ne_ua_ma ne_la3_ma ne_lb3_ma ne_la3_ua ne_lb3_ua g_ma g_ua O) hZ (wq hw 5 rfl) (wq hw 4 rfl) (by decide) (by decide) Li_la3) (g := (mkF m 140 #[.val (.long p1), .second, .val (.long p2), .second, .val (.int p3), .val (.int p4), .val (.ref ma), .val (.ref ua), .unset, .unset, .unset, .unset, .unset, .unset] [(.int p4), (.int dg7), (.int (7 : Int32)), (.ref ua), (.ref ma)])) rfl (by rw [hml]; rfl) (argsL := [(.ref ma), (.ref ua), (.int (7 : Int32)), (.int dg7), (.int p4)]) (rest := []) (lenOf pd__28_5bC_5bCIII_29V rfl) rfl (by show 2 * 0 + _ ≤ _; exact Nat.le_of_eq rfl) (hb hby at_140) (fun _ _ => ⟨rfl, HQ23, (by decide : 4 + 0 ≤ _), (by decide : 184 + 0 ≤ _)⟩)
  dsimp only [Pt.U, Pt.locs, Pt.cells, Pt.slots] at X24 l24 y24 z24 st24 hQ24
  rw [l24, y24, z24] at X24
  obtain ⟨rfl, N24q, KQ24, fo0_24, fo1_24⟩ := hQ24
  have N24 := Fr.app N23 N24q
  have E_ma := E_ma.keep KQ24
  have E_ua := E_ua.keep KQ24
  have S_la3 := S_la3.keep KQ24 (ninS ne_la3_ma (ninS ne_la3_ua nin0)) (ninS ne_lb3_ma (ninS ne_lb3_ua nin0))
  have Z25 : n0 ≤ T24.heap.size := Nat.le_trans Z22 KQ24.1
  have O := O.keep KQ24 (allS (P := fun x => n0 ≤ x) g_ma (allS (P := fun x => n0 ≤ x) g_ua all0))
  have hsafe := (allS (P := fun x => Safe Z own_EL T3.vm _ x) SF_ma (allS (P := fun x => Safe Z own_EL T3.vm _ x) SF_ua all0))
  have SF_ma := Safe.keep KQ24 hsafe H SF_ma
  have SF_ua := Safe.keep KQ24 hsafe H SF_ua
  have CR := CR.trans (CHr.keep KQ24 hsafe H)
  have H := H.keep KQ24 hsafe
  have hk := Nat.le_trans hk KQ24.1
  have V_ua := fo0_24
  have V_ma := fo1_24
  refine GoesW.pre (U' := T24.setTop (mkF m 143 #[.val (.long p1), .second, .val (.long p2), .second, .val (.int p3), .val (.int p4), .val (.ref ma), .val (.ref ua), .unset, .unset, .unset, .unset, .unset, .unset] [])) (fun t k => st24 t k) ?_
  obtain ⟨u7, hu7⟩ : ∃ z, z = own_dc dg7 := ⟨_, rfl⟩
  rw [← hu7] at V_ua V_ma
  obtain ⟨m7, hm7⟩ : ∃ z, z = own_mc u7 p4 (7 : Int32) := ⟨_, rfl⟩
  rw [← hm7] at V_ma
  have V_ma : Arv Z T24.heap ma k1 .char (26 : Int32) [(.int m0), (.int m1), (.int m2), (.int m3), (.int m4), (.int m5), (.int m6), (.int m7), (.int (0 : Int32)), (.int (0 : Int32)), (.int (0 : Int32)), (.int (0 : Int32)), (.int (0 : Int32)), (.int (0 : Int32)), (.int (0 : Int32)), (.int (0 : Int32)), (.int (0 : Int32)), (.int (0 : Int32)), (.int (0 : Int32)), (.int (0 : Int32)), (.int (0 : Int32)), (.int (0 : Int32)), (.int (0 : Int32)), (.int (0 : Int32)), (.int (0 : Int32)), (.int (0 : Int32))] (.int (0 : Int32)) := V_ma
  have V_ua : Arv Z T24.heap ua k2 .char (26 : Int32) [(.int u0), (.int u1), (.int u2), (.int u3), (.int u4), (.int u5), (.int u6), (.int u7), (.int (0 : Int32)), (.int (0 : Int32)), (.int (0 : Int32)), (.int (0 : Int32)), (.int (0 : Int32)), (.int (0 : Int32)), (.int (0 : Int32)), (.int (0 : Int32)), (.int (0 : Int32)), (.int (0 : Int32)), (.int (0 : Int32)), (.int (0 : Int32)), (.int (0 : Int32)), (.int (0 : Int32)), (.int (0 : Int32)), (.int (0 : Int32)), (.int (0 : Int32)), (.int (0 : Int32))] (.int (0 : Int32)) := V_ua
  refine GoesW.pre (U' := T24.setTop (mkF m 151 #[.val (.long p1), .second, .val (.long p2), .second, .val (.int p3), .val (.int p4), .val (.ref ma), .val (.ref ua), .unset, .unset, .unset, .unset, .unset, .unset] [(.int (3 : Int32)), (.long p1), (.int (8 : Int32)), (.ref ua), (.ref ma)])) (fun t k => XS.aload X24.here hx rfl (hb hby at_143) rfl rfl (XS.aload X24.here hx rfl (hb hby at_145) rfl rfl (XS.bipush X24.here hx rfl (hb hby at_147) (XS.lloadN X24.here hx rfl (hb hby at_149) rfl (XS.iconst X24.here hx rfl (hb hby at_150) k))))) ?_
  obtain ⟨_, _, ⟨T26, L26, k26, n26⟩, -, X26, ⟨Lc26, hQ26, l26, y26, z26⟩, st26⟩ := Jvm.LawKit.callS X24 hx (y := (⟨"com/example/known_paths/knownpaths/ulid/UlidParsePinLaw", "dig", "(JI)I"⟩ : MethodName)) hown (mvT hZ (wq hw 39 rfl)) (mvT hZ (wq hw 40 rfl)) (mvT hZ (wq hw 4 rfl)) (mvT hZ (wq hw 41 rfl)) (by decide) (backOf (W := 3) (rm_dig l Z a0 hw [] p1 (3 : Int32) T24.heap n0 Z25) hZ (wq hw 41 rfl) (wq hw 4 rfl) (by decide) (by decide)) (g := (mkF m 151 #[.val (.long p1), .second, .val (.long p2), .second, .val (.int p3), .val (.int p4), .val (.ref ma), .val (.ref ua), .unset, .unset, .unset, .unset, .unset, .unset] [(.int (3 : Int32)), (.long p1), (.int (8 : Int32)), (.ref ua), (.ref ma)])) rfl (by rw [hml]; rfl) (argsL := [(.long p1), (.int (3 : Int32))]) (rest := [(.int (8 : Int32)), (.ref ua), (.ref ma)]) (lenOf pd__28JI_29I rfl) rfl (by show 2 * 0 + _ ≤ _; exact Nat.le_of_eq rfl) (hb hby at_151) (fun _ _ => ⟨rfl, rfl, (by decide : 4 + 0 ≤ _), (by decide : 184 + 0 ≤ _)⟩)
  dsimp only [Pt.U, Pt.locs, Pt.cells, Pt.slots] at X26 l26 y26 z26 st26 hQ26
  rw [l26, y26, z26] at X26
  obtain ⟨rfl, N26q, HQ26⟩ := hQ26
  have N26 := Fr.app N24 N26q
  refine GoesW.pre (U' := T26.setTop (mkF m 156 #[.val (.long p1), .second, .val (.long p2), .second, .val (.int p3), .val (.int p4), .val (.ref ma), .val (.ref ua), .unset, .unset, .unset, .unset, .unset, .unset] [(.int p4), (.int (own_dig p1 (3 : Int32))), (.int (8 : Int32)), (.ref ua), (.ref ma)])) (fun t k => st26 t (XS.iload X26.here hx rfl (hb hby at_154) rfl k)) ?_
  obtain ⟨dg8, hdg8⟩ : ∃ z : Int32, z = (own_dig p1 (3 : Int32)) := ⟨_, rfl⟩
  rw [← hdg8]
  have bd8 : ¬ (dg8 < (0 : Int32)) ∧ dg8 < (32 : Int32) := by rw [hdg8]; exact own_digb _ _
  obtain ⟨_, _, ⟨T27, L27, k27, n27⟩, -, X27, ⟨Lc27, hQ27, l27, y27, z27⟩, st27⟩ := Jvm.LawKit.callS X26 hx (y := (⟨"com/example/known_paths/knownpaths/ulid/UlidParsePinLaw", "put", "([C[CIII)V"⟩ : MethodName)) hown (mvT hZ (wq hw 2 rfl)) (mvT hZ (wq hw 3 rfl)) (mvT hZ (wq hw 4 rfl)) (mvT hZ (wq hw 5 rfl)) (by decide) (own_backL (W := 0) (rm_putW l Z a0 hw [] ma ua k1 k2 ([(.int m0), (.int m1), (.int m2), (.int m3), (.int m4), (.int m5), (.int m6), (.int m7), (.int (0 : Int32)), (.int (0 : Int32)), (.int (0 : Int32)), (.int (0 : Int32)), (.int (0 : Int32)), (.int (0 : Int32)), (.int (0 : Int32)), (.int (0 : Int32)), (.int (0 : Int32)), (.int (0 : Int32)), (.int (0 : Int32)), (.int (0 : Int32)), (.int (0 : Int32)), (.int (0 : Int32)), (.int (0 : Int32)), (.int (0 : Int32)), (.int (0 : Int32)), (.int (0 : Int32))]) ([(.int u0), (.int u1), (.int u2), (.int u3), (.int u4), (.int u5), (.int u6), (.int u7), (.int (0 : Int32)), (.int (0 : Int32)), (.int (0 : Int32)), (.int (0 : Int32)), (.int (0 : Int32)), (.int (0 : Int32)), (.int (0 : Int32)), (.int (0 : Int32)), (.int (0 : Int32)), (.int (0 : Int32)), (.int (0 : Int32)), (.int (0 : Int32)), (.int (0 : Int32)), (.int (0 : Int32)), (.int (0 : Int32)), (.int (0 : Int32)), (.int (0 : Int32)), (.int (0 : Int32))]) 8 (8 : Int32) dg8 p4 cs sf la3 lb3 kl3 T24.heap n0 Z25 V_ma V_ua S_COMPACT_STRINGS S_SIOOBE_FORMATTER S_la3 (by decide) ⟨by decide, by decide⟩ (by decide) rfl rfl bd8.1 bd8.2 hcs hsf ne_ma_ua ne_ua_ma ne_la3_ma ne_lb3_ma ne_la3_ua ne_lb3_ua g_ma g_ua O) hZ (wq hw 5 rfl) (wq hw 4 rfl) (by decide) (by decide) Li_la3) (g := (mkF m 156 #[.val (.long p1), .second, .val (.long p2), .second, .val (.int p3), .val (.int p4), .val (.ref ma), .val (.ref ua), .unset, .unset, .unset, .unset, .unset, .unset] [(.int p4), (.int dg8), (.int (8 : Int32)), (.ref ua), (.ref ma)])) rfl (by rw [hml]; rfl) (argsL := [(.ref ma), (.ref ua), (.int (8 : Int32)), (.int dg8), (.int p4)]) (rest := []) (lenOf pd__28_5bC_5bCIII_29V rfl) rfl (by show 2 * 0 + _ ≤ _; exact Nat.le_of_eq rfl) (hb hby at_156) (fun _ _ => ⟨rfl, HQ26, (by decide : 4 + 0 ≤ _), (by decide : 184 + 0 ≤ _)⟩)
  dsimp only [Pt.U, Pt.locs, Pt.cells, Pt.slots] at X27 l27 y27 z27 st27 hQ27
  rw [l27, y27, z27] at X27
  obtain ⟨rfl, N27q, KQ27, fo0_27, fo1_27⟩ := hQ27
  have N27 := Fr.app N26 N27q
  have E_ma := E_ma.keep KQ27
  have E_ua := E_ua.keep KQ27
  have S_la3 := S_la3.keep KQ27 (ninS ne_la3_ma (ninS ne_la3_ua nin0)) (ninS ne_lb3_ma (ninS ne_lb3_ua nin0))
  have Z28 : n0 ≤ T27.heap.size := Nat.le_trans Z25 KQ27.1
  have O := O.keep KQ27 (allS (P := fun x => n0 ≤ x) g_ma (allS (P := fun x => n0 ≤ x) g_ua all0))
  have hsafe := (allS (P := fun x => Safe Z own_EL T3.vm _ x) SF_ma (allS (P := fun x => Safe Z own_EL T3.vm _ x) SF_ua all0))
  have SF_ma := Safe.keep KQ27 hsafe H SF_ma
  have SF_ua := Safe.keep KQ27 hsafe H SF_ua
  have CR := CR.trans (CHr.keep KQ27 hsafe H)
  have H := H.keep KQ27 hsafe
  have hk := Nat.le_trans hk KQ27.1
  have V_ua := fo0_27
  have V_ma := fo1_27
  refine GoesW.pre (U' := T27.setTop (mkF m 159 #[.val (.long p1), .second, .val (.long p2), .second, .val (.int p3), .val (.int p4), .val (.ref ma), .val (.ref ua), .unset, .unset, .unset, .unset, .unset, .unset] [])) (fun t k => st27 t k) ?_
  obtain ⟨u8, hu8⟩ : ∃ z, z = own_dc dg8 := ⟨_, rfl⟩
  rw [← hu8] at V_ua V_ma
  obtain ⟨m8, hm8⟩ : ∃ z, z = own_mc u8 p4 (8 : Int32) := ⟨_, rfl⟩
  rw [← hm8] at V_ma
  have V_ma : Arv Z T27.heap ma k1 .char (26 : Int32) [(.int m0), (.int m1), (.int m2), (.int m3), (.int m4), (.int m5), (.int m6), (.int m7), (.int m8), (.int (0 : Int32)), (.int (0 : Int32)), (.int (0 : Int32)), (.int (0 : Int32)), (.int (0 : Int32)), (.int (0 : Int32)), (.int (0 : Int32)), (.int (0 : Int32)), (.int (0 : Int32)), (.int (0 : Int32)), (.int (0 : Int32)), (.int (0 : Int32)), (.int (0 : Int32)), (.int (0 : Int32)), (.int (0 : Int32)), (.int (0 : Int32)), (.int (0 : Int32))] (.int (0 : Int32)) := V_ma
  have V_ua : Arv Z T27.heap ua k2 .char (26 : Int32) [(.int u0), (.int u1), (.int u2), (.int u3), (.int u4), (.int u5), (.int u6), (.int u7), (.int u8), (.int (0 : Int32)), (.int (0 : Int32)), (.int (0 : Int32)), (.int (0 : Int32)), (.int (0 : Int32)), (.int (0 : Int32)), (.int (0 : Int32)), (.int (0 : Int32)), (.int (0 : Int32)), (.int (0 : Int32)), (.int (0 : Int32)), (.int (0 : Int32)), (.int (0 : Int32)), (.int (0 : Int32)), (.int (0 : Int32)), (.int (0 : Int32)), (.int (0 : Int32))] (.int (0 : Int32)) := V_ua
  refine GoesW.pre (U' := T27.setTop (mkF m 167 #[.val (.long p1), .second, .val (.long p2), .second, .val (.int p3), .val (.int p4), .val (.ref ma), .val (.ref ua), .unset, .unset, .unset, .unset, .unset, .unset] [(.int (2 : Int32)), (.long p1), (.int (9 : Int32)), (.ref ua), (.ref ma)])) (fun t k => XS.aload X27.here hx rfl (hb hby at_159) rfl rfl (XS.aload X27.here hx rfl (hb hby at_161) rfl rfl (XS.bipush X27.here hx rfl (hb hby at_163) (XS.lloadN X27.here hx rfl (hb hby at_165) rfl (XS.iconst X27.here hx rfl (hb hby at_166) k))))) ?_
  obtain ⟨_, _, ⟨T29, L29, k29, n29⟩, -, X29, ⟨Lc29, hQ29, l29, y29, z29⟩, st29⟩ := Jvm.LawKit.callS X27 hx (y := (⟨"com/example/known_paths/knownpaths/ulid/UlidParsePinLaw", "dig", "(JI)I"⟩ : MethodName)) hown (mvT hZ (wq hw 39 rfl)) (mvT hZ (wq hw 40 rfl)) (mvT hZ (wq hw 4 rfl)) (mvT hZ (wq hw 41 rfl)) (by decide) (backOf (W := 3) (rm_dig l Z a0 hw [] p1 (2 : Int32) T27.heap n0 Z28) hZ (wq hw 41 rfl) (wq hw 4 rfl) (by decide) (by decide)) (g := (mkF m 167 #[.val (.long p1), .second, .val (.long p2), .second, .val (.int p3), .val (.int p4), .val (.ref ma), .val (.ref ua), .unset, .unset, .unset, .unset, .unset, .unset] [(.int (2 : Int32)), (.long p1), (.int (9 : Int32)), (.ref ua), (.ref ma)])) rfl (by rw [hml]; rfl) (argsL := [(.long p1), (.int (2 : Int32))]) (rest := [(.int (9 : Int32)), (.ref ua), (.ref ma)]) (lenOf pd__28JI_29I rfl) rfl (by show 2 * 0 + _ ≤ _; exact Nat.le_of_eq rfl) (hb hby at_167) (fun _ _ => ⟨rfl, rfl, (by decide : 4 + 0 ≤ _), (by decide : 184 + 0 ≤ _)⟩)
  dsimp only [Pt.U, Pt.locs, Pt.cells, Pt.slots] at X29 l29 y29 z29 st29 hQ29
  rw [l29, y29, z29] at X29
  obtain ⟨rfl, N29q, HQ29⟩ := hQ29
  have N29 := Fr.app N27 N29q
  refine GoesW.pre (U' := T29.setTop (mkF m 172 #[.val (.long p1), .second, .val (.long p2), .second, .val (.int p3), .val (.int p4), .val (.ref ma), .val (.ref ua), .unset, .unset, .unset, .unset, .unset, .unset] [(.int p4), (.int (own_dig p1 (2 : Int32))), (.int (9 : Int32)), (.ref ua), (.ref ma)])) (fun t k => st29 t (XS.iload X29.here hx rfl (hb hby at_170) rfl k)) ?_
  obtain ⟨dg9, hdg9⟩ : ∃ z : Int32, z = (own_dig p1 (2 : Int32)) := ⟨_, rfl⟩
  rw [← hdg9]
  have bd9 : ¬ (dg9 < (0 : Int32)) ∧ dg9 < (32 : Int32) := by rw [hdg9]; exact own_digb _ _
  obtain ⟨_, _, ⟨T30, L30, k30, n30⟩, -, X30, ⟨Lc30, hQ30, l30, y30, z30⟩, st30⟩ := Jvm.LawKit.callS X29 hx (y := (⟨"com/example/known_paths/knownpaths/ulid/UlidParsePinLaw", "put", "([C[CIII)V"⟩ : MethodName)) hown (mvT hZ (wq hw 2 rfl)) (mvT hZ (wq hw 3 rfl)) (mvT hZ (wq hw 4 rfl)) (mvT hZ (wq hw 5 rfl)) (by decide) (own_backL (W := 0) (rm_putW l Z a0 hw [] ma ua k1 k2 ([(.int m0), (.int m1), (.int m2), (.int m3), (.int m4), (.int m5), (.int m6), (.int m7), (.int m8), (.int (0 : Int32)), (.int (0 : Int32)), (.int (0 : Int32)), (.int (0 : Int32)), (.int (0 : Int32)), (.int (0 : Int32)), (.int (0 : Int32)), (.int (0 : Int32)), (.int (0 : Int32)), (.int (0 : Int32)), (.int (0 : Int32)), (.int (0 : Int32)), (.int (0 : Int32)), (.int (0 : Int32)), (.int (0 : Int32)), (.int (0 : Int32)), (.int (0 : Int32))]) ([(.int u0), (.int u1), (.int u2), (.int u3), (.int u4), (.int u5), (.int u6), (.int u7), (.int u8), (.int (0 : Int32)), (.int (0 : Int32)), (.int (0 : Int32)), (.int (0 : Int32)), (.int (0 : Int32)), (.int (0 : Int32)), (.int (0 : Int32)), (.int (0 : Int32)), (.int (0 : Int32)), (.int (0 : Int32)), (.int (0 : Int32)), (.int (0 : Int32)), (.int (0 : Int32)), (.int (0 : Int32)), (.int (0 : Int32)), (.int (0 : Int32)), (.int (0 : Int32))]) 9 (9 : Int32) dg9 p4 cs sf la3 lb3 kl3 T27.heap n0 Z28 V_ma V_ua S_COMPACT_STRINGS S_SIOOBE_FORMATTER S_la3 (by decide) ⟨by decide, by decide⟩ (by decide) rfl rfl bd9.1 bd9.2 hcs hsf ne_ma_ua ne_ua_ma ne_la3_ma ne_lb3_ma ne_la3_ua ne_lb3_ua g_ma g_ua O) hZ (wq hw 5 rfl) (wq hw 4 rfl) (by decide) (by decide) Li_la3) (g := (mkF m 172 #[.val (.long p1), .second, .val (.long p2), .second, .val (.int p3), .val (.int p4), .val (.ref ma), .val (.ref ua), .unset, .unset, .unset, .unset, .unset, .unset] [(.int p4), (.int dg9), (.int (9 : Int32)), (.ref ua), (.ref ma)])) rfl (by rw [hml]; rfl) (argsL := [(.ref ma), (.ref ua), (.int (9 : Int32)), (.int dg9), (.int p4)]) (rest := []) (lenOf pd__28_5bC_5bCIII_29V rfl) rfl (by show 2 * 0 + _ ≤ _; exact Nat.le_of_eq rfl) (hb hby at_172) (fun _ _ => ⟨rfl, HQ29, (by decide : 4 + 0 ≤ _), (by decide : 184 + 0 ≤ _)⟩)
  dsimp only [Pt.U, Pt.locs, Pt.cells, Pt.slots] at X30 l30 y30 z30 st30 hQ30
  rw [l30, y30, z30] at X30
  obtain ⟨rfl, N30q, KQ30, fo0_30, fo1_30⟩ := hQ30
  have N30 := Fr.app N29 N30q
  have E_ma := E_ma.keep KQ30
  have E_ua := E_ua.keep KQ30
  have S_la3 := S_la3.keep KQ30 (ninS ne_la3_ma (ninS ne_la3_ua nin0)) (ninS ne_lb3_ma (ninS ne_lb3_ua nin0))
  have Z31 : n0 ≤ T30.heap.size := Nat.le_trans Z28 KQ30.1
  have O := O.keep KQ30 (allS (P := fun x => n0 ≤ x) g_ma (allS (P := fun x => n0 ≤ x) g_ua all0))
  have hsafe := (allS (P := fun x => Safe Z own_EL T3.vm _ x) SF_ma (allS (P := fun x => Safe Z own_EL T3.vm _ x) SF_ua all0))
  have SF_ma := Safe.keep KQ30 hsafe H SF_ma
  have SF_ua := Safe.keep KQ30 hsafe H SF_ua
  have CR := CR.trans (CHr.keep KQ30 hsafe H)
  have H := H.keep KQ30 hsafe
  have hk := Nat.le_trans hk KQ30.1
  have V_ua := fo0_30
  have V_ma := fo1_30
  refine GoesW.pre (U' := T30.setTop (mkF m 175 #[.val (.long p1), .second, .val (.long p2), .second, .val (.int p3), .val (.int p4), .val (.ref ma), .val (.ref ua), .unset, .unset, .unset, .unset, .unset, .unset] [])) (fun t k => st30 t k) ?_
  obtain ⟨u9, hu9⟩ : ∃ z, z = own_dc dg9 := ⟨_, rfl⟩
  rw [← hu9] at V_ua V_ma
  obtain ⟨m9, hm9⟩ : ∃ z, z = own_mc u9 p4 (9 : Int32) := ⟨_, rfl⟩
  rw [← hm9] at V_ma
  have V_ma : Arv Z T30.heap ma k1 .char (26 : Int32) [(.int m0), (.int m1), (.int m2), (.int m3), (.int m4), (.int m5), (.int m6), (.int m7), (.int m8), (.int m9), (.int (0 : Int32)), (.int (0 : Int32)), (.int (0 : Int32)), (.int (0 : Int32)), (.int (0 : Int32)), (.int (0 : Int32)), (.int (0 : Int32)), (.int (0 : Int32)), (.int (0 : Int32)), (.int (0 : Int32)), (.int (0 : Int32)), (.int (0 : Int32)), (.int (0 : Int32)), (.int (0 : Int32)), (.int (0 : Int32)), (.int (0 : Int32))] (.int (0 : Int32)) := V_ma
  have V_ua : Arv Z T30.heap ua k2 .char (26 : Int32) [(.int u0), (.int u1), (.int u2), (.int u3), (.int u4), (.int u5), (.int u6), (.int u7), (.int u8), (.int u9), (.int (0 : Int32)), (.int (0 : Int32)), (.int (0 : Int32)), (.int (0 : Int32)), (.int (0 : Int32)), (.int (0 : Int32)), (.int (0 : Int32)), (.int (0 : Int32)), (.int (0 : Int32)), (.int (0 : Int32)), (.int (0 : Int32)), (.int (0 : Int32)), (.int (0 : Int32)), (.int (0 : Int32)), (.int (0 : Int32)), (.int (0 : Int32))] (.int (0 : Int32)) := V_ua
  refine GoesW.pre (U' := T30.setTop (mkF m 183 #[.val (.long p1), .second, .val (.long p2), .second, .val (.int p3), .val (.int p4), .val (.ref ma), .val (.ref ua), .unset, .unset, .unset, .unset, .unset, .unset] [(.int (1 : Int32)), (.long p1), (.int (10 : Int32)), (.ref ua), (.ref ma)])) (fun t k => XS.aload X30.here hx rfl (hb hby at_175) rfl rfl (XS.aload X30.here hx rfl (hb hby at_177) rfl rfl (XS.bipush X30.here hx rfl (hb hby at_179) (XS.lloadN X30.here hx rfl (hb hby at_181) rfl (XS.iconst X30.here hx rfl (hb hby at_182) k))))) ?_
  obtain ⟨_, _, ⟨T32, L32, k32, n32⟩, -, X32, ⟨Lc32, hQ32, l32, y32, z32⟩, st32⟩ := Jvm.LawKit.callS X30 hx (y := (⟨"com/example/known_paths/knownpaths/ulid/UlidParsePinLaw", "dig", "(JI)I"⟩ : MethodName)) hown (mvT hZ (wq hw 39 rfl)) (mvT hZ (wq hw 40 rfl)) (mvT hZ (wq hw 4 rfl)) (mvT hZ (wq hw 41 rfl)) (by decide) (backOf (W := 3) (rm_dig l Z a0 hw [] p1 (1 : Int32) T30.heap n0 Z31) hZ (wq hw 41 rfl) (wq hw 4 rfl) (by decide) (by decide)) (g := (mkF m 183 #[.val (.long p1), .second, .val (.long p2), .second, .val (.int p3), .val (.int p4), .val (.ref ma), .val (.ref ua), .unset, .unset, .unset, .unset, .unset, .unset] [(.int (1 : Int32)), (.long p1), (.int (10 : Int32)), (.ref ua), (.ref ma)])) rfl (by rw [hml]; rfl) (argsL := [(.long p1), (.int (1 : Int32))]) (rest := [(.int (10 : Int32)), (.ref ua), (.ref ma)]) (lenOf pd__28JI_29I rfl) rfl (by show 2 * 0 + _ ≤ _; exact Nat.le_of_eq rfl) (hb hby at_183) (fun _ _ => ⟨rfl, rfl, (by decide : 4 + 0 ≤ _), (by decide : 184 + 0 ≤ _)⟩)
  dsimp only [Pt.U, Pt.locs, Pt.cells, Pt.slots] at X32 l32 y32 z32 st32 hQ32
  rw [l32, y32, z32] at X32
  obtain ⟨rfl, N32q, HQ32⟩ := hQ32
  have N32 := Fr.app N30 N32q
  refine GoesW.pre (U' := T32.setTop (mkF m 188 #[.val (.long p1), .second, .val (.long p2), .second, .val (.int p3), .val (.int p4), .val (.ref ma), .val (.ref ua), .unset, .unset, .unset, .unset, .unset, .unset] [(.int p4), (.int (own_dig p1 (1 : Int32))), (.int (10 : Int32)), (.ref ua), (.ref ma)])) (fun t k => st32 t (XS.iload X32.here hx rfl (hb hby at_186) rfl k)) ?_
  obtain ⟨dg10, hdg10⟩ : ∃ z : Int32, z = (own_dig p1 (1 : Int32)) := ⟨_, rfl⟩
  rw [← hdg10]
  have bd10 : ¬ (dg10 < (0 : Int32)) ∧ dg10 < (32 : Int32) := by rw [hdg10]; exact own_digb _ _
  obtain ⟨_, _, ⟨T33, L33, k33, n33⟩, -, X33, ⟨Lc33, hQ33, l33, y33, z33⟩, st33⟩ := Jvm.LawKit.callS X32 hx (y := (⟨"com/example/known_paths/knownpaths/ulid/UlidParsePinLaw", "put", "([C[CIII)V"⟩ : MethodName)) hown (mvT hZ (wq hw 2 rfl)) (mvT hZ (wq hw 3 rfl)) (mvT hZ (wq hw 4 rfl)) (mvT hZ (wq hw 5 rfl)) (by decide) (own_backL (W := 0) (rm_putW l Z a0 hw [] ma ua k1 k2 ([(.int m0), (.int m1), (.int m2), (.int m3), (.int m4), (.int m5), (.int m6), (.int m7), (.int m8), (.int m9), (.int (0 : Int32)), (.int (0 : Int32)), (.int (0 : Int32)), (.int (0 : Int32)), (.int (0 : Int32)), (.int (0 : Int32)), (.int (0 : Int32)), (.int (0 : Int32)), (.int (0 : Int32)), (.int (0 : Int32)), (.int (0 : Int32)), (.int (0 : Int32)), (.int (0 : Int32)), (.int (0 : Int32)), (.int (0 : Int32)), (.int (0 : Int32))]) ([(.int u0), (.int u1), (.int u2), (.int u3), (.int u4), (.int u5), (.int u6), (.int u7), (.int u8), (.int u9), (.int (0 : Int32)), (.int (0 : Int32)), (.int (0 : Int32)), (.int (0 : Int32)), (.int (0 : Int32)), (.int (0 : Int32)), (.int (0 : Int32)), (.int (0 : Int32)), (.int (0 : Int32)), (.int (0 : Int32)), (.int (0 : Int32)), (.int (0 : Int32)), (.int (0 : Int32)), (.int (0 : Int32)), (.int (0 : Int32)), (.int (0 : Int32))]) 10 (10 : Int32) dg10 p4 cs sf la3 lb3 kl3 T30.heap n0 Z31 V_ma V_ua S_COMPACT_STRINGS S_SIOOBE_FORMATTER S_la3 (by decide) ⟨by decide, by decide⟩ (by decide) rfl rfl bd10.1 bd10.2 hcs hsf ne_ma_ua ne_ua_ma ne_la3_ma ne_lb3_ma ne_la3_ua ne_lb3_ua g_ma g_ua O) hZ (wq hw 5 rfl) (wq hw 4 rfl) (by decide) (by decide) Li_la3) (g := (mkF m 188 #[.val (.long p1), .second, .val (.long p2), .second, .val (.int p3), .val (.int p4), .val (.ref ma), .val (.ref ua), .unset, .unset, .unset, .unset, .unset, .unset] [(.int p4), (.int dg10), (.int (10 : Int32)), (.ref ua), (.ref ma)])) rfl (by rw [hml]; rfl) (argsL := [(.ref ma), (.ref ua), (.int (10 : Int32)), (.int dg10), (.int p4)]) (rest := []) (lenOf pd__28_5bC_5bCIII_29V rfl) rfl (by show 2 * 0 + _ ≤ _; exact Nat.le_of_eq rfl) (hb hby at_188) (fun _ _ => ⟨rfl, HQ32, (by decide : 4 + 0 ≤ _), (by decide : 184 + 0 ≤ _)⟩)
  dsimp only [Pt.U, Pt.locs, Pt.cells, Pt.slots] at X33 l33 y33 z33 st33 hQ33
  rw [l33, y33, z33] at X33
  obtain ⟨rfl, N33q, KQ33, fo0_33, fo1_33⟩ := hQ33
  have N33 := Fr.app N32 N33q
  have E_ma := E_ma.keep KQ33
  have E_ua := E_ua.keep KQ33
  have S_la3 := S_la3.keep KQ33 (ninS ne_la3_ma (ninS ne_la3_ua nin0)) (ninS ne_lb3_ma (ninS ne_lb3_ua nin0))
  have Z34 : n0 ≤ T33.heap.size := Nat.le_trans Z31 KQ33.1
  have O := O.keep KQ33 (allS (P := fun x => n0 ≤ x) g_ma (allS (P := fun x => n0 ≤ x) g_ua all0))
  have hsafe := (allS (P := fun x => Safe Z own_EL T3.vm _ x) SF_ma (allS (P := fun x => Safe Z own_EL T3.vm _ x) SF_ua all0))
  have SF_ma := Safe.keep KQ33 hsafe H SF_ma
  have SF_ua := Safe.keep KQ33 hsafe H SF_ua
  have CR := CR.trans (CHr.keep KQ33 hsafe H)
  have H := H.keep KQ33 hsafe
  have hk := Nat.le_trans hk KQ33.1
  have V_ua := fo0_33
  have V_ma := fo1_33
  refine GoesW.pre (U' := T33.setTop (mkF m 191 #[.val (.long p1), .second, .val (.long p2), .second, .val (.int p3), .val (.int p4), .val (.ref ma), .val (.ref ua), .unset, .unset, .unset, .unset, .unset, .unset] [])) (fun t k => st33 t k) ?_
  obtain ⟨u10, hu10⟩ : ∃ z, z = own_dc dg10 := ⟨_, rfl⟩
  rw [← hu10] at V_ua V_ma
  obtain ⟨m10, hm10⟩ : ∃ z, z = own_mc u10 p4 (10 : Int32) := ⟨_, rfl⟩
  rw [← hm10] at V_ma
  have V_ma : Arv Z T33.heap ma k1 .char (26 : Int32) [(.int m0), (.int m1), (.int m2), (.int m3), (.int m4), (.int m5), (.int m6), (.int m7), (.int m8), (.int m9), (.int m10), (.int (0 : Int32)), (.int (0 : Int32)), (.int (0 : Int32)), (.int (0 : Int32)), (.int (0 : Int32)), (.int (0 : Int32)), (.int (0 : Int32)), (.int (0 : Int32)), (.int (0 : Int32)), (.int (0 : Int32)), (.int (0 : Int32)), (.int (0 : Int32)), (.int (0 : Int32)), (.int (0 : Int32)), (.int (0 : Int32))] (.int (0 : Int32)) := V_ma
  have V_ua : Arv Z T33.heap ua k2 .char (26 : Int32) [(.int u0), (.int u1), (.int u2), (.int u3), (.int u4), (.int u5), (.int u6), (.int u7), (.int u8), (.int u9), (.int u10), (.int (0 : Int32)), (.int (0 : Int32)), (.int (0 : Int32)), (.int (0 : Int32)), (.int (0 : Int32)), (.int (0 : Int32)), (.int (0 : Int32)), (.int (0 : Int32)), (.int (0 : Int32)), (.int (0 : Int32)), (.int (0 : Int32)), (.int (0 : Int32)), (.int (0 : Int32)), (.int (0 : Int32)), (.int (0 : Int32))] (.int (0 : Int32)) := V_ua
  refine GoesW.pre (U' := T33.setTop (mkF m 199 #[.val (.long p1), .second, .val (.long p2), .second, .val (.int p3), .val (.int p4), .val (.ref ma), .val (.ref ua), .unset, .unset, .unset, .unset, .unset, .unset] [(.int (0 : Int32)), (.long p1), (.int (11 : Int32)), (.ref ua), (.ref ma)])) (fun t k => XS.aload X33.here hx rfl (hb hby at_191) rfl rfl (XS.aload X33.here hx rfl (hb hby at_193) rfl rfl (XS.bipush X33.here hx rfl (hb hby at_195) (XS.lloadN X33.here hx rfl (hb hby at_197) rfl (XS.iconst X33.here hx rfl (hb hby at_198) k))))) ?_
  obtain ⟨_, _, ⟨T35, L35, k35, n35⟩, -, X35, ⟨Lc35, hQ35, l35, y35, z35⟩, st35⟩ := Jvm.LawKit.callS X33 hx (y := (⟨"com/example/known_paths/knownpaths/ulid/UlidParsePinLaw", "dig", "(JI)I"⟩ : MethodName)) hown (mvT hZ (wq hw 39 rfl)) (mvT hZ (wq hw 40 rfl)) (mvT hZ (wq hw 4 rfl)) (mvT hZ (wq hw 41 rfl)) (by decide) (backOf (W := 3) (rm_dig l Z a0 hw [] p1 (0 : Int32) T33.heap n0 Z34) hZ (wq hw 41 rfl) (wq hw 4 rfl) (by decide) (by decide)) (g := (mkF m 199 #[.val (.long p1), .second, .val (.long p2), .second, .val (.int p3), .val (.int p4), .val (.ref ma), .val (.ref ua), .unset, .unset, .unset, .unset, .unset, .unset] [(.int (0 : Int32)), (.long p1), (.int (11 : Int32)), (.ref ua), (.ref ma)])) rfl (by rw [hml]; rfl) (argsL := [(.long p1), (.int (0 : Int32))]) (rest := [(.int (11 : Int32)), (.ref ua), (.ref ma)]) (lenOf pd__28JI_29I rfl) rfl (by show 2 * 0 + _ ≤ _; exact Nat.le_of_eq rfl) (hb hby at_199) (fun _ _ => ⟨rfl, rfl, (by decide : 4 + 0 ≤ _), (by decide : 184 + 0 ≤ _)⟩)
  dsimp only [Pt.U, Pt.locs, Pt.cells, Pt.slots] at X35 l35 y35 z35 st35 hQ35
  rw [l35, y35, z35] at X35
  obtain ⟨rfl, N35q, HQ35⟩ := hQ35
  have N35 := Fr.app N33 N35q
  refine GoesW.pre (U' := T35.setTop (mkF m 204 #[.val (.long p1), .second, .val (.long p2), .second, .val (.int p3), .val (.int p4), .val (.ref ma), .val (.ref ua), .unset, .unset, .unset, .unset, .unset, .unset] [(.int p4), (.int (own_dig p1 (0 : Int32))), (.int (11 : Int32)), (.ref ua), (.ref ma)])) (fun t k => st35 t (XS.iload X35.here hx rfl (hb hby at_202) rfl k)) ?_
  obtain ⟨dg11, hdg11⟩ : ∃ z : Int32, z = (own_dig p1 (0 : Int32)) := ⟨_, rfl⟩
  rw [← hdg11]
  have bd11 : ¬ (dg11 < (0 : Int32)) ∧ dg11 < (32 : Int32) := by rw [hdg11]; exact own_digb _ _
  obtain ⟨_, _, ⟨T36, L36, k36, n36⟩, -, X36, ⟨Lc36, hQ36, l36, y36, z36⟩, st36⟩ := Jvm.LawKit.callS X35 hx (y := (⟨"com/example/known_paths/knownpaths/ulid/UlidParsePinLaw", "put", "([C[CIII)V"⟩ : MethodName)) hown (mvT hZ (wq hw 2 rfl)) (mvT hZ (wq hw 3 rfl)) (mvT hZ (wq hw 4 rfl)) (mvT hZ (wq hw 5 rfl)) (by decide) (own_backL (W := 0) (rm_putW l Z a0 hw [] ma ua k1 k2 ([(.int m0), (.int m1), (.int m2), (.int m3), (.int m4), (.int m5), (.int m6), (.int m7), (.int m8), (.int m9), (.int m10), (.int (0 : Int32)), (.int (0 : Int32)), (.int (0 : Int32)), (.int (0 : Int32)), (.int (0 : Int32)), (.int (0 : Int32)), (.int (0 : Int32)), (.int (0 : Int32)), (.int (0 : Int32)), (.int (0 : Int32)), (.int (0 : Int32)), (.int (0 : Int32)), (.int (0 : Int32)), (.int (0 : Int32)), (.int (0 : Int32))]) ([(.int u0), (.int u1), (.int u2), (.int u3), (.int u4), (.int u5), (.int u6), (.int u7), (.int u8), (.int u9), (.int u10), (.int (0 : Int32)), (.int (0 : Int32)), (.int (0 : Int32)), (.int (0 : Int32)), (.int (0 : Int32)), (.int (0 : Int32)), (.int (0 : Int32)), (.int (0 : Int32)), (.int (0 : Int32)), (.int (0 : Int32)), (.int (0 : Int32)), (.int (0 : Int32)), (.int (0 : Int32)), (.int (0 : Int32)), (.int (0 : Int32))]) 11 (11 : Int32) dg11 p4 cs sf la3 lb3 kl3 T33.heap n0 Z34 V_ma V_ua S_COMPACT_STRINGS S_SIOOBE_FORMATTER S_la3 (by decide) ⟨by decide, by decide⟩ (by decide) rfl rfl bd11.1 bd11.2 hcs hsf ne_ma_ua ne_ua_ma ne_la3_ma ne_lb3_ma ne_la3_ua ne_lb3_ua g_ma g_ua O) hZ (wq hw 5 rfl) (wq hw 4 rfl) (by decide) (by decide) Li_la3) (g := (mkF m 204 #[.val (.long p1), .second, .val (.long p2), .second, .val (.int p3), .val (.int p4), .val (.ref ma), .val (.ref ua), .unset, .unset, .unset, .unset, .unset, .unset] [(.int p4), (.int dg11), (.int (11 : Int32)), (.ref ua), (.ref ma)])) rfl (by rw [hml]; rfl) (argsL := [(.ref ma), (.ref ua), (.int (11 : Int32)), (.int dg11), (.int p4)]) (rest := []) (lenOf pd__28_5bC_5bCIII_29V rfl) rfl (by show 2 * 0 + _ ≤ _; exact Nat.le_of_eq rfl) (hb hby at_204) (fun _ _ => ⟨rfl, HQ35, (by decide : 4 + 0 ≤ _), (by decide : 184 + 0 ≤ _)⟩)
  dsimp only [Pt.U, Pt.locs, Pt.cells, Pt.slots] at X36 l36 y36 z36 st36 hQ36
  rw [l36, y36, z36] at X36
  obtain ⟨rfl, N36q, KQ36, fo0_36, fo1_36⟩ := hQ36
  have N36 := Fr.app N35 N36q
  have E_ma := E_ma.keep KQ36
  have E_ua := E_ua.keep KQ36
  have S_la3 := S_la3.keep KQ36 (ninS ne_la3_ma (ninS ne_la3_ua nin0)) (ninS ne_lb3_ma (ninS ne_lb3_ua nin0))
  have Z37 : n0 ≤ T36.heap.size := Nat.le_trans Z34 KQ36.1
  have O := O.keep KQ36 (allS (P := fun x => n0 ≤ x) g_ma (allS (P := fun x => n0 ≤ x) g_ua all0))
  have hsafe := (allS (P := fun x => Safe Z own_EL T3.vm _ x) SF_ma (allS (P := fun x => Safe Z own_EL T3.vm _ x) SF_ua all0))
  have SF_ma := Safe.keep KQ36 hsafe H SF_ma
  have SF_ua := Safe.keep KQ36 hsafe H SF_ua
  have CR := CR.trans (CHr.keep KQ36 hsafe H)
  have H := H.keep KQ36 hsafe
  have hk := Nat.le_trans hk KQ36.1
  have V_ua := fo0_36
  have V_ma := fo1_36
  refine GoesW.pre (U' := T36.setTop (mkF m 207 #[.val (.long p1), .second, .val (.long p2), .second, .val (.int p3), .val (.int p4), .val (.ref ma), .val (.ref ua), .unset, .unset, .unset, .unset, .unset, .unset] [])) (fun t k => st36 t k) ?_
  obtain ⟨u11, hu11⟩ : ∃ z, z = own_dc dg11 := ⟨_, rfl⟩
  rw [← hu11] at V_ua V_ma
  obtain ⟨m11, hm11⟩ : ∃ z, z = own_mc u11 p4 (11 : Int32) := ⟨_, rfl⟩
  rw [← hm11] at V_ma
  have V_ma : Arv Z T36.heap ma k1 .char (26 : Int32) [(.int m0), (.int m1), (.int m2), (.int m3), (.int m4), (.int m5), (.int m6), (.int m7), (.int m8), (.int m9), (.int m10), (.int m11), (.int (0 : Int32)), (.int (0 : Int32)), (.int (0 : Int32)), (.int (0 : Int32)), (.int (0 : Int32)), (.int (0 : Int32)), (.int (0 : Int32)), (.int (0 : Int32)), (.int (0 : Int32)), (.int (0 : Int32)), (.int (0 : Int32)), (.int (0 : Int32)), (.int (0 : Int32)), (.int (0 : Int32))] (.int (0 : Int32)) := V_ma
  have V_ua : Arv Z T36.heap ua k2 .char (26 : Int32) [(.int u0), (.int u1), (.int u2), (.int u3), (.int u4), (.int u5), (.int u6), (.int u7), (.int u8), (.int u9), (.int u10), (.int u11), (.int (0 : Int32)), (.int (0 : Int32)), (.int (0 : Int32)), (.int (0 : Int32)), (.int (0 : Int32)), (.int (0 : Int32)), (.int (0 : Int32)), (.int (0 : Int32)), (.int (0 : Int32)), (.int (0 : Int32)), (.int (0 : Int32)), (.int (0 : Int32)), (.int (0 : Int32)), (.int (0 : Int32))] (.int (0 : Int32)) := V_ua
  refine GoesW.pre (U' := T36.setTop (mkF m 216 #[.val (.long p1), .second, .val (.long p2), .second, .val (.int p3), .val (.int p4), .val (.ref ma), .val (.ref ua), .unset, .unset, .unset, .unset, .unset, .unset] [(.int (11 : Int32)), (.long p2), (.int (12 : Int32)), (.ref ua), (.ref ma)])) (fun t k => XS.aload X36.here hx rfl (hb hby at_207) rfl rfl (XS.aload X36.here hx rfl (hb hby at_209) rfl rfl (XS.bipush X36.here hx rfl (hb hby at_211) (XS.lloadN X36.here hx rfl (hb hby at_213) rfl (XS.bipush X36.here hx rfl (hb hby at_214) k))))) ?_
  obtain ⟨_, _, ⟨T38, L38, k38, n38⟩, -, X38, ⟨Lc38, hQ38, l38, y38, z38⟩, st38⟩ := Jvm.LawKit.callS X36 hx (y := (⟨"com/example/known_paths/knownpaths/ulid/UlidParsePinLaw", "dig", "(JI)I"⟩ : MethodName)) hown (mvT hZ (wq hw 39 rfl)) (mvT hZ (wq hw 40 rfl)) (mvT hZ (wq hw 4 rfl)) (mvT hZ (wq hw 41 rfl)) (by decide) (backOf (W := 3) (rm_dig l Z a0 hw [] p2 (11 : Int32) T36.heap n0 Z37) hZ (wq hw 41 rfl) (wq hw 4 rfl) (by decide) (by decide)) (g := (mkF m 216 #[.val (.long p1), .second, .val (.long p2), .second, .val (.int p3), .val (.int p4), .val (.ref ma), .val (.ref ua), .unset, .unset, .unset, .unset, .unset, .unset] [(.int (11 : Int32)), (.long p2), (.int (12 : Int32)), (.ref ua), (.ref ma)])) rfl (by rw [hml]; rfl) (argsL := [(.long p2), (.int (11 : Int32))]) (rest := [(.int (12 : Int32)), (.ref ua), (.ref ma)]) (lenOf pd__28JI_29I rfl) rfl (by show 2 * 0 + _ ≤ _; exact Nat.le_of_eq rfl) (hb hby at_216) (fun _ _ => ⟨rfl, rfl, (by decide : 4 + 0 ≤ _), (by decide : 184 + 0 ≤ _)⟩)
  dsimp only [Pt.U, Pt.locs, Pt.cells, Pt.slots] at X38 l38 y38 z38 st38 hQ38
  rw [l38, y38, z38] at X38
  obtain ⟨rfl, N38q, HQ38⟩ := hQ38
  have N38 := Fr.app N36 N38q
  refine GoesW.pre (U' := T38.setTop (mkF m 221 #[.val (.long p1), .second, .val (.long p2), .second, .val (.int p3), .val (.int p4), .val (.ref ma), .val (.ref ua), .unset, .unset, .unset, .unset, .unset, .unset] [(.int p4), (.int (own_dig p2 (11 : Int32))), (.int (12 : Int32)), (.ref ua), (.ref ma)])) (fun t k => st38 t (XS.iload X38.here hx rfl (hb hby at_219) rfl k)) ?_
  obtain ⟨dg12, hdg12⟩ : ∃ z : Int32, z = (own_dig p2 (11 : Int32)) := ⟨_, rfl⟩
  rw [← hdg12]
  have bd12 : ¬ (dg12 < (0 : Int32)) ∧ dg12 < (32 : Int32) := by rw [hdg12]; exact own_digb _ _
  obtain ⟨_, _, ⟨T39, L39, k39, n39⟩, -, X39, ⟨Lc39, hQ39, l39, y39, z39⟩, st39⟩ := Jvm.LawKit.callS X38 hx (y := (⟨"com/example/known_paths/knownpaths/ulid/UlidParsePinLaw", "put", "([C[CIII)V"⟩ : MethodName)) hown (mvT hZ (wq hw 2 rfl)) (mvT hZ (wq hw 3 rfl)) (mvT hZ (wq hw 4 rfl)) (mvT hZ (wq hw 5 rfl)) (by decide) (own_backL (W := 0) (rm_putW l Z a0 hw [] ma ua k1 k2 ([(.int m0), (.int m1), (.int m2), (.int m3), (.int m4), (.int m5), (.int m6), (.int m7), (.int m8), (.int m9), (.int m10), (.int m11), (.int (0 : Int32)), (.int (0 : Int32)), (.int (0 : Int32)), (.int (0 : Int32)), (.int (0 : Int32)), (.int (0 : Int32)), (.int (0 : Int32)), (.int (0 : Int32)), (.int (0 : Int32)), (.int (0 : Int32)), (.int (0 : Int32)), (.int (0 : Int32)), (.int (0 : Int32)), (.int (0 : Int32))]) ([(.int u0), (.int u1), (.int u2), (.int u3), (.int u4), (.int u5), (.int u6), (.int u7), (.int u8), (.int u9), (.int u10), (.int u11), (.int (0 : Int32)), (.int (0 : Int32)), (.int (0 : Int32)), (.int (0 : Int32)), (.int (0 : Int32)), (.int (0 : Int32)), (.int (0 : Int32)), (.int (0 : Int32)), (.int (0 : Int32)), (.int (0 : Int32)), (.int (0 : Int32)), (.int (0 : Int32)), (.int (0 : Int32)), (.int (0 : Int32))]) 12 (12 : Int32) dg12 p4 cs sf la3 lb3 kl3 T36.heap n0 Z37 V_ma V_ua S_COMPACT_STRINGS S_SIOOBE_FORMATTER S_la3 (by decide) ⟨by decide, by decide⟩ (by decide) rfl rfl bd12.1 bd12.2 hcs hsf ne_ma_ua ne_ua_ma ne_la3_ma ne_lb3_ma ne_la3_ua ne_lb3_ua g_ma g_ua O) hZ (wq hw 5 rfl) (wq hw 4 rfl) (by decide) (by decide) Li_la3) (g := (mkF m 221 #[.val (.long p1), .second, .val (.long p2), .second, .val (.int p3), .val (.int p4), .val (.ref ma), .val (.ref ua), .unset, .unset, .unset, .unset, .unset, .unset] [(.int p4), (.int dg12), (.int (12 : Int32)), (.ref ua), (.ref ma)])) rfl (by rw [hml]; rfl) (argsL := [(.ref ma), (.ref ua), (.int (12 : Int32)), (.int dg12), (.int p4)]) (rest := []) (lenOf pd__28_5bC_5bCIII_29V rfl) rfl (by show 2 * 0 + _ ≤ _; exact Nat.le_of_eq rfl) (hb hby at_221) (fun _ _ => ⟨rfl, HQ38, (by decide : 4 + 0 ≤ _), (by decide : 184 + 0 ≤ _)⟩)
  dsimp only [Pt.U, Pt.locs, Pt.cells, Pt.slots] at X39 l39 y39 z39 st39 hQ39
  rw [l39, y39, z39] at X39
  obtain ⟨rfl, N39q, KQ39, fo0_39, fo1_39⟩ := hQ39
  have N39 := Fr.app N38 N39q
  have E_ma := E_ma.keep KQ39
  have E_ua := E_ua.keep KQ39
  have S_la3 := S_la3.keep KQ39 (ninS ne_la3_ma (ninS ne_la3_ua nin0)) (ninS ne_lb3_ma (ninS ne_lb3_ua nin0))
  have Z40 : n0 ≤ T39.heap.size := Nat.le_trans Z37 KQ39.1
  have O := O.keep KQ39 (allS (P := fun x => n0 ≤ x) g_ma (allS (P := fun x => n0 ≤ x) g_ua all0))
  have hsafe := (allS (P := fun x => Safe Z own_EL T3.vm _ x) SF_ma (allS (P := fun x => Safe Z own_EL T3.vm _ x) SF_ua all0))
  have SF_ma := Safe.keep KQ39 hsafe H SF_ma
  have SF_ua := Safe.keep KQ39 hsafe H SF_ua
  have CR := CR.trans (CHr.keep KQ39 hsafe H)
  have H := H.keep KQ39 hsafe
  have hk := Nat.le_trans hk KQ39.1
  have V_ua := fo0_39
  have V_ma := fo1_39
  refine GoesW.pre (U' := T39.setTop (mkF m 224 #[.val (.long p1), .second, .val (.long p2), .second, .val (.int p3), .val (.int p4), .val (.ref ma), .val (.ref ua), .unset, .unset, .unset, .unset, .unset, .unset] [])) (fun t k => st39 t k) ?_
  obtain ⟨u12, hu12⟩ : ∃ z, z = own_dc dg12 := ⟨_, rfl⟩
  rw [← hu12] at V_ua V_ma
  obtain ⟨m12, hm12⟩ : ∃ z, z = own_mc u12 p4 (12 : Int32) := ⟨_, rfl⟩
  rw [← hm12] at V_ma
  have V_ma : Arv Z T39.heap ma k1 .char (26 : Int32) [(.int m0), (.int m1), (.int m2), (.int m3), (.int m4), (.int m5), (.int m6), (.int m7), (.int m8), (.int m9), (.int m10), (.int m11), (.int m12), (.int (0 : Int32)), (.int (0 : Int32)), (.int (0 : Int32)), (.int (0 : Int32)), (.int (0 : Int32)), (.int (0 : Int32)), (.int (0 : Int32)), (.int (0 : Int32)), (.int (0 : Int32)), (.int (0 : Int32)), (.int (0 : Int32)), (.int (0 : Int32)), (.int (0 : Int32))] (.int (0 : Int32)) := V_ma
  have V_ua : Arv Z T39.heap ua k2 .char (26 : Int32) [(.int u0), (.int u1), (.int u2), (.int u3), (.int u4), (.int u5), (.int u6), (.int u7), (.int u8), (.int u9), (.int u10), (.int u11), (.int u12), (.int (0 : Int32)), (.int (0 : Int32)), (.int (0 : Int32)), (.int (0 : Int32)), (.int (0 : Int32)), (.int (0 : Int32)), (.int (0 : Int32)), (.int (0 : Int32)), (.int (0 : Int32)), (.int (0 : Int32)), (.int (0 : Int32)), (.int (0 : Int32)), (.int (0 : Int32))] (.int (0 : Int32)) := V_ua
  refine GoesW.pre (U' := T39.setTop (mkF m 233 #[.val (.long p1), .second, .val (.long p2), .second, .val (.int p3), .val (.int p4), .val (.ref ma), .val (.ref ua), .unset, .unset, .unset, .unset, .unset, .unset] [(.int (10 : Int32)), (.long p2), (.int (13 : Int32)), (.ref ua), (.ref ma)])) (fun t k => XS.aload X39.here hx rfl (hb hby at_224) rfl rfl (XS.aload X39.here hx rfl (hb hby at_226) rfl rfl (XS.bipush X39.here hx rfl (hb hby at_228) (XS.lloadN X39.here hx rfl (hb hby at_230) rfl (XS.bipush X39.here hx rfl (hb hby at_231) k))))) ?_
  obtain ⟨_, _, ⟨T41, L41, k41, n41⟩, -, X41, ⟨Lc41, hQ41, l41, y41, z41⟩, st41⟩ := Jvm.LawKit.callS X39 hx (y := (⟨"com/example/known_paths/knownpaths/ulid/UlidParsePinLaw", "dig", "(JI)I"⟩ : MethodName)) hown (mvT hZ (wq hw 39 rfl)) (mvT hZ (wq hw 40 rfl)) (mvT hZ (wq hw 4 rfl)) (mvT hZ (wq hw 41 rfl)) (by decide) (backOf (W := 3) (rm_dig l Z a0 hw [] p2 (10 : Int32) T39.heap n0 Z40) hZ (wq hw 41 rfl) (wq hw 4 rfl) (by decide) (by decide)) (g := (mkF m 233 #[.val (.long p1), .second, .val (.long p2), .second, .val (.int p3), .val (.int p4), .val (.ref ma), .val (.ref ua), .unset, .unset, .unset, .unset, .unset, .unset] [(.int (10 : Int32)), (.long p2), (.int (13 : Int32)), (.ref ua), (.ref ma)])) rfl (by rw [hml]; rfl) (argsL := [(.long p2), (.int (10 : Int32))]) (rest := [(.int (13 : Int32)), (.ref ua), (.ref ma)]) (lenOf pd__28JI_29I rfl) rfl (by show 2 * 0 + _ ≤ _; exact Nat.le_of_eq rfl) (hb hby at_233) (fun _ _ => ⟨rfl, rfl, (by decide : 4 + 0 ≤ _), (by decide : 184 + 0 ≤ _)⟩)
  dsimp only [Pt.U, Pt.locs, Pt.cells, Pt.slots] at X41 l41 y41 z41 st41 hQ41
  rw [l41, y41, z41] at X41
  obtain ⟨rfl, N41q, HQ41⟩ := hQ41
  have N41 := Fr.app N39 N41q
  refine GoesW.pre (U' := T41.setTop (mkF m 238 #[.val (.long p1), .second, .val (.long p2), .second, .val (.int p3), .val (.int p4), .val (.ref ma), .val (.ref ua), .unset, .unset, .unset, .unset, .unset, .unset] [(.int p4), (.int (own_dig p2 (10 : Int32))), (.int (13 : Int32)), (.ref ua), (.ref ma)])) (fun t k => st41 t (XS.iload X41.here hx rfl (hb hby at_236) rfl k)) ?_
  obtain ⟨dg13, hdg13⟩ : ∃ z : Int32, z = (own_dig p2 (10 : Int32)) := ⟨_, rfl⟩
  rw [← hdg13]
  have bd13 : ¬ (dg13 < (0 : Int32)) ∧ dg13 < (32 : Int32) := by rw [hdg13]; exact own_digb _ _
  obtain ⟨_, _, ⟨T42, L42, k42, n42⟩, -, X42, ⟨Lc42, hQ42, l42, y42, z42⟩, st42⟩ := Jvm.LawKit.callS X41 hx (y := (⟨"com/example/known_paths/knownpaths/ulid/UlidParsePinLaw", "put", "([C[CIII)V"⟩ : MethodName)) hown (mvT hZ (wq hw 2 rfl)) (mvT hZ (wq hw 3 rfl)) (mvT hZ (wq hw 4 rfl)) (mvT hZ (wq hw 5 rfl)) (by decide) (own_backL (W := 0) (rm_putW l Z a0 hw [] ma ua k1 k2 ([(.int m0), (.int m1), (.int m2), (.int m3), (.int m4), (.int m5), (.int m6), (.int m7), (.int m8), (.int m9), (.int m10), (.int m11), (.int m12), (.int (0 : Int32)), (.int (0 : Int32)), (.int (0 : Int32)), (.int (0 : Int32)), (.int (0 : Int32)), (.int (0 : Int32)), (.int (0 : Int32)), (.int (0 : Int32)), (.int (0 : Int32)), (.int (0 : Int32)), (.int (0 : Int32)), (.int (0 : Int32)), (.int (0 : Int32))]) ([(.int u0), (.int u1), (.int u2), (.int u3), (.int u4), (.int u5), (.int u6), (.int u7), (.int u8), (.int u9), (.int u10), (.int u11), (.int u12), (.int (0 : Int32)), (.int (0 : Int32)), (.int (0 : Int32)), (.int (0 : Int32)), (.int (0 : Int32)), (.int (0 : Int32)), (.int (0 : Int32)), (.int (0 : Int32)), (.int (0 : Int32)), (.int (0 : Int32)), (.int (0 : Int32)), (.int (0 : Int32)), (.int (0 : Int32))]) 13 (13 : Int32) dg13 p4 cs sf la3 lb3 kl3 T39.heap n0 Z40 V_ma V_ua S_COMPACT_STRINGS S_SIOOBE_FORMATTER S_la3 (by decide) ⟨by decide, by decide⟩ (by decide) rfl rfl bd13.1 bd13.2 hcs hsf ne_ma_ua ne_ua_ma ne_la3_ma ne_lb3_ma ne_la3_ua ne_lb3_ua g_ma g_ua O) hZ (wq hw 5 rfl) (wq hw 4 rfl) (by decide) (by decide) Li_la3) (g := (mkF m 238 #[.val (.long p1), .second, .val (.long p2), .second, .val (.int p3), .val (.int p4), .val (.ref ma), .val (.ref ua), .unset, .unset, .unset, .unset, .unset, .unset] [(.int p4), (.int dg13), (.int (13 : Int32)), (.ref ua), (.ref ma)])) rfl (by rw [hml]; rfl) (argsL := [(.ref ma), (.ref ua), (.int (13 : Int32)), (.int dg13), (.int p4)]) (rest := []) (lenOf pd__28_5bC_5bCIII_29V rfl) rfl (by show 2 * 0 + _ ≤ _; exact Nat.le_of_eq rfl) (hb hby at_238) (fun _ _ => ⟨rfl, HQ41, (by decide : 4 + 0 ≤ _), (by decide : 184 + 0 ≤ _)⟩)
  dsimp only [Pt.U, Pt.locs, Pt.cells, Pt.slots] at X42 l42 y42 z42 st42 hQ42
  rw [l42, y42, z42] at X42
  obtain ⟨rfl, N42q, KQ42, fo0_42, fo1_42⟩ := hQ42
  have N42 := Fr.app N41 N42q
  have E_ma := E_ma.keep KQ42
  have E_ua := E_ua.keep KQ42
  have S_la3 := S_la3.keep KQ42 (ninS ne_la3_ma (ninS ne_la3_ua nin0)) (ninS ne_lb3_ma (ninS ne_lb3_ua nin0))
  have Z43 : n0 ≤ T42.heap.size := Nat.le_trans Z40 KQ42.1
  have O := O.keep KQ42 (allS (P := fun x => n0 ≤ x) g_ma (allS (P := fun x => n0 ≤ x) g_ua all0))
  have hsafe := (allS (P := fun x => Safe Z own_EL T3.vm _ x) SF_ma (allS (P := fun x => Safe Z own_EL T3.vm _ x) SF_ua all0))
  have SF_ma := Safe.keep KQ42 hsafe H SF_ma
  have SF_ua := Safe.keep KQ42 hsafe H SF_ua
  have CR := CR.trans (CHr.keep KQ42 hsafe H)
  have H := H.keep KQ42 hsafe
  have hk := Nat.le_trans hk KQ42.1
  have V_ua := fo0_42
  have V_ma := fo1_42
  refine GoesW.pre (U' := T42.setTop (mkF m 241 #[.val (.long p1), .second, .val (.long p2), .second, .val (.int p3), .val (.int p4), .val (.ref ma), .val (.ref ua), .unset, .unset, .unset, .unset, .unset, .unset] [])) (fun t k => st42 t k) ?_
  obtain ⟨u13, hu13⟩ : ∃ z, z = own_dc dg13 := ⟨_, rfl⟩
  rw [← hu13] at V_ua V_ma
  obtain ⟨m13, hm13⟩ : ∃ z, z = own_mc u13 p4 (13 : Int32) := ⟨_, rfl⟩
  rw [← hm13] at V_ma
  have V_ma : Arv Z T42.heap ma k1 .char (26 : Int32) [(.int m0), (.int m1), (.int m2), (.int m3), (.int m4), (.int m5), (.int m6), (.int m7), (.int m8), (.int m9), (.int m10), (.int m11), (.int m12), (.int m13), (.int (0 : Int32)), (.int (0 : Int32)), (.int (0 : Int32)), (.int (0 : Int32)), (.int (0 : Int32)), (.int (0 : Int32)), (.int (0 : Int32)), (.int (0 : Int32)), (.int (0 : Int32)), (.int (0 : Int32)), (.int (0 : Int32)), (.int (0 : Int32))] (.int (0 : Int32)) := V_ma
  have V_ua : Arv Z T42.heap ua k2 .char (26 : Int32) [(.int u0), (.int u1), (.int u2), (.int u3), (.int u4), (.int u5), (.int u6), (.int u7), (.int u8), (.int u9), (.int u10), (.int u11), (.int u12), (.int u13), (.int (0 : Int32)), (.int (0 : Int32)), (.int (0 : Int32)), (.int (0 : Int32)), (.int (0 : Int32)), (.int (0 : Int32)), (.int (0 : Int32)), (.int (0 : Int32)), (.int (0 : Int32)), (.int (0 : Int32)), (.int (0 : Int32)), (.int (0 : Int32))] (.int (0 : Int32)) := V_ua
  refine GoesW.pre (U' := T42.setTop (mkF m 250 #[.val (.long p1), .second, .val (.long p2), .second, .val (.int p3), .val (.int p4), .val (.ref ma), .val (.ref ua), .unset, .unset, .unset, .unset, .unset, .unset] [(.int (9 : Int32)), (.long p2), (.int (14 : Int32)), (.ref ua), (.ref ma)])) (fun t k => XS.aload X42.here hx rfl (hb hby at_241) rfl rfl (XS.aload X42.here hx rfl (hb hby at_243) rfl rfl (XS.bipush X42.here hx rfl (hb hby at_245) (XS.lloadN X42.here hx rfl (hb hby at_247) rfl (XS.bipush X42.here hx rfl (hb hby at_248) k))))) ?_
  obtain ⟨_, _, ⟨T44, L44, k44, n44⟩, -, X44, ⟨Lc44, hQ44, l44, y44, z44⟩, st44⟩ := Jvm.LawKit.callS X42 hx (y := (⟨"com/example/known_paths/knownpaths/ulid/UlidParsePinLaw", "dig", "(JI)I"⟩ : MethodName)) hown (mvT hZ (wq hw 39 rfl)) (mvT hZ (wq hw 40 rfl)) (mvT hZ (wq hw 4 rfl)) (mvT hZ (wq hw 41 rfl)) (by decide) (backOf (W := 3) (rm_dig l Z a0 hw [] p2 (9 : Int32) T42.heap n0 Z43) hZ (wq hw 41 rfl) (wq hw 4 rfl) (by decide) (by decide)) (g := (mkF m 250 #[.val (.long p1), .second, .val (.long p2), .second, .val (.int p3), .val (.int p4), .val (.ref ma), .val (.ref ua), .unset, .unset, .unset, .unset, .unset, .unset] [(.int (9 : Int32)), (.long p2), (.int (14 : Int32)), (.ref ua), (.ref ma)])) rfl (by rw [hml]; rfl) (argsL := [(.long p2), (.int (9 : Int32))]) (rest := [(.int (14 : Int32)), (.ref ua), (.ref ma)]) (lenOf pd__28JI_29I rfl) rfl (by show 2 * 0 + _ ≤ _; exact Nat.le_of_eq rfl) (hb hby at_250) (fun _ _ => ⟨rfl, rfl, (by decide : 4 + 0 ≤ _), (by decide : 184 + 0 ≤ _)⟩)
  dsimp only [Pt.U, Pt.locs, Pt.cells, Pt.slots] at X44 l44 y44 z44 st44 hQ44
  rw [l44, y44, z44] at X44
  obtain ⟨rfl, N44q, HQ44⟩ := hQ44
  have N44 := Fr.app N42 N44q
  refine GoesW.pre (U' := T44.setTop (mkF m 255 #[.val (.long p1), .second, .val (.long p2), .second, .val (.int p3), .val (.int p4), .val (.ref ma), .val (.ref ua), .unset, .unset, .unset, .unset, .unset, .unset] [(.int p4), (.int (own_dig p2 (9 : Int32))), (.int (14 : Int32)), (.ref ua), (.ref ma)])) (fun t k => st44 t (XS.iload X44.here hx rfl (hb hby at_253) rfl k)) ?_
  obtain ⟨dg14, hdg14⟩ : ∃ z : Int32, z = (own_dig p2 (9 : Int32)) := ⟨_, rfl⟩
  rw [← hdg14]
  have bd14 : ¬ (dg14 < (0 : Int32)) ∧ dg14 < (32 : Int32) := by rw [hdg14]; exact own_digb _ _
  obtain ⟨_, _, ⟨T45, L45, k45, n45⟩, -, X45, ⟨Lc45, hQ45, l45, y45, z45⟩, st45⟩ := Jvm.LawKit.callS X44 hx (y := (⟨"com/example/known_paths/knownpaths/ulid/UlidParsePinLaw", "put", "([C[CIII)V"⟩ : MethodName)) hown (mvT hZ (wq hw 2 rfl)) (mvT hZ (wq hw 3 rfl)) (mvT hZ (wq hw 4 rfl)) (mvT hZ (wq hw 5 rfl)) (by decide) (own_backL (W := 0) (rm_putW l Z a0 hw [] ma ua k1 k2 ([(.int m0), (.int m1), (.int m2), (.int m3), (.int m4), (.int m5), (.int m6), (.int m7), (.int m8), (.int m9), (.int m10), (.int m11), (.int m12), (.int m13), (.int (0 : Int32)), (.int (0 : Int32)), (.int (0 : Int32)), (.int (0 : Int32)), (.int (0 : Int32)), (.int (0 : Int32)), (.int (0 : Int32)), (.int (0 : Int32)), (.int (0 : Int32)), (.int (0 : Int32)), (.int (0 : Int32)), (.int (0 : Int32))]) ([(.int u0), (.int u1), (.int u2), (.int u3), (.int u4), (.int u5), (.int u6), (.int u7), (.int u8), (.int u9), (.int u10), (.int u11), (.int u12), (.int u13), (.int (0 : Int32)), (.int (0 : Int32)), (.int (0 : Int32)), (.int (0 : Int32)), (.int (0 : Int32)), (.int (0 : Int32)), (.int (0 : Int32)), (.int (0 : Int32)), (.int (0 : Int32)), (.int (0 : Int32)), (.int (0 : Int32)), (.int (0 : Int32))]) 14 (14 : Int32) dg14 p4 cs sf la3 lb3 kl3 T42.heap n0 Z43 V_ma V_ua S_COMPACT_STRINGS S_SIOOBE_FORMATTER S_la3 (by decide) ⟨by decide, by decide⟩ (by decide) rfl rfl bd14.1 bd14.2 hcs hsf ne_ma_ua ne_ua_ma ne_la3_ma ne_lb3_ma ne_la3_ua ne_lb3_ua g_ma g_ua O) hZ (wq hw 5 rfl) (wq hw 4 rfl) (by decide) (by decide) Li_la3) (g := (mkF m 255 #[.val (.long p1), .second, .val (.long p2), .second, .val (.int p3), .val (.int p4), .val (.ref ma), .val (.ref ua), .unset, .unset, .unset, .unset, .unset, .unset] [(.int p4), (.int dg14), (.int (14 : Int32)), (.ref ua), (.ref ma)])) rfl (by rw [hml]; rfl) (argsL := [(.ref ma), (.ref ua), (.int (14 : Int32)), (.int dg14), (.int p4)]) (rest := []) (lenOf pd__28_5bC_5bCIII_29V rfl) rfl (by show 2 * 0 + _ ≤ _; exact Nat.le_of_eq rfl) (hb hby at_255) (fun _ _ => ⟨rfl, HQ44, (by decide : 4 + 0 ≤ _), (by decide : 184 + 0 ≤ _)⟩)
  dsimp only [Pt.U, Pt.locs, Pt.cells, Pt.slots] at X45 l45 y45 z45 st45 hQ45
  rw [l45, y45, z45] at X45
  obtain ⟨rfl, N45q, KQ45, fo0_45, fo1_45⟩ := hQ45
  have N45 := Fr.app N44 N45q
  have E_ma := E_ma.keep KQ45
  have E_ua := E_ua.keep KQ45
  have S_la3 := S_la3.keep KQ45 (ninS ne_la3_ma (ninS ne_la3_ua nin0)) (ninS ne_lb3_ma (ninS ne_lb3_ua nin0))
  have Z46 : n0 ≤ T45.heap.size := Nat.le_trans Z43 KQ45.1
  have O := O.keep KQ45 (allS (P := fun x => n0 ≤ x) g_ma (allS (P := fun x => n0 ≤ x) g_ua all0))
  have hsafe := (allS (P := fun x => Safe Z own_EL T3.vm _ x) SF_ma (allS (P := fun x => Safe Z own_EL T3.vm _ x) SF_ua all0))
  have SF_ma := Safe.keep KQ45 hsafe H SF_ma
  have SF_ua := Safe.keep KQ45 hsafe H SF_ua
  have CR := CR.trans (CHr.keep KQ45 hsafe H)
  have H := H.keep KQ45 hsafe
  have hk := Nat.le_trans hk KQ45.1
  have V_ua := fo0_45
  have V_ma := fo1_45
  refine GoesW.pre (U' := T45.setTop (mkF m 258 #[.val (.long p1), .second, .val (.long p2), .second, .val (.int p3), .val (.int p4), .val (.ref ma), .val (.ref ua), .unset, .unset, .unset, .unset, .unset, .unset] [])) (fun t k => st45 t k) ?_
  obtain ⟨u14, hu14⟩ : ∃ z, z = own_dc dg14 := ⟨_, rfl⟩
  rw [← hu14] at V_ua V_ma
  obtain ⟨m14, hm14⟩ : ∃ z, z = own_mc u14 p4 (14 : Int32) := ⟨_, rfl⟩
  rw [← hm14] at V_ma
  have V_ma : Arv Z T45.heap ma k1 .char (26 : Int32) [(.int m0), (.int m1), (.int m2), (.int m3), (.int m4), (.int m5), (.int m6), (.int m7), (.int m8), (.int m9), (.int m10), (.int m11), (.int m12), (.int m13), (.int m14), (.int (0 : Int32)), (.int (0 : Int32)), (.int (0 : Int32)), (.int (0 : Int32)), (.int (0 : Int32)), (.int (0 : Int32)), (.int (0 : Int32)), (.int (0 : Int32)), (.int (0 : Int32)), (.int (0 : Int32)), (.int (0 : Int32))] (.int (0 : Int32)) := V_ma
  have V_ua : Arv Z T45.heap ua k2 .char (26 : Int32) [(.int u0), (.int u1), (.int u2), (.int u3), (.int u4), (.int u5), (.int u6), (.int u7), (.int u8), (.int u9), (.int u10), (.int u11), (.int u12), (.int u13), (.int u14), (.int (0 : Int32)), (.int (0 : Int32)), (.int (0 : Int32)), (.int (0 : Int32)), (.int (0 : Int32)), (.int (0 : Int32)), (.int (0 : Int32)), (.int (0 : Int32)), (.int (0 : Int32)), (.int (0 : Int32)), (.int (0 : Int32))] (.int (0 : Int32)) := V_ua
  refine GoesW.pre (U' := T45.setTop (mkF m 267 #[.val (.long p1), .second, .val (.long p2), .second, .val (.int p3), .val (.int p4), .val (.ref ma), .val (.ref ua), .unset, .unset, .unset, .unset, .unset, .unset] [(.int (8 : Int32)), (.long p2), (.int (15 : Int32)), (.ref ua), (.ref ma)])) (fun t k => XS.aload X45.here hx rfl (hb hby at_258) rfl rfl (XS.aload X45.here hx rfl (hb hby at_260) rfl rfl (XS.bipush X45.here hx rfl (hb hby at_262) (XS.lloadN X45.here hx rfl (hb hby at_264) rfl (XS.bipush X45.here hx rfl (hb hby at_265) k))))) ?_
  obtain ⟨_, _, ⟨T47, L47, k47, n47⟩, -, X47, ⟨Lc47, hQ47, l47, y47, z47⟩, st47⟩ := Jvm.LawKit.callS X45 hx (y := (⟨"com/example/known_paths/knownpaths/ulid/UlidParsePinLaw", "dig", "(JI)I"⟩ : MethodName)) hown (mvT hZ (wq hw 39 rfl)) (mvT hZ (wq hw 40 rfl)) (mvT hZ (wq hw 4 rfl)) (mvT hZ (wq hw 41 rfl)) (by decide) (backOf (W := 3) (rm_dig l Z a0 hw [] p2 (8 : Int32) T45.heap n0 Z46) hZ (wq hw 41 rfl) (wq hw 4 rfl) (by decide) (by decide)) (g := (mkF m 267 #[.val (.long p1), .second, .val (.long p2), .second, .val (.int p3), .val (.int p4), .val (.ref ma), .val (.ref ua), .unset, .unset, .unset, .unset, .unset, .unset] [(.int (8 : Int32)), (.long p2), (.int (15 : Int32)), (.ref ua), (.ref ma)])) rfl (by rw [hml]; rfl) (argsL := [(.long p2), (.int (8 : Int32))]) (rest := [(.int (15 : Int32)), (.ref ua), (.ref ma)]) (lenOf pd__28JI_29I rfl) rfl (by show 2 * 0 + _ ≤ _; exact Nat.le_of_eq rfl) (hb hby at_267) (fun _ _ => ⟨rfl, rfl, (by decide : 4 + 0 ≤ _), (by decide : 184 + 0 ≤ _)⟩)
  dsimp only [Pt.U, Pt.locs, Pt.cells, Pt.slots] at X47 l47 y47 z47 st47 hQ47
  rw [l47, y47, z47] at X47
  obtain ⟨rfl, N47q, HQ47⟩ := hQ47
  have N47 := Fr.app N45 N47q
  refine GoesW.pre (U' := T47.setTop (mkF m 272 #[.val (.long p1), .second, .val (.long p2), .second, .val (.int p3), .val (.int p4), .val (.ref ma), .val (.ref ua), .unset, .unset, .unset, .unset, .unset, .unset] [(.int p4), (.int (own_dig p2 (8 : Int32))), (.int (15 : Int32)), (.ref ua), (.ref ma)])) (fun t k => st47 t (XS.iload X47.here hx rfl (hb hby at_270) rfl k)) ?_
  obtain ⟨dg15, hdg15⟩ : ∃ z : Int32, z = (own_dig p2 (8 : Int32)) := ⟨_, rfl⟩
  rw [← hdg15]
  have bd15 : ¬ (dg15 < (0 : Int32)) ∧ dg15 < (32 : Int32) := by rw [hdg15]; exact own_digb _ _
  obtain ⟨_, _, ⟨T48, L48, k48, n48⟩, -, X48, ⟨Lc48, hQ48, l48, y48, z48⟩, st48⟩ := Jvm.LawKit.callS X47 hx (y := (⟨"com/example/known_paths/knownpaths/ulid/UlidParsePinLaw", "put", "([C[CIII)V"⟩ : MethodName)) hown (mvT hZ (wq hw 2 rfl)) (mvT hZ (wq hw 3 rfl)) (mvT hZ (wq hw 4 rfl)) (mvT hZ (wq hw 5 rfl)) (by decide) (own_backL (W := 0) (rm_putW l Z a0 hw [] ma ua k1 k2 ([(.int m0), (.int m1), (.int m2), (.int m3), (.int m4), (.int m5), (.int m6), (.int m7), (.int m8), (.int m9), (.int m10), (.int m11), (.int m12), (.int m13), (.int m14), (.int (0 : Int32)), (.int (0 : Int32)), (.int (0 : Int32)), (.int (0 : Int32)), (.int (0 : Int32)), (.int (0 : Int32)), (.int (0 : Int32)), (.int (0 : Int32)), (.int (0 : Int32)), (.int (0 : Int32)), (.int (0 : Int32))]) ([(.int u0), (.int u1), (.int u2), (.int u3), (.int u4), (.int u5), (.int u6), (.int u7), (.int u8), (.int u9), (.int u10), (.int u11), (.int u12), (.int u13), (.int u14), (.int (0 : Int32)), (.int (0 : Int32)), (.int (0 : Int32)), (.int (0 : Int32)), (.int (0 : Int32)), (.int (0 : Int32)), (.int (0 : Int32)), (.int (0 : Int32)), (.int (0 : Int32)), (.int (0 : Int32)), (.int (0 : Int32))]) 15 (15 : Int32) dg15 p4 cs sf la3 lb3 kl3 T45.heap n0 Z46 V_ma V_ua S_COMPACT_STRINGS S_SIOOBE_FORMATTER S_la3 (by decide) ⟨by decide, by decide⟩ (by decide) rfl rfl bd15.1 bd15.2 hcs hsf ne_ma_ua ne_ua_ma ne_la3_ma ne_lb3_ma ne_la3_ua ne_lb3_ua g_ma g_ua O) hZ (wq hw 5 rfl) (wq hw 4 rfl) (by decide) (by decide) Li_la3) (g := (mkF m 272 #[.val (.long p1), .second, .val (.long p2), .second, .val (.int p3), .val (.int p4), .val (.ref ma), .val (.ref ua), .unset, .unset, .unset, .unset, .unset, .unset] [(.int p4), (.int dg15), (.int (15 : Int32)), (.ref ua), (.ref ma)])) rfl (by rw [hml]; rfl) (argsL := [(.ref ma), (.ref ua), (.int (15 : Int32)), (.int dg15), (.int p4)]) (rest := []) (lenOf pd__28_5bC_5bCIII_29V rfl) rfl (by show 2 * 0 + _ ≤ _; exact Nat.le_of_eq rfl) (hb hby at_272) (fun _ _ => ⟨rfl, HQ47, (by decide : 4 + 0 ≤ _), (by decide : 184 + 0 ≤ _)⟩)
  dsimp only [Pt.U, Pt.locs, Pt.cells, Pt.slots] at X48 l48 y48 z48 st48 hQ48
  rw [l48, y48, z48] at X48
  obtain ⟨rfl, N48q, KQ48, fo0_48, fo1_48⟩ := hQ48
  have N48 := Fr.app N47 N48q
  have E_ma := E_ma.keep KQ48
  have E_ua := E_ua.keep KQ48
  have S_la3 := S_la3.keep KQ48 (ninS ne_la3_ma (ninS ne_la3_ua nin0)) (ninS ne_lb3_ma (ninS ne_lb3_ua nin0))
  have Z49 : n0 ≤ T48.heap.size := Nat.le_trans Z46 KQ48.1
  have O := O.keep KQ48 (allS (P := fun x => n0 ≤ x) g_ma (allS (P := fun x => n0 ≤ x) g_ua all0))
  have hsafe := (allS (P := fun x => Safe Z own_EL T3.vm _ x) SF_ma (allS (P := fun x => Safe Z own_EL T3.vm _ x) SF_ua all0))
  have SF_ma := Safe.keep KQ48 hsafe H SF_ma
  have SF_ua := Safe.keep KQ48 hsafe H SF_ua
  have CR := CR.trans (CHr.keep KQ48 hsafe H)
  have H := H.keep KQ48 hsafe
  have hk := Nat.le_trans hk KQ48.1
  have V_ua := fo0_48
  have V_ma := fo1_48
  refine GoesW.pre (U' := T48.setTop (mkF m 275 #[.val (.long p1), .second, .val (.long p2), .second, .val (.int p3), .val (.int p4), .val (.ref ma), .val (.ref ua), .unset, .unset, .unset, .unset, .unset, .unset] [])) (fun t k => st48 t k) ?_
  obtain ⟨u15, hu15⟩ : ∃ z, z = own_dc dg15 := ⟨_, rfl⟩
  rw [← hu15] at V_ua V_ma
  obtain ⟨m15, hm15⟩ : ∃ z, z = own_mc u15 p4 (15 : Int32) := ⟨_, rfl⟩
  rw [← hm15] at V_ma
  have V_ma : Arv Z T48.heap ma k1 .char (26 : Int32) [(.int m0), (.int m1), (.int m2), (.int m3), (.int m4), (.int m5), (.int m6), (.int m7), (.int m8), (.int m9), (.int m10), (.int m11), (.int m12), (.int m13), (.int m14), (.int m15), (.int (0 : Int32)), (.int (0 : Int32)), (.int (0 : Int32)), (.int (0 : Int32)), (.int (0 : Int32)), (.int (0 : Int32)), (.int (0 : Int32)), (.int (0 : Int32)), (.int (0 : Int32)), (.int (0 : Int32))] (.int (0 : Int32)) := V_ma
  have V_ua : Arv Z T48.heap ua k2 .char (26 : Int32) [(.int u0), (.int u1), (.int u2), (.int u3), (.int u4), (.int u5), (.int u6), (.int u7), (.int u8), (.int u9), (.int u10), (.int u11), (.int u12), (.int u13), (.int u14), (.int u15), (.int (0 : Int32)), (.int (0 : Int32)), (.int (0 : Int32)), (.int (0 : Int32)), (.int (0 : Int32)), (.int (0 : Int32)), (.int (0 : Int32)), (.int (0 : Int32)), (.int (0 : Int32)), (.int (0 : Int32))] (.int (0 : Int32)) := V_ua
  refine GoesW.pre (U' := T48.setTop (mkF m 284 #[.val (.long p1), .second, .val (.long p2), .second, .val (.int p3), .val (.int p4), .val (.ref ma), .val (.ref ua), .unset, .unset, .unset, .unset, .unset, .unset] [(.int (7 : Int32)), (.long p2), (.int (16 : Int32)), (.ref ua), (.ref ma)])) (fun t k => XS.aload X48.here hx rfl (hb hby at_275) rfl rfl (XS.aload X48.here hx rfl (hb hby at_277) rfl rfl (XS.bipush X48.here hx rfl (hb hby at_279) (XS.lloadN X48.here hx rfl (hb hby at_281) rfl (XS.bipush X48.here hx rfl (hb hby at_282) k))))) ?_
  obtain ⟨_, _, ⟨T50, L50, k50, n50⟩, -, X50, ⟨Lc50, hQ50, l50, y50, z50⟩, st50⟩ := Jvm.LawKit.callS X48 hx (y := (⟨"com/example/known_paths/knownpaths/ulid/UlidParsePinLaw", "dig", "(JI)I"⟩ : MethodName)) hown (mvT hZ (wq hw 39 rfl)) (mvT hZ (wq hw 40 rfl)) (mvT hZ (wq hw 4 rfl)) (mvT hZ (wq hw 41 rfl)) (by decide) (backOf (W := 3) (rm_dig l Z a0 hw [] p2 (7 : Int32) T48.heap n0 Z49) hZ (wq hw 41 rfl) (wq hw 4 rfl) (by decide) (by decide)) (g := (mkF m 284 #[.val (.long p1), .second, .val (.long p2), .second, .val (.int p3), .val (.int p4), .val (.ref ma), .val (.ref ua), .unset, .unset, .unset, .unset, .unset, .unset] [(.int (7 : Int32)), (.long p2), (.int (16 : Int32)), (.ref ua), (.ref ma)])) rfl (by rw [hml]; rfl) (argsL := [(.long p2), (.int (7 : Int32))]) (rest := [(.int (16 : Int32)), (.ref ua), (.ref ma)]) (lenOf pd__28JI_29I rfl) rfl (by show 2 * 0 + _ ≤ _; exact Nat.le_of_eq rfl) (hb hby at_284) (fun _ _ => ⟨rfl, rfl, (by decide : 4 + 0 ≤ _), (by decide : 184 + 0 ≤ _)⟩)
  dsimp only [Pt.U, Pt.locs, Pt.cells, Pt.slots] at X50 l50 y50 z50 st50 hQ50
  rw [l50, y50, z50] at X50
  obtain ⟨rfl, N50q, HQ50⟩ := hQ50
  have N50 := Fr.app N48 N50q
  refine GoesW.pre (U' := T50.setTop (mkF m 289 #[.val (.long p1), .second, .val (.long p2), .second, .val (.int p3), .val (.int p4), .val (.ref ma), .val (.ref ua), .unset, .unset, .unset, .unset, .unset, .unset] [(.int p4), (.int (own_dig p2 (7 : Int32))), (.int (16 : Int32)), (.ref ua), (.ref ma)])) (fun t k => st50 t (XS.iload X50.here hx rfl (hb hby at_287) rfl k)) ?_
  obtain ⟨dg16, hdg16⟩ : ∃ z : Int32, z = (own_dig p2 (7 : Int32)) := ⟨_, rfl⟩
  rw [← hdg16]
  have bd16 : ¬ (dg16 < (0 : Int32)) ∧ dg16 < (32 : Int32) := by rw [hdg16]; exact own_digb _ _
  obtain ⟨_, _, ⟨T51, L51, k51, n51⟩, -, X51, ⟨Lc51, hQ51, l51, y51, z51⟩, st51⟩ := Jvm.LawKit.callS X50 hx (y := (⟨"com/example/known_paths/knownpaths/ulid/UlidParsePinLaw", "put", "([C[CIII)V"⟩ : MethodName)) hown (mvT hZ (wq hw 2 rfl)) (mvT hZ (wq hw 3 rfl)) (mvT hZ (wq hw 4 rfl)) (mvT hZ (wq hw 5 rfl)) (by decide) (own_backL (W := 0) (rm_putW l Z a0 hw [] ma ua k1 k2 ([(.int m0), (.int m1), (.int m2), (.int m3), (.int m4), (.int m5), (.int m6), (.int m7), (.int m8), (.int m9), (.int m10), (.int m11), (.int m12), (.int m13), (.int m14), (.int m15), (.int (0 : Int32)), (.int (0 : Int32)), (.int (0 : Int32)), (.int (0 : Int32)), (.int (0 : Int32)), (.int (0 : Int32)), (.int (0 : Int32)), (.int (0 : Int32)), (.int (0 : Int32)), (.int (0 : Int32))]) ([(.int u0), (.int u1), (.int u2), (.int u3), (.int u4), (.int u5), (.int u6), (.int u7), (.int u8), (.int u9), (.int u10), (.int u11), (.int u12), (.int u13), (.int u14), (.int u15), (.int (0 : Int32)), (.int (0 : Int32)), (.int (0 : Int32)), (.int (0 : Int32)), (.int (0 : Int32)), (.int (0 : Int32)), (.int (0 : Int32)), (.int (0 : Int32)), (.int (0 : Int32)), (.int (0 : Int32))]) 16 (16 : Int32) dg16 p4 cs sf la3 lb3 kl3 T48.heap n0 Z49 V_ma V_ua S_COMPACT_STRINGS S_SIOOBE_FORMATTER S_la3 (by decide) ⟨by decide, by decide⟩ (by decide) rfl rfl bd16.1 bd16.2 hcs hsf ne_ma_ua ne_ua_ma ne_la3_ma ne_lb3_ma ne_la3_ua ne_lb3_ua g_ma g_ua O) hZ (wq hw 5 rfl) (wq hw 4 rfl) (by decide) (by decide) Li_la3) (g := (mkF m 289 #[.val (.long p1), .second, .val (.long p2), .second, .val (.int p3), .val (.int p4), .val (.ref ma), .val (.ref ua), .unset, .unset, .unset, .unset, .unset, .unset] [(.int p4), (.int dg16), (.int (16 : Int32)), (.ref ua), (.ref ma)])) rfl (by rw [hml]; rfl) (argsL := [(.ref ma), (.ref ua), (.int (16 : Int32)), (.int dg16), (.int p4)]) (rest := []) (lenOf pd__28_5bC_5bCIII_29V rfl) rfl (by show 2 * 0 + _ ≤ _; exact Nat.le_of_eq rfl) (hb hby at_289) (fun _ _ => ⟨rfl, HQ50, (by decide : 4 + 0 ≤ _), (by decide : 184 + 0 ≤ _)⟩)
  dsimp only [Pt.U, Pt.locs, Pt.cells, Pt.slots] at X51 l51 y51 z51 st51 hQ51
  rw [l51, y51, z51] at X51
  obtain ⟨rfl, N51q, KQ51, fo0_51, fo1_51⟩ := hQ51
  have N51 := Fr.app N50 N51q
  have E_ma := E_ma.keep KQ51
  have E_ua := E_ua.keep KQ51
  have S_la3 := S_la3.keep KQ51 (ninS ne_la3_ma (ninS ne_la3_ua nin0)) (ninS ne_lb3_ma (ninS ne_lb3_ua nin0))
  have Z52 : n0 ≤ T51.heap.size := Nat.le_trans Z49 KQ51.1
  have O := O.keep KQ51 (allS (P := fun x => n0 ≤ x) g_ma (allS (P := fun x => n0 ≤ x) g_ua all0))
  have hsafe := (allS (P := fun x => Safe Z own_EL T3.vm _ x) SF_ma (allS (P := fun x => Safe Z own_EL T3.vm _ x) SF_ua all0))
  have SF_ma := Safe.keep KQ51 hsafe H SF_ma
  have SF_ua := Safe.keep KQ51 hsafe H SF_ua
  have CR := CR.trans (CHr.keep KQ51 hsafe H)
  have H := H.keep KQ51 hsafe
  have hk := Nat.le_trans hk KQ51.1
  have V_ua := fo0_51
  have V_ma := fo1_51
  refine GoesW.pre (U' := T51.setTop (mkF m 292 #[.val (.long p1), .second, .val (.long p2), .second, .val (.int p3), .val (.int p4), .val (.ref ma), .val (.ref ua), .unset, .unset, .unset, .unset, .unset, .unset] [])) (fun t k => st51 t k) ?_
  obtain ⟨u16, hu16⟩ : ∃ z, z = own_dc dg16 := ⟨_, rfl⟩
  rw [← hu16] at V_ua V_ma
  obtain ⟨m16, hm16⟩ : ∃ z, z = own_mc u16 p4 (16 : Int32) := ⟨_, rfl⟩
  rw [← hm16] at V_ma
  have V_ma : Arv Z T51.heap ma k1 .char (26 : Int32) [(.int m0), (.int m1), (.int m2), (.int m3), (.int m4), (.int m5), (.int m6), (.int m7), (.int m8), (.int m9), (.int m10), (.int m11), (.int m12), (.int m13), (.int m14), (.int m15), (.int m16), (.int (0 : Int32)), (.int (0 : Int32)), (.int (0 : Int32)), (.int (0 : Int32)), (.int (0 : Int32)), (.int (0 : Int32)), (.int (0 : Int32)), (.int (0 : Int32)), (.int (0 : Int32))] (.int (0 : Int32)) := V_ma
  have V_ua : Arv Z T51.heap ua k2 .char (26 : Int32) [(.int u0), (.int u1), (.int u2), (.int u3), (.int u4), (.int u5), (.int u6), (.int u7), (.int u8), (.int u9), (.int u10), (.int u11), (.int u12), (.int u13), (.int u14), (.int u15), (.int u16), (.int (0 : Int32)), (.int (0 : Int32)), (.int (0 : Int32)), (.int (0 : Int32)), (.int (0 : Int32)), (.int (0 : Int32)), (.int (0 : Int32)), (.int (0 : Int32)), (.int (0 : Int32))] (.int (0 : Int32)) := V_ua
  refine GoesW.pre (U' := T51.setTop (mkF m 301 #[.val (.long p1), .second, .val (.long p2), .second, .val (.int p3), .val (.int p4), .val (.ref ma), .val (.ref ua), .unset, .unset, .unset, .unset, .unset, .unset] [(.int (6 : Int32)), (.long p2), (.int (17 : Int32)), (.ref ua), (.ref ma)])) (fun t k => XS.aload X51.here hx rfl (hb hby at_292) rfl rfl (XS.aload X51.here hx rfl (hb hby at_294) rfl rfl (XS.bipush X51.here hx rfl (hb hby at_296) (XS.lloadN X51.here hx rfl (hb hby at_298) rfl (XS.bipush X51.here hx rfl (hb hby at_299) k))))) ?_
  obtain ⟨_, _, ⟨T53, L53, k53, n53⟩, -, X53, ⟨Lc53, hQ53, l53, y53, z53⟩, st53⟩ := Jvm.LawKit.callS X51 hx (y := (⟨"com/example/known_paths/knownpaths/ulid/UlidParsePinLaw", "dig", "(JI)I"⟩ : MethodName)) hown (mvT hZ (wq hw 39 rfl)) (mvT hZ (wq hw 40 rfl)) (mvT hZ (wq hw 4 rfl)) (mvT hZ (wq hw 41 rfl)) (by decide) (backOf (W := 3) (rm_dig l Z a0 hw [] p2 (6 : Int32) T51.heap n0 Z52) hZ (wq hw 41 rfl) (wq hw 4 rfl) (by decide) (by decide)) (g := (mkF m 301 #[.val (.long p1), .second, .val (.long p2), .second, .val (.int p3), .val (.int p4), .val (.ref ma), .val (.ref ua), .unset, .unset, .unset, .unset, .unset, .unset] [(.int (6 : Int32)), (.long p2), (.int (17 : Int32)), (.ref ua), (.ref ma)])) rfl (by rw [hml]; rfl) (argsL := [(.long p2), (.int (6 : Int32))]) (rest := [(.int (17 : Int32)), (.ref ua), (.ref ma)]) (lenOf pd__28JI_29I rfl) rfl (by show 2 * 0 + _ ≤ _; exact Nat.le_of_eq rfl) (hb hby at_301) (fun _ _ => ⟨rfl, rfl, (by decide : 4 + 0 ≤ _), (by decide : 184 + 0 ≤ _)⟩)
  dsimp only [Pt.U, Pt.locs, Pt.cells, Pt.slots] at X53 l53 y53 z53 st53 hQ53
  rw [l53, y53, z53] at X53
  obtain ⟨rfl, N53q, HQ53⟩ := hQ53
  have N53 := Fr.app N51 N53q
  refine GoesW.pre (U' := T53.setTop (mkF m 306 #[.val (.long p1), .second, .val (.long p2), .second, .val (.int p3), .val (.int p4), .val (.ref ma), .val (.ref ua), .unset, .unset, .unset, .unset, .unset, .unset] [(.int p4), (.int (own_dig p2 (6 : Int32))), (.int (17 : Int32)), (.ref ua), (.ref ma)])) (fun t k => st53 t (XS.iload X53.here hx rfl (hb hby at_304) rfl k)) ?_
  obtain ⟨dg17, hdg17⟩ : ∃ z : Int32, z = (own_dig p2 (6 : Int32)) := ⟨_, rfl⟩
  rw [← hdg17]
  have bd17 : ¬ (dg17 < (0 : Int32)) ∧ dg17 < (32 : Int32) := by rw [hdg17]; exact own_digb _ _
  obtain ⟨_, _, ⟨T54, L54, k54, n54⟩, -, X54, ⟨Lc54, hQ54, l54, y54, z54⟩, st54⟩ := Jvm.LawKit.callS X53 hx (y := (⟨"com/example/known_paths/knownpaths/ulid/UlidParsePinLaw", "put", "([C[CIII)V"⟩ : MethodName)) hown (mvT hZ (wq hw 2 rfl)) (mvT hZ (wq hw 3 rfl)) (mvT hZ (wq hw 4 rfl)) (mvT hZ (wq hw 5 rfl)) (by decide) (own_backL (W := 0) (rm_putW l Z a0 hw [] ma ua k1 k2 ([(.int m0), (.int m1), (.int m2), (.int m3), (.int m4), (.int m5), (.int m6), (.int m7), (.int m8), (.int m9), (.int m10), (.int m11), (.int m12), (.int m13), (.int m14), (.int m15), (.int m16), (.int (0 : Int32)), (.int (0 : Int32)), (.int (0 : Int32)), (.int (0 : Int32)), (.int (0 : Int32)), (.int (0 : Int32)), (.int (0 : Int32)), (.int (0 : Int32)), (.int (0 : Int32))]) ([(.int u0), (.int u1), (.int u2), (.int u3), (.int u4), (.int u5), (.int u6), (.int u7), (.int u8), (.int u9), (.int u10), (.int u11), (.int u12), (.int u13), (.int u14), (.int u15), (.int u16), (.int (0 : Int32)), (.int (0 : Int32)), (.int (0 : Int32)), (.int (0 : Int32)), (.int (0 : Int32)), (.int (0 : Int32)), (.int (0 : Int32)), (.int (0 : Int32)), (.int (0 : Int32))]) 17 (17 : Int32) dg17 p4 cs sf la3 lb3 kl3 T51.heap n0 Z52 V_ma V_ua S_COMPACT_STRINGS S_SIOOBE_FORMATTER S_la3 (by decide) ⟨by decide, by decide⟩ (by decide) rfl rfl bd17.1 bd17.2 hcs hsf ne_ma_ua ne_ua_ma ne_la3_ma ne_lb3_ma ne_la3_ua ne_lb3_ua g_ma g_ua O) hZ (wq hw 5 rfl) (wq hw 4 rfl) (by decide) (by decide) Li_la3) (g := (mkF m 306 #[.val (.long p1), .second, .val (.long p2), .second, .val (.int p3), .val (.int p4), .val (.ref ma), .val (.ref ua), .unset, .unset, .unset, .unset, .unset, .unset] [(.int p4), (.int dg17), (.int (17 : Int32)), (.ref ua), (.ref ma)])) rfl (by rw [hml]; rfl) (argsL := [(.ref ma), (.ref ua), (.int (17 : Int32)), (.int dg17), (.int p4)]) (rest := []) (lenOf pd__28_5bC_5bCIII_29V rfl) rfl (by show 2 * 0 + _ ≤ _; exact Nat.le_of_eq rfl) (hb hby at_306) (fun _ _ => ⟨rfl, HQ53, (by decide : 4 + 0 ≤ _), (by decide : 184 + 0 ≤ _)⟩)
  dsimp only [Pt.U, Pt.locs, Pt.cells, Pt.slots] at X54 l54 y54 z54 st54 hQ54
  rw [l54, y54, z54] at X54
  obtain ⟨rfl, N54q, KQ54, fo0_54, fo1_54⟩ := hQ54
  have N54 := Fr.app N53 N54q
  have E_ma := E_ma.keep KQ54
  have E_ua := E_ua.keep KQ54
  have S_la3 := S_la3.keep KQ54 (ninS ne_la3_ma (ninS ne_la3_ua nin0)) (ninS ne_lb3_ma (ninS ne_lb3_ua nin0))
  have Z55 : n0 ≤ T54.heap.size := Nat.le_trans Z52 KQ54.1
  have O := O.keep KQ54 (allS (P := fun x => n0 ≤ x) g_ma (allS (P := fun x => n0 ≤ x) g_ua all0))
  have hsafe := (allS (P := fun x => Safe Z own_EL T3.vm _ x) SF_ma (allS (P := fun x => Safe Z own_EL T3.vm _ x) SF_ua all0))
  have SF_ma := Safe.keep KQ54 hsafe H SF_ma
  have SF_ua := Safe.keep KQ54 hsafe H SF_ua
  have CR := CR.trans (CHr.keep KQ54 hsafe H)
  have H := H.keep KQ54 hsafe
  have hk := Nat.le_trans hk KQ54.1
  have V_ua := fo0_54
  have V_ma := fo1_54
  refine GoesW.pre (U' := T54.setTop (mkF m 309 #[.val (.long p1), .second, .val (.long p2), .second, .val (.int p3), .val (.int p4), .val (.ref ma), .val (.ref ua), .unset, .unset, .unset, .unset, .unset, .unset] [])) (fun t k => st54 t k) ?_
  obtain ⟨u17, hu17⟩ : ∃ z, z = own_dc dg17 := ⟨_, rfl⟩
  rw [← hu17] at V_ua V_ma
  obtain ⟨m17, hm17⟩ : ∃ z, z = own_mc u17 p4 (17 : Int32) := ⟨_, rfl⟩
  rw [← hm17] at V_ma
  have V_ma : Arv Z T54.heap ma k1 .char (26 : Int32) [(.int m0), (.int m1), (.int m2), (.int m3), (.int m4), (.int m5), (.int m6), (.int m7), (.int m8), (.int m9), (.int m10), (.int m11), (.int m12), (.int m13), (.int m14), (.int m15), (.int m16), (.int m17), (.int (0 : Int32)), (.int (0 : Int32)), (.int (0 : Int32)), (.int (0 : Int32)), (.int (0 : Int32)), (.int (0 : Int32)), (.int (0 : Int32)), (.int (0 : Int32))] (.int (0 : Int32)) := V_ma
  have V_ua : Arv Z T54.heap ua k2 .char (26 : Int32) [(.int u0), (.int u1), (.int u2), (.int u3), (.int u4), (.int u5), (.int u6), (.int u7), (.int u8), (.int u9), (.int u10), (.int u11), (.int u12), (.int u13), (.int u14), (.int u15), (.int u16), (.int u17), (.int (0 : Int32)), (.int (0 : Int32)), (.int (0 : Int32)), (.int (0 : Int32)), (.int (0 : Int32)), (.int (0 : Int32)), (.int (0 : Int32)), (.int (0 : Int32))] (.int (0 : Int32)) := V_ua
  refine GoesW.pre (U' := T54.setTop (mkF m 317 #[.val (.long p1), .second, .val (.long p2), .second, .val (.int p3), .val (.int p4), .val (.ref ma), .val (.ref ua), .unset, .unset, .unset, .unset, .unset, .unset] [(.int (5 : Int32)), (.long p2), (.int (18 : Int32)), (.ref ua), (.ref ma)])) (fun t k => XS.aload X54.here hx rfl (hb hby at_309) rfl rfl (XS.aload X54.here hx rfl (hb hby at_311) rfl rfl (XS.bipush X54.here hx rfl (hb hby at_313) (XS.lloadN X54.here hx rfl (hb hby at_315) rfl (XS.iconst X54.here hx rfl (hb hby at_316) k))))) ?_
  obtain ⟨_, _, ⟨T56, L56, k56, n56⟩, -, X56, ⟨Lc56, hQ56, l56, y56, z56⟩, st56⟩ := Jvm.LawKit.callS X54 hx (y := (⟨"com/example/known_paths/knownpaths/ulid/UlidParsePinLaw", "dig", "(JI)I"⟩ : MethodName)) hown (mvT hZ (wq hw 39 rfl)) (mvT hZ (wq hw 40 rfl)) (mvT hZ (wq hw 4 rfl)) (mvT hZ (wq hw 41 rfl)) (by decide) (backOf (W := 3) (rm_dig l Z a0 hw [] p2 (5 : Int32) T54.heap n0 Z55) hZ (wq hw 41 rfl) (wq hw 4 rfl) (by decide) (by decide)) (g := (mkF m 317 #[.val (.long p1), .second, .val (.long p2), .second, .val (.int p3), .val (.int p4), .val (.ref ma), .val (.ref ua), .unset, .unset, .unset, .unset, .unset, .unset] [(.int (5 : Int32)), (.long p2), (.int (18 : Int32)), (.ref ua), (.ref ma)])) rfl (by rw [hml]; rfl) (argsL := [(.long p2), (.int (5 : Int32))]) (rest := [(.int (18 : Int32)), (.ref ua), (.ref ma)]) (lenOf pd__28JI_29I rfl) rfl (by show 2 * 0 + _ ≤ _; exact Nat.le_of_eq rfl) (hb hby at_317) (fun _ _ => ⟨rfl, rfl, (by decide : 4 + 0 ≤ _), (by decide : 184 + 0 ≤ _)⟩)
  dsimp only [Pt.U, Pt.locs, Pt.cells, Pt.slots] at X56 l56 y56 z56 st56 hQ56
  rw [l56, y56, z56] at X56
  obtain ⟨rfl, N56q, HQ56⟩ := hQ56
  have N56 := Fr.app N54 N56q
  refine GoesW.pre (U' := T56.setTop (mkF m 322 #[.val (.long p1), .second, .val (.long p2), .second, .val (.int p3), .val (.int p4), .val (.ref ma), .val (.ref ua), .unset, .unset, .unset, .unset, .unset, .unset] [(.int p4), (.int (own_dig p2 (5 : Int32))), (.int (18 : Int32)), (.ref ua), (.ref ma)])) (fun t k => st56 t (XS.iload X56.here hx rfl (hb hby at_320) rfl k)) ?_
  obtain ⟨dg18, hdg18⟩ : ∃ z : Int32, z = (own_dig p2 (5 : Int32)) := ⟨_, rfl⟩
  rw [← hdg18]
  have bd18 : ¬ (dg18 < (0 : Int32)) ∧ dg18 < (32 : Int32) := by rw [hdg18]; exact own_digb _ _
  obtain ⟨_, _, ⟨T57, L57, k57, n57⟩, -, X57, ⟨Lc57, hQ57, l57, y57, z57⟩, st57⟩ := Jvm.LawKit.callS X56 hx (y := (⟨"com/example/known_paths/knownpaths/ulid/UlidParsePinLaw", "put", "([C[CIII)V"⟩ : MethodName)) hown (mvT hZ (wq hw 2 rfl)) (mvT hZ (wq hw 3 rfl)) (mvT hZ (wq hw 4 rfl)) (mvT hZ (wq hw 5 rfl)) (by decide) (own_backL (W := 0) (rm_putW l Z a0 hw [] ma ua k1 k2 ([(.int m0), (.int m1), (.int m2), (.int m3), (.int m4), (.int m5), (.int m6), (.int m7), (.int m8), (.int m9), (.int m10), (.int m11), (.int m12), (.int m13), (.int m14), (.int m15), (.int m16), (.int m17), (.int (0 : Int32)), (.int (0 : Int32)), (.int (0 : Int32)), (.int (0 : Int32)), (.int (0 : Int32)), (.int (0 : Int32)), (.int (0 : Int32)), (.int (0 : Int32))]) ([(.int u0), (.int u1), (.int u2), (.int u3), (.int u4), (.int u5), (.int u6), (.int u7), (.int u8), (.int u9), (.int u10), (.int u11), (.int u12), (.int u13), (.int u14), (.int u15), (.int u16), (.int u17), (.int (0 : Int32)), (.int (0 : Int32)), (.int (0 : Int32)), (.int (0 : Int32)), (.int (0 : Int32)), (.int (0 : Int32)), (.int (0 : Int32)), (.int (0 : Int32))]) 18 (18 : Int32) dg18 p4 cs sf la3 lb3 kl3 T54.heap n0 Z55 V_ma V_ua S_COMPACT_STRINGS S_SIOOBE_FORMATTER S_la3 (by decide) ⟨by decide, by decide⟩ (by decide) rfl rfl bd18.1 bd18.2 hcs hsf ne_ma_ua ne_ua_ma ne_la3_ma ne_lb3_ma ne_la3_ua ne_lb3_ua g_ma g_ua O) hZ (wq hw 5 rfl) (wq hw 4 rfl) (by decide) (by decide) Li_la3) (g := (mkF m 322 #[.val (.long p1), .second, .val (.long p2), .second, .val (.int p3), .val (.int p4), .val (.ref ma), .val (.ref ua), .unset, .unset, .unset, .unset, .unset, .unset] [(.int p4), (.int dg18), (.int (18 : Int32)), (.ref ua), (.ref ma)])) rfl (by rw [hml]; rfl) (argsL := [(.ref ma), (.ref ua), (.int (18 : Int32)), (.int dg18), (.int p4)]) (rest := []) (lenOf pd__28_5bC_5bCIII_29V rfl) rfl (by show 2 * 0 + _ ≤ _; exact Nat.le_of_eq rfl) (hb hby at_322) (fun _ _ => ⟨rfl, HQ56, (by decide : 4 + 0 ≤ _), (by decide : 184 + 0 ≤ _)⟩)
  dsimp only [Pt.U, Pt.locs, Pt.cells, Pt.slots] at X57 l57 y57 z57 st57 hQ57
  rw [l57, y57, z57] at X57
  obtain ⟨rfl, N57q, KQ57, fo0_57, fo1_57⟩ := hQ57
  have N57 := Fr.app N56 N57q
  have E_ma := E_ma.keep KQ57
  have E_ua := E_ua.keep KQ57
  have S_la3 := S_la3.keep KQ57 (ninS ne_la3_ma (ninS ne_la3_ua nin0)) (ninS ne_lb3_ma (ninS ne_lb3_ua nin0))
  have Z58 : n0 ≤ T57.heap.size := Nat.le_trans Z55 KQ57.1
  have O := O.keep KQ57 (allS (P := fun x => n0 ≤ x) g_ma (allS (P := fun x => n0 ≤ x) g_ua all0))
  have hsafe := (allS (P := fun x => Safe Z own_EL T3.vm _ x) SF_ma (allS (P := fun x => Safe Z own_EL T3.vm _ x) SF_ua all0))
  have SF_ma := Safe.keep KQ57 hsafe H SF_ma
  have SF_ua := Safe.keep KQ57 hsafe H SF_ua
  have CR := CR.trans (CHr.keep KQ57 hsafe H)
  have H := H.keep KQ57 hsafe
  have hk := Nat.le_trans hk KQ57.1
  have V_ua := fo0_57
  have V_ma := fo1_57
  refine GoesW.pre (U' := T57.setTop (mkF m 325 #[.val (.long p1), .second, .val (.long p2), .second, .val (.int p3), .val (.int p4), .val (.ref ma), .val (.ref ua), .unset, .unset, .unset, .unset, .unset, .unset] [])) (fun t k => st57 t k) ?_
  obtain ⟨u18, hu18⟩ : ∃ z, z = own_dc dg18 := ⟨_, rfl⟩
  rw [← hu18] at V_ua V_ma
  obtain ⟨m18, hm18⟩ : ∃ z, z = own_mc u18 p4 (18 : Int32) := ⟨_, rfl⟩
  rw [← hm18] at V_ma
  have V_ma : Arv Z T57.heap ma k1 .char (26 : Int32) [(.int m0), (.int m1), (.int m2), (.int m3), (.int m4), (.int m5), (.int m6), (.int m7), (.int m8), (.int m9), (.int m10), (.int m11), (.int m12), (.int m13), (.int m14), (.int m15), (.int m16), (.int m17), (.int m18), (.int (0 : Int32)), (.int (0 : Int32)), (.int (0 : Int32)), (.int (0 : Int32)), (.int (0 : Int32)), (.int (0 : Int32)), (.int (0 : Int32))] (.int (0 : Int32)) := V_ma
  have V_ua : Arv Z T57.heap ua k2 .char (26 : Int32) [(.int u0), (.int u1), (.int u2), (.int u3), (.int u4), (.int u5), (.int u6), (.int u7), (.int u8), (.int u9), (.int u10), (.int u11), (.int u12), (.int u13), (.int u14), (.int u15), (.int u16), (.int u17), (.int u18), (.int (0 : Int32)), (.int (0 : Int32)), (.int (0 : Int32)), (.int (0 : Int32)), (.int (0 : Int32)), (.int (0 : Int32)), (.int (0 : Int32))] (.int (0 : Int32)) := V_ua
  refine GoesW.pre (U' := T57.setTop (mkF m 333 #[.val (.long p1), .second, .val (.long p2), .second, .val (.int p3), .val (.int p4), .val (.ref ma), .val (.ref ua), .unset, .unset, .unset, .unset, .unset, .unset] [(.int (4 : Int32)), (.long p2), (.int (19 : Int32)), (.ref ua), (.ref ma)])) (fun t k => XS.aload X57.here hx rfl (hb hby at_325) rfl rfl (XS.aload X57.here hx rfl (hb hby at_327) rfl rfl (XS.bipush X57.here hx rfl (hb hby at_329) (XS.lloadN X57.here hx rfl (hb hby at_331) rfl (XS.iconst X57.here hx rfl (hb hby at_332) k))))) ?_
  obtain ⟨_, _, ⟨T59, L59, k59, n59⟩, -, X59, ⟨Lc59, hQ59, l59, y59, z59⟩, st59⟩ := Jvm.LawKit.callS X57 hx (y := (⟨"com/example/known_paths/knownpaths/ulid/UlidParsePinLaw", "dig", "(JI)I"⟩ : MethodName)) hown (mvT hZ (wq hw 39 rfl)) (mvT hZ (wq hw 40 rfl)) (mvT hZ (wq hw 4 rfl)) (mvT hZ (wq hw 41 rfl)) (by decide) (backOf (W := 3) (rm_dig l Z a0 hw [] p2 (4 : Int32) T57.heap n0 Z58) hZ (wq hw 41 rfl) (wq hw 4 rfl) (by decide) (by decide)) (g := (mkF m 333 #[.val (.long p1), .second, .val (.long p2), .second, .val (.int p3), .val (.int p4), .val (.ref ma), .val (.ref ua), .unset, .unset, .unset, .unset, .unset, .unset] [(.int (4 : Int32)), (.long p2), (.int (19 : Int32)), (.ref ua), (.ref ma)])) rfl (by rw [hml]; rfl) (argsL := [(.long p2), (.int (4 : Int32))]) (rest := [(.int (19 : Int32)), (.ref ua), (.ref ma)]) (lenOf pd__28JI_29I rfl) rfl (by show 2 * 0 + _ ≤ _; exact Nat.le_of_eq rfl) (hb hby at_333) (fun _ _ => ⟨rfl, rfl, (by decide : 4 + 0 ≤ _), (by decide : 184 + 0 ≤ _)⟩)
  dsimp only [Pt.U, Pt.locs, Pt.cells, Pt.slots] at X59 l59 y59 z59 st59 hQ59
  rw [l59, y59, z59] at X59
  obtain ⟨rfl, N59q, HQ59⟩ := hQ59
  have N59 := Fr.app N57 N59q
  refine GoesW.pre (U' := T59.setTop (mkF m 338 #[.val (.long p1), .second, .val (.long p2), .second, .val (.int p3), .val (.int p4), .val (.ref ma), .val (.ref ua), .unset, .unset, .unset, .unset, .unset, .unset] [(.int p4), (.int (own_dig p2 (4 : Int32))), (.int (19 : Int32)), (.ref ua), (.ref ma)])) (fun t k => st59 t (XS.iload X59.here hx rfl (hb hby at_336) rfl k)) ?_
  obtain ⟨dg19, hdg19⟩ : ∃ z : Int32, z = (own_dig p2 (4 : Int32)) := ⟨_, rfl⟩
  rw [← hdg19]
  have bd19 : ¬ (dg19 < (0 : Int32)) ∧ dg19 < (32 : Int32) := by rw [hdg19]; exact own_digb _ _
  obtain ⟨_, _, ⟨T60, L60, k60, n60⟩, -, X60, ⟨Lc60, hQ60, l60, y60, z60⟩, st60⟩ := Jvm.LawKit.callS X59 hx (y := (⟨"com/example/known_paths/knownpaths/ulid/UlidParsePinLaw", "put", "([C[CIII)V"⟩ : MethodName)) hown (mvT hZ (wq hw 2 rfl)) (mvT hZ (wq hw 3 rfl)) (mvT hZ (wq hw 4 rfl)) (mvT hZ (wq hw 5 rfl)) (by decide) (own_backL (W := 0) (rm_putW l Z a0 hw [] ma ua k1 k2 ([(.int m0), (.int m1), (.int m2), (.int m3), (.int m4), (.int m5), (.int m6), (.int m7), (.int m8), (.int m9), (.int m10), (.int m11), (.int m12), (.int m13), (.int m14), (.int m15), (.int m16), (.int m17), (.int m18), (.int (0 : Int32)), (.int (0 : Int32)), (.int (0 : Int32)), (.int (0 : Int32)), (.int (0 : Int32)), (.int (0 : Int32)), (.int (0 : Int32))]) ([(.int u0), (.int u1), (.int u2), (.int u3), (.int u4), (.int u5), (.int u6), (.int u7), (.int u8), (.int u9), (.int u10), (.int u11), (.int u12), (.int u13), (.int u14), (.int u15), (.int u16), (.int u17), (.int u18), (.int (0 : Int32)), (.int (0 : Int32)), (.int (0 : Int32)), (.int (0 : Int32)), (.int (0 : Int32)), (.int (0 : Int32)), (.int (0 : Int32))]) 19 (19 : Int32) dg19 p4 cs sf la3 lb3 kl3 T57.heap n0 Z58 V_ma V_ua S_COMPACT_STRINGS S_SIOOBE_FORMATTER S_la3 (by decide) ⟨by decide, by decide⟩ (by decide) rfl rfl bd19.1 bd19.2 hcs hsf ne_ma_ua ne_ua_ma ne_la3_ma ne_lb3_ma ne_la3_ua ne_lb3_ua g_ma g_ua O) hZ (wq hw 5 rfl) (wq hw 4 rfl) (by decide) (by decide) Li_la3) (g := (mkF m 338 #[.val (.long p1), .second, .val (.long p2), .second, .val (.int p3), .val (.int p4), .val (.ref ma), .val (.ref ua), .unset, .unset, .unset, .unset, .unset, .unset] [(.int p4), (.int dg19), (.int (19 : Int32)), (.ref ua), (.ref ma)])) rfl (by rw [hml]; rfl) (argsL := [(.ref ma), (.ref ua), (.int (19 : Int32)), (.int dg19), (.int p4)]) (rest := []) (lenOf pd__28_5bC_5bCIII_29V rfl) rfl (by show 2 * 0 + _ ≤ _; exact Nat.le_of_eq rfl) (hb hby at_338) (fun _ _ => ⟨rfl, HQ59, (by decide : 4 + 0 ≤ _), (by decide : 184 + 0 ≤ _)⟩)
  dsimp only [Pt.U, Pt.locs, Pt.cells, Pt.slots] at X60 l60 y60 z60 st60 hQ60
  rw [l60, y60, z60] at X60
  obtain ⟨rfl, N60q, KQ60, fo0_60, fo1_60⟩ := hQ60
  have N60 := Fr.app N59 N60q
  have E_ma := E_ma.keep KQ60
  have E_ua := E_ua.keep KQ60
  have S_la3 := S_la3.keep KQ60 (ninS ne_la3_ma (ninS ne_la3_ua nin0)) (ninS ne_lb3_ma (ninS ne_lb3_ua nin0))
  have Z61 : n0 ≤ T60.heap.size := Nat.le_trans Z58 KQ60.1
  have O := O.keep KQ60 (allS (P := fun x => n0 ≤ x) g_ma (allS (P := fun x => n0 ≤ x) g_ua all0))
  have hsafe := (allS (P := fun x => Safe Z own_EL T3.vm _ x) SF_ma (allS (P := fun x => Safe Z own_EL T3.vm _ x) SF_ua all0))
  have SF_ma := Safe.keep KQ60 hsafe H SF_ma
  have SF_ua := Safe.keep KQ60 hsafe H SF_ua
  have CR := CR.trans (CHr.keep KQ60 hsafe H)
  have H := H.keep KQ60 hsafe
  have hk := Nat.le_trans hk KQ60.1
  have V_ua := fo0_60
  have V_ma := fo1_60
  refine GoesW.pre (U' := T60.setTop (mkF m 341 #[.val (.long p1), .second, .val (.long p2), .second, .val (.int p3), .val (.int p4), .val (.ref ma), .val (.ref ua), .unset, .unset, .unset, .unset, .unset, .unset] [])) (fun t k => st60 t k) ?_
  obtain ⟨u19, hu19⟩ : ∃ z, z = own_dc dg19 := ⟨_, rfl⟩
  rw [← hu19] at V_ua V_ma
  obtain ⟨m19, hm19⟩ : ∃ z, z = own_mc u19 p4 (19 : Int32) := ⟨_, rfl⟩
  rw [← hm19] at V_ma
  have V_ma : Arv Z T60.heap ma k1 .char (26 : Int32) [(.int m0), (.int m1), (.int m2), (.int m3), (.int m4), (.int m5), (.int m6), (.int m7), (.int m8), (.int m9), (.int m10), (.int m11), (.int m12), (.int m13), (.int m14), (.int m15), (.int m16), (.int m17), (.int m18), (.int m19), (.int (0 : Int32)), (.int (0 : Int32)), (.int (0 : Int32)), (.int (0 : Int32)), (.int (0 : Int32)), (.int (0 : Int32))] (.int (0 : Int32)) := V_ma
  have V_ua : Arv Z T60.heap ua k2 .char (26 : Int32) [(.int u0), (.int u1), (.int u2), (.int u3), (.int u4), (.int u5), (.int u6), (.int u7), (.int u8), (.int u9), (.int u10), (.int u11), (.int u12), (.int u13), (.int u14), (.int u15), (.int u16), (.int u17), (.int u18), (.int u19), (.int (0 : Int32)), (.int (0 : Int32)), (.int (0 : Int32)), (.int (0 : Int32)), (.int (0 : Int32)), (.int (0 : Int32))] (.int (0 : Int32)) := V_ua
  refine GoesW.pre (U' := T60.setTop (mkF m 349 #[.val (.long p1), .second, .val (.long p2), .second, .val (.int p3), .val (.int p4), .val (.ref ma), .val (.ref ua), .unset, .unset, .unset, .unset, .unset, .unset] [(.int (3 : Int32)), (.long p2), (.int (20 : Int32)), (.ref ua), (.ref ma)])) (fun t k => XS.aload X60.here hx rfl (hb hby at_341) rfl rfl (XS.aload X60.here hx rfl (hb hby at_343) rfl rfl (XS.bipush X60.here hx rfl (hb hby at_345) (XS.lloadN X60.here hx rfl (hb hby at_347) rfl (XS.iconst X60.here hx rfl (hb hby at_348) k))))) ?_
  obtain ⟨_, _, ⟨T62, L62, k62, n62⟩, -, X62, ⟨Lc62, hQ62, l62, y62, z62⟩, st62⟩ := Jvm.LawKit.callS X60 hx (y := (⟨"com/example/known_paths/knownpaths/ulid/UlidParsePinLaw", "dig", "(JI)I"⟩ : MethodName)) hown (mvT hZ (wq hw 39 rfl)) (mvT hZ (wq hw 40 rfl)) (mvT hZ (wq hw 4 rfl)) (mvT hZ (wq hw 41 rfl)) (by decide) (backOf (W := 3) (rm_dig l Z a0 hw [] p2 (3 : Int32) T60.heap n0 Z61) hZ (wq hw 41 rfl) (wq hw 4 rfl) (by decide) (by decide)) (g := (mkF m 349 #[.val (.long p1), .second, .val (.long p2), .second, .val (.int p3), .val (.int p4), .val (.ref ma), .val (.ref ua), .unset, .unset, .unset, .unset, .unset, .unset] [(.int (3 : Int32)), (.long p2), (.int (20 : Int32)), (.ref ua), (.ref ma)])) rfl (by rw [hml]; rfl) (argsL := [(.long p2), (.int (3 : Int32))]) (rest := [(.int (20 : Int32)), (.ref ua), (.ref ma)]) (lenOf pd__28JI_29I rfl) rfl (by show 2 * 0 + _ ≤ _; exact Nat.le_of_eq rfl) (hb hby at_349) (fun _ _ => ⟨rfl, rfl, (by decide : 4 + 0 ≤ _), (by decide : 184 + 0 ≤ _)⟩)
  dsimp only [Pt.U, Pt.locs, Pt.cells, Pt.slots] at X62 l62 y62 z62 st62 hQ62
  rw [l62, y62, z62] at X62
  obtain ⟨rfl, N62q, HQ62⟩ := hQ62
  have N62 := Fr.app N60 N62q
  refine GoesW.pre (U' := T62.setTop (mkF m 354 #[.val (.long p1), .second, .val (.long p2), .second, .val (.int p3), .val (.int p4), .val (.ref ma), .val (.ref ua), .unset, .unset, .unset, .unset, .unset, .unset] [(.int p4), (.int (own_dig p2 (3 : Int32))), (.int (20 : Int32)), (.ref ua), (.ref ma)])) (fun t k => st62 t (XS.iload X62.here hx rfl (hb hby at_352) rfl k)) ?_
  obtain ⟨dg20, hdg20⟩ : ∃ z : Int32, z = (own_dig p2 (3 : Int32)) := ⟨_, rfl⟩
  rw [← hdg20]
  have bd20 : ¬ (dg20 < (0 : Int32)) ∧ dg20 < (32 : Int32) := by rw [hdg20]; exact own_digb _ _
  obtain ⟨_, _, ⟨T63, L63, k63, n63⟩, -, X63, ⟨Lc63, hQ63, l63, y63, z63⟩, st63⟩ := Jvm.LawKit.callS X62 hx (y := (⟨"com/example/known_paths/knownpaths/ulid/UlidParsePinLaw", "put", "([C[CIII)V"⟩ : MethodName)) hown (mvT hZ (wq hw 2 rfl)) (mvT hZ (wq hw 3 rfl)) (mvT hZ (wq hw 4 rfl)) (mvT hZ (wq hw 5 rfl)) (by decide) (own_backL (W := 0) (rm_putW l Z a0 hw [] ma ua k1 k2 ([(.int m0), (.int m1), (.int m2), (.int m3), (.int m4), (.int m5), (.int m6), (.int m7), (.int m8), (.int m9), (.int m10), (.int m11), (.int m12), (.int m13), (.int m14), (.int m15), (.int m16), (.int m17), (.int m18), (.int m19), (.int (0 : Int32)), (.int (0 : Int32)), (.int (0 : Int32)), (.int (0 : Int32)), (.int (0 : Int32)), (.int (0 : Int32))]) ([(.int u0), (.int u1), (.int u2), (.int u3), (.int u4), (.int u5), (.int u6), (.int u7), (.int u8), (.int u9), (.int u10), (.int u11), (.int u12), (.int u13), (.int u14), (.int u15), (.int u16), (.int u17), (.int u18), (.int u19), (.int (0 : Int32)), (.int (0 : Int32)), (.int (0 : Int32)), (.int (0 : Int32)), (.int (0 : Int32)), (.int (0 : Int32))]) 20 (20 : Int32) dg20 p4 cs sf la3 lb3 kl3 T60.heap n0 Z61 V_ma V_ua S_COMPACT_STRINGS S_SIOOBE_FORMATTER S_la3 (by decide) ⟨by decide, by decide⟩ (by decide) rfl rfl bd20.1 bd20.2 hcs hsf ne_ma_ua ne_ua_ma ne_la3_ma ne_lb3_ma ne_la3_ua ne_lb3_ua g_ma g_ua O) hZ (wq hw 5 rfl) (wq hw 4 rfl) (by decide) (by decide) Li_la3) (g := (mkF m 354 #[.val (.long p1), .second, .val (.long p2), .second, .val (.int p3), .val (.int p4), .val (.ref ma), .val (.ref ua), .unset, .unset, .unset, .unset, .unset, .unset] [(.int p4), (.int dg20), (.int (20 : Int32)), (.ref ua), (.ref ma)])) rfl (by rw [hml]; rfl) (argsL := [(.ref ma), (.ref ua), (.int (20 : Int32)), (.int dg20), (.int p4)]) (rest := []) (lenOf pd__28_5bC_5bCIII_29V rfl) rfl (by show 2 * 0 + _ ≤ _; exact Nat.le_of_eq rfl) (hb hby at_354) (fun _ _ => ⟨rfl, HQ62, (by decide : 4 + 0 ≤ _), (by decide : 184 + 0 ≤ _)⟩)
  dsimp only [Pt.U, Pt.locs, Pt.cells, Pt.slots] at X63 l63 y63 z63 st63 hQ63
  rw [l63, y63, z63] at X63
  obtain ⟨rfl, N63q, KQ63, fo0_63, fo1_63⟩ := hQ63
  have N63 := Fr.app N62 N63q
  have E_ma := E_ma.keep KQ63
  have E_ua := E_ua.keep KQ63
  have S_la3 := S_la3.keep KQ63 (ninS ne_la3_ma (ninS ne_la3_ua nin0)) (ninS ne_lb3_ma (ninS ne_lb3_ua nin0))
  have Z64 : n0 ≤ T63.heap.size := Nat.le_trans Z61 KQ63.1
  have O := O.keep KQ63 (allS (P := fun x => n0 ≤ x) g_ma (allS (P := fun x => n0 ≤ x) g_ua all0))
  have hsafe := (allS (P := fun x => Safe Z own_EL T3.vm _ x) SF_ma (allS (P := fun x => Safe Z own_EL T3.vm _ x) SF_ua all0))
  have SF_ma := Safe.keep KQ63 hsafe H SF_ma
  have SF_ua := Safe.keep KQ63 hsafe H SF_ua
  have CR := CR.trans (CHr.keep KQ63 hsafe H)
  have H := H.keep KQ63 hsafe
  have hk := Nat.le_trans hk KQ63.1
  have V_ua := fo0_63
  have V_ma := fo1_63
  refine GoesW.pre (U' := T63.setTop (mkF m 357 #[.val (.long p1), .second, .val (.long p2), .second, .val (.int p3), .val (.int p4), .val (.ref ma), .val (.ref ua), .unset, .unset, .unset, .unset, .unset, .unset] [])) (fun t k => st63 t k) ?_
  obtain ⟨u20, hu20⟩ : ∃ z, z = own_dc dg20 := ⟨_, rfl⟩
  rw [← hu20] at V_ua V_ma
  obtain ⟨m20, hm20⟩ : ∃ z, z = own_mc u20 p4 (20 : Int32) := ⟨_, rfl⟩
  rw [← hm20] at V_ma
  have V_ma : Arv Z T63.heap ma k1 .char (26 : Int32) [(.int m0), (.int m1), (.int m2), (.int m3), (.int m4), (.int m5), (.int m6), (.int m7), (.int m8), (.int m9), (.int m10), (.int m11), (.int m12), (.int m13), (.int m14), (.int m15), (.int m16), (.int m17), (.int m18), (.int m19), (.int m20), (.int (0 : Int32)), (.int (0 : Int32)), (.int (0 : Int32)), (.int (0 : Int32)), (.int (0 : Int32))] (.int (0 : Int32)) := V_ma
  have V_ua : Arv Z T63.heap ua k2 .char (26 : Int32) [(.int u0), (.int u1), (.int u2), (.int u3), (.int u4), (.int u5), (.int u6), (.int u7), (.int u8), (.int u9), (.int u10), (.int u11), (.int u12), (.int u13), (.int u14), (.int u15), (.int u16), (.int u17), (.int u18), (.int u19), (.int u20), (.int (0 : Int32)), (.int (0 : Int32)), (.int (0 : Int32)), (.int (0 : Int32)), (.int (0 : Int32))] (.int (0 : Int32)) := V_ua
  refine GoesW.pre (U' := T63.setTop (mkF m 365 #[.val (.long p1), .second, .val (.long p2), .second, .val (.int p3), .val (.int p4), .val (.ref ma), .val (.ref ua), .unset, .unset, .unset, .unset, .unset, .unset] [(.int (2 : Int32)), (.long p2), (.int (21 : Int32)), (.ref ua), (.ref ma)])) (fun t k => XS.aload X63.here hx rfl (hb hby at_357) rfl rfl (XS.aload X63.here hx rfl (hb hby at_359) rfl rfl (XS.bipush X63.here hx rfl (hb hby at_361) (XS.lloadN X63.here hx rfl (hb hby at_363) rfl (XS.iconst X63.here hx rfl (hb hby at_364) k))))) ?_
  obtain ⟨_, _, ⟨T65, L65, k65, n65⟩, -, X65, ⟨Lc65, hQ65, l65, y65, z65⟩, st65⟩ := Jvm.LawKit.callS X63 hx (y := (⟨"com/example/known_paths/knownpaths/ulid/UlidParsePinLaw", "dig", "(JI)I"⟩ : MethodName)) hown (mvT hZ (wq hw 39 rfl)) (mvT hZ (wq hw 40 rfl)) (mvT hZ (wq hw 4 rfl)) (mvT hZ (wq hw 41 rfl)) (by decide) (backOf (W := 3) (rm_dig l Z a0 hw [] p2 (2 : Int32) T63.heap n0 Z64) hZ (wq hw 41 rfl) (wq hw 4 rfl) (by decide) (by decide)) (g := (mkF m 365 #[.val (.long p1), .second, .val (.long p2), .second, .val (.int p3), .val (.int p4), .val (.ref ma), .val (.ref ua), .unset, .unset, .unset, .unset, .unset, .unset] [(.int (2 : Int32)), (.long p2), (.int (21 : Int32)), (.ref ua), (.ref ma)])) rfl (by rw [hml]; rfl) (argsL := [(.long p2), (.int (2 : Int32))]) (rest := [(.int (21 : Int32)), (.ref ua), (.ref ma)]) (lenOf pd__28JI_29I rfl) rfl (by show 2 * 0 + _ ≤ _; exact Nat.le_of_eq rfl) (hb hby at_365) (fun _ _ => ⟨rfl, rfl, (by decide : 4 + 0 ≤ _), (by decide : 184 + 0 ≤ _)⟩)
  dsimp only [Pt.U, Pt.locs, Pt.cells, Pt.slots] at X65 l65 y65 z65 st65 hQ65
  rw [l65, y65, z65] at X65
  obtain ⟨rfl, N65q, HQ65⟩ := hQ65
  have N65 := Fr.app N63 N65q
  refine GoesW.pre (U' := T65.setTop (mkF m 370 #[.val (.long p1), .second, .val (.long p2), .second, .val (.int p3), .val (.int p4), .val (.ref ma), .val (.ref ua), .unset, .unset, .unset, .unset, .unset, .unset] [(.int p4), (.int (own_dig p2 (2 : Int32))), (.int (21 : Int32)), (.ref ua), (.ref ma)])) (fun t k => st65 t (XS.iload X65.here hx rfl (hb hby at_368) rfl k)) ?_
  obtain ⟨dg21, hdg21⟩ : ∃ z : Int32, z = (own_dig p2 (2 : Int32)) := ⟨_, rfl⟩
  rw [← hdg21]
  have bd21 : ¬ (dg21 < (0 : Int32)) ∧ dg21 < (32 : Int32) := by rw [hdg21]; exact own_digb _ _
  obtain ⟨_, _, ⟨T66, L66, k66, n66⟩, -, X66, ⟨Lc66, hQ66, l66, y66, z66⟩, st66⟩ := Jvm.LawKit.callS X65 hx (y := (⟨"com/example/known_paths/knownpaths/ulid/UlidParsePinLaw", "put", "([C[CIII)V"⟩ : MethodName)) hown (mvT hZ (wq hw 2 rfl)) (mvT hZ (wq hw 3 rfl)) (mvT hZ (wq hw 4 rfl)) (mvT hZ (wq hw 5 rfl)) (by decide) (own_backL (W := 0) (rm_putW l Z a0 hw [] ma ua k1 k2 ([(.int m0), (.int m1), (.int m2), (.int m3), (.int m4), (.int m5), (.int m6), (.int m7), (.int m8), (.int m9), (.int m10), (.int m11), (.int m12), (.int m13), (.int m14), (.int m15), (.int m16), (.int m17), (.int m18), (.int m19), (.int m20), (.int (0 : Int32)), (.int (0 : Int32)), (.int (0 : Int32)), (.int (0 : Int32)), (.int (0 : Int32))]) ([(.int u0), (.int u1), (.int u2), (.int u3), (.int u4), (.int u5), (.int u6), (.int u7), (.int u8), (.int u9), (.int u10), (.int u11), (.int u12), (.int u13), (.int u14), (.int u15), (.int u16), (.int u17), (.int u18), (.int u19), (.int u20), (.int (0 : Int32)), (.int (0 : Int32)), (.int (0 : Int32)), (.int (0 : Int32)), (.int (0 : Int32))]) 21 (21 : Int32) dg21 p4 cs sf la3 lb3 kl3 T63.heap n0 Z64 V_ma V_ua S_COMPACT_STRINGS S_SIOOBE_FORMATTER S_la3 (by decide) ⟨by decide, by decide⟩ (by decide) rfl rfl bd21.1 bd21.2 hcs hsf ne_ma_ua ne_ua_ma ne_la3_ma ne_lb3_ma ne_la3_ua ne_lb3_ua g_ma g_ua O) hZ (wq hw 5 rfl) (wq hw 4 rfl) (by decide) (by decide) Li_la3) (g := (mkF m 370 #[.val (.long p1), .second, .val (.long p2), .second, .val (.int p3), .val (.int p4), .val (.ref ma), .val (.ref ua), .unset, .unset, .unset, .unset, .unset, .unset] [(.int p4), (.int dg21), (.int (21 : Int32)), (.ref ua), (.ref ma)])) rfl (by rw [hml]; rfl) (argsL := [(.ref ma), (.ref ua), (.int (21 : Int32)), (.int dg21), (.int p4)]) (rest := []) (lenOf pd__28_5bC_5bCIII_29V rfl) rfl (by show 2 * 0 + _ ≤ _; exact Nat.le_of_eq rfl) (hb hby at_370) (fun _ _ => ⟨rfl, HQ65, (by decide : 4 + 0 ≤ _), (by decide : 184 + 0 ≤ _)⟩)
  dsimp only [Pt.U, Pt.locs, Pt.cells, Pt.slots] at X66 l66 y66 z66 st66 hQ66
  rw [l66, y66, z66] at X66
  obtain ⟨rfl, N66q, KQ66, fo0_66, fo1_66⟩ := hQ66
  have N66 := Fr.app N65 N66q
  have E_ma := E_ma.keep KQ66
  have E_ua := E_ua.keep KQ66
  have S_la3 := S_la3.keep KQ66 (ninS ne_la3_ma (ninS ne_la3_ua nin0)) (ninS ne_lb3_ma (ninS ne_lb3_ua nin0))
  have Z67 : n0 ≤ T66.heap.size := Nat.le_trans Z64 KQ66.1
  have O := O.keep KQ66 (allS (P := fun x => n0 ≤ x) g_ma (allS (P := fun x => n0 ≤ x) g_ua all0))
  have hsafe := (allS (P := fun x => Safe Z own_EL T3.vm _ x) SF_ma (allS (P := fun x => Safe Z own_EL T3.vm _ x) SF_ua all0))
  have SF_ma := Safe.keep KQ66 hsafe H SF_ma
  have SF_ua := Safe.keep KQ66 hsafe H SF_ua
  have CR := CR.trans (CHr.keep KQ66 hsafe H)
  have H := H.keep KQ66 hsafe
  have hk := Nat.le_trans hk KQ66.1
  have V_ua := fo0_66
  have V_ma := fo1_66
  refine GoesW.pre (U' := T66.setTop (mkF m 373 #[.val (.long p1), .second, .val (.long p2), .second, .val (.int p3), .val (.int p4), .val (.ref ma), .val (.ref ua), .unset, .unset, .unset, .unset, .unset, .unset] [])) (fun t k => st66 t k) ?_
  obtain ⟨u21, hu21⟩ : ∃ z, z = own_dc dg21 := ⟨_, rfl⟩
  rw [← hu21] at V_ua V_ma
  obtain ⟨m21, hm21⟩ : ∃ z, z = own_mc u21 p4 (21 : Int32) := ⟨_, rfl⟩
  rw [← hm21] at V_ma
  have V_ma : Arv Z T66.heap ma k1 .char (26 : Int32) [(.int m0), (.int m1), (.int m2), (.int m3), (.int m4), (.int m5), (.int m6), (.int m7), (.int m8), (.int m9), (.int m10), (.int m11), (.int m12), (.int m13), (.int m14), (.int m15), (.int m16), (.int m17), (.int m18), (.int m19), (.int m20), (.int m21), (.int (0 : Int32)), (.int (0 : Int32)), (.int (0 : Int32)), (.int (0 : Int32))] (.int (0 : Int32)) := V_ma
  have V_ua : Arv Z T66.heap ua k2 .char (26 : Int32) [(.int u0), (.int u1), (.int u2), (.int u3), (.int u4), (.int u5), (.int u6), (.int u7), (.int u8), (.int u9), (.int u10), (.int u11), (.int u12), (.int u13), (.int u14), (.int u15), (.int u16), (.int u17), (.int u18), (.int u19), (.int u20), (.int u21), (.int (0 : Int32)), (.int (0 : Int32)), (.int (0 : Int32)), (.int (0 : Int32))] (.int (0 : Int32)) := V_ua
  refine GoesW.pre (U' := T66.setTop (mkF m 381 #[.val (.long p1), .second, .val (.long p2), .second, .val (.int p3), .val (.int p4), .val (.ref ma), .val (.ref ua), .unset, .unset, .unset, .unset, .unset, .unset] [(.int (1 : Int32)), (.long p2), (.int (22 : Int32)), (.ref ua), (.ref ma)])) (fun t k => XS.aload X66.here hx rfl (hb hby at_373) rfl rfl (XS.aload X66.here hx rfl (hb hby at_375) rfl rfl (XS.bipush X66.here hx rfl (hb hby at_377) (XS.lloadN X66.here hx rfl (hb hby at_379) rfl (XS.iconst X66.here hx rfl (hb hby at_380) k))))) ?_
  obtain ⟨_, _, ⟨T68, L68, k68, n68⟩, -, X68, ⟨Lc68, hQ68, l68, y68, z68⟩, st68⟩ := Jvm.LawKit.callS X66 hx (y := (⟨"com/example/known_paths/knownpaths/ulid/UlidParsePinLaw", "dig", "(JI)I"⟩ : MethodName)) hown (mvT hZ (wq hw 39 rfl)) (mvT hZ (wq hw 40 rfl)) (mvT hZ (wq hw 4 rfl)) (mvT hZ (wq hw 41 rfl)) (by decide) (backOf (W := 3) (rm_dig l Z a0 hw [] p2 (1 : Int32) T66.heap n0 Z67) hZ (wq hw 41 rfl) (wq hw 4 rfl) (by decide) (by decide)) (g := (mkF m 381 #[.val (.long p1), .second, .val (.long p2), .second, .val (.int p3), .val (.int p4), .val (.ref ma), .val (.ref ua), .unset, .unset, .unset, .unset, .unset, .unset] [(.int (1 : Int32)), (.long p2), (.int (22 : Int32)), (.ref ua), (.ref ma)])) rfl (by rw [hml]; rfl) (argsL := [(.long p2), (.int (1 : Int32))]) (rest := [(.int (22 : Int32)), (.ref ua), (.ref ma)]) (lenOf pd__28JI_29I rfl) rfl (by show 2 * 0 + _ ≤ _; exact Nat.le_of_eq rfl) (hb hby at_381) (fun _ _ => ⟨rfl, rfl, (by decide : 4 + 0 ≤ _), (by decide : 184 + 0 ≤ _)⟩)
  dsimp only [Pt.U, Pt.locs, Pt.cells, Pt.slots] at X68 l68 y68 z68 st68 hQ68
  rw [l68, y68, z68] at X68
  obtain ⟨rfl, N68q, HQ68⟩ := hQ68
  have N68 := Fr.app N66 N68q
  refine GoesW.pre (U' := T68.setTop (mkF m 386 #[.val (.long p1), .second, .val (.long p2), .second, .val (.int p3), .val (.int p4), .val (.ref ma), .val (.ref ua), .unset, .unset, .unset, .unset, .unset, .unset] [(.int p4), (.int (own_dig p2 (1 : Int32))), (.int (22 : Int32)), (.ref ua), (.ref ma)])) (fun t k => st68 t (XS.iload X68.here hx rfl (hb hby at_384) rfl k)) ?_
  obtain ⟨dg22, hdg22⟩ : ∃ z : Int32, z = (own_dig p2 (1 : Int32)) := ⟨_, rfl⟩
  rw [← hdg22]
  have bd22 : ¬ (dg22 < (0 : Int32)) ∧ dg22 < (32 : Int32) := by rw [hdg22]; exact own_digb _ _
  obtain ⟨_, _, ⟨T69, L69, k69, n69⟩, -, X69, ⟨Lc69, hQ69, l69, y69, z69⟩, st69⟩ := Jvm.LawKit.callS X68 hx (y := (⟨"com/example/known_paths/knownpaths/ulid/UlidParsePinLaw", "put", "([C[CIII)V"⟩ : MethodName)) hown (mvT hZ (wq hw 2 rfl)) (mvT hZ (wq hw 3 rfl)) (mvT hZ (wq hw 4 rfl)) (mvT hZ (wq hw 5 rfl)) (by decide) (own_backL (W := 0) (rm_putW l Z a0 hw [] ma ua k1 k2 ([(.int m0), (.int m1), (.int m2), (.int m3), (.int m4), (.int m5), (.int m6), (.int m7), (.int m8), (.int m9), (.int m10), (.int m11), (.int m12), (.int m13), (.int m14), (.int m15), (.int m16), (.int m17), (.int m18), (.int m19), (.int m20), (.int m21), (.int (0 : Int32)), (.int (0 : Int32)), (.int (0 : Int32)), (.int (0 : Int32))]) ([(.int u0), (.int u1), (.int u2), (.int u3), (.int u4), (.int u5), (.int u6), (.int u7), (.int u8), (.int u9), (.int u10), (.int u11), (.int u12), (.int u13), (.int u14), (.int u15), (.int u16), (.int u17), (.int u18), (.int u19), (.int u20), (.int u21), (.int (0 : Int32)), (.int (0 : Int32)), (.int (0 : Int32)), (.int (0 : Int32))]) 22 (22 : Int32) dg22 p4 cs sf la3 lb3 kl3 T66.heap n0 Z67 V_ma V_ua S_COMPACT_STRINGS S_SIOOBE_FORMATTER S_la3 (by decide) ⟨by decide, by decide⟩ (by decide) rfl rfl bd22.1 bd22.2 hcs hsf ne_ma_ua ne_ua_ma ne_la3_ma ne_lb3_ma ne_la3_ua ne_lb3_ua g_ma g_ua O) hZ (wq hw 5 rfl) (wq hw 4 rfl) (by decide) (by decide) Li_la3) (g := (mkF m 386 #[.val (.long p1), .second, .val (.long p2), .second, .val (.int p3), .val (.int p4), .val (.ref ma), .val (.ref ua), .unset, .unset, .unset, .unset, .unset, .unset] [(.int p4), (.int dg22), (.int (22 : Int32)), (.ref ua), (.ref ma)])) rfl (by rw [hml]; rfl) (argsL := [(.ref ma), (.ref ua), (.int (22 : Int32)), (.int dg22), (.int p4)]) (rest := []) (lenOf pd__28_5bC_5bCIII_29V rfl) rfl (by show 2 * 0 + _ ≤ _; exact Nat.le_of_eq rfl) (hb hby at_386) (fun _ _ => ⟨rfl, HQ68, (by decide : 4 + 0 ≤ _), (by decide : 184 + 0 ≤ _)⟩)
  dsimp only [Pt.U, Pt.locs, Pt.cells, Pt.slots] at X69 l69 y69 z69 st69 hQ69
  rw [l69, y69, z69] at X69
  obtain ⟨rfl, N69q, KQ69, fo0_69, fo1_69⟩ := hQ69
  have N69 := Fr.app N68 N69q
  have E_ma := E_ma.keep KQ69
  have E_ua := E_ua.keep KQ69
  have S_la3 := S_la3.keep KQ69 (ninS ne_la3_ma (ninS ne_la3_ua nin0)) (ninS ne_lb3_ma (ninS ne_lb3_ua nin0))
  have Z70 : n0 ≤ T69.heap.size := Nat.le_trans Z67 KQ69.1
  have O := O.keep KQ69 (allS (P := fun x => n0 ≤ x) g_ma (allS (P := fun x => n0 ≤ x) g_ua all0))
  have hsafe := (allS (P := fun x => Safe Z own_EL T3.vm _ x) SF_ma (allS (P := fun x => Safe Z own_EL T3.vm _ x) SF_ua all0))
  have SF_ma := Safe.keep KQ69 hsafe H SF_ma
  have SF_ua := Safe.keep KQ69 hsafe H SF_ua
  have CR := CR.trans (CHr.keep KQ69 hsafe H)
  have H := H.keep KQ69 hsafe
  have hk := Nat.le_trans hk KQ69.1
  have V_ua := fo0_69
  have V_ma := fo1_69
  refine GoesW.pre (U' := T69.setTop (mkF m 389 #[.val (.long p1), .second, .val (.long p2), .second, .val (.int p3), .val (.int p4), .val (.ref ma), .val (.ref ua), .unset, .unset, .unset, .unset, .unset, .unset] [])) (fun t k => st69 t k) ?_
  obtain ⟨u22, hu22⟩ : ∃ z, z = own_dc dg22 := ⟨_, rfl⟩
  rw [← hu22] at V_ua V_ma
  obtain ⟨m22, hm22⟩ : ∃ z, z = own_mc u22 p4 (22 : Int32) := ⟨_, rfl⟩
  rw [← hm22] at V_ma
  have V_ma : Arv Z T69.heap ma k1 .char (26 : Int32) [(.int m0), (.int m1), (.int m2), (.int m3), (.int m4), (.int m5), (.int m6), (.int m7), (.int m8), (.int m9), (.int m10), (.int m11), (.int m12), (.int m13), (.int m14), (.int m15), (.int m16), (.int m17), (.int m18), (.int m19), (.int m20), (.int m21), (.int m22), (.int (0 : Int32)), (.int (0 : Int32)), (.int (0 : Int32))] (.int (0 : Int32)) := V_ma
  have V_ua : Arv Z T69.heap ua k2 .char (26 : Int32) [(.int u0), (.int u1), (.int u2), (.int u3), (.int u4), (.int u5), (.int u6), (.int u7), (.int u8), (.int u9), (.int u10), (.int u11), (.int u12), (.int u13), (.int u14), (.int u15), (.int u16), (.int u17), (.int u18), (.int u19), (.int u20), (.int u21), (.int u22), (.int (0 : Int32)), (.int (0 : Int32)), (.int (0 : Int32))] (.int (0 : Int32)) := V_ua
  refine GoesW.pre (U' := T69.setTop (mkF m 397 #[.val (.long p1), .second, .val (.long p2), .second, .val (.int p3), .val (.int p4), .val (.ref ma), .val (.ref ua), .unset, .unset, .unset, .unset, .unset, .unset] [(.int (0 : Int32)), (.long p2), (.int (23 : Int32)), (.ref ua), (.ref ma)])) (fun t k => XS.aload X69.here hx rfl (hb hby at_389) rfl rfl (XS.aload X69.here hx rfl (hb hby at_391) rfl rfl (XS.bipush X69.here hx rfl (hb hby at_393) (XS.lloadN X69.here hx rfl (hb hby at_395) rfl (XS.iconst X69.here hx rfl (hb hby at_396) k))))) ?_
  obtain ⟨_, _, ⟨T71, L71, k71, n71⟩, -, X71, ⟨Lc71, hQ71, l71, y71, z71⟩, st71⟩ := Jvm.LawKit.callS X69 hx (y := (⟨"com/example/known_paths/knownpaths/ulid/UlidParsePinLaw", "dig", "(JI)I"⟩ : MethodName)) hown (mvT hZ (wq hw 39 rfl)) (mvT hZ (wq hw 40 rfl)) (mvT hZ (wq hw 4 rfl)) (mvT hZ (wq hw 41 rfl)) (by decide) (backOf (W := 3) (rm_dig l Z a0 hw [] p2 (0 : Int32) T69.heap n0 Z70) hZ (wq hw 41 rfl) (wq hw 4 rfl) (by decide) (by decide)) (g := (mkF m 397 #[.val (.long p1), .second, .val (.long p2), .second, .val (.int p3), .val (.int p4), .val (.ref ma), .val (.ref ua), .unset, .unset, .unset, .unset, .unset, .unset] [(.int (0 : Int32)), (.long p2), (.int (23 : Int32)), (.ref ua), (.ref ma)])) rfl (by rw [hml]; rfl) (argsL := [(.long p2), (.int (0 : Int32))]) (rest := [(.int (23 : Int32)), (.ref ua), (.ref ma)]) (lenOf pd__28JI_29I rfl) rfl (by show 2 * 0 + _ ≤ _; exact Nat.le_of_eq rfl) (hb hby at_397) (fun _ _ => ⟨rfl, rfl, (by decide : 4 + 0 ≤ _), (by decide : 184 + 0 ≤ _)⟩)
  dsimp only [Pt.U, Pt.locs, Pt.cells, Pt.slots] at X71 l71 y71 z71 st71 hQ71
  rw [l71, y71, z71] at X71
  obtain ⟨rfl, N71q, HQ71⟩ := hQ71
  have N71 := Fr.app N69 N71q
  refine GoesW.pre (U' := T71.setTop (mkF m 402 #[.val (.long p1), .second, .val (.long p2), .second, .val (.int p3), .val (.int p4), .val (.ref ma), .val (.ref ua), .unset, .unset, .unset, .unset, .unset, .unset] [(.int p4), (.int (own_dig p2 (0 : Int32))), (.int (23 : Int32)), (.ref ua), (.ref ma)])) (fun t k => st71 t (XS.iload X71.here hx rfl (hb hby at_400) rfl k)) ?_
  obtain ⟨dg23, hdg23⟩ : ∃ z : Int32, z = (own_dig p2 (0 : Int32)) := ⟨_, rfl⟩
  rw [← hdg23]
  have bd23 : ¬ (dg23 < (0 : Int32)) ∧ dg23 < (32 : Int32) := by rw [hdg23]; exact own_digb _ _
  obtain ⟨_, _, ⟨T72, L72, k72, n72⟩, -, X72, ⟨Lc72, hQ72, l72, y72, z72⟩, st72⟩ := Jvm.LawKit.callS X71 hx (y := (⟨"com/example/known_paths/knownpaths/ulid/UlidParsePinLaw", "put", "([C[CIII)V"⟩ : MethodName)) hown (mvT hZ (wq hw 2 rfl)) (mvT hZ (wq hw 3 rfl)) (mvT hZ (wq hw 4 rfl)) (mvT hZ (wq hw 5 rfl)) (by decide) (own_backL (W := 0) (rm_putW l Z a0 hw [] ma ua k1 k2 ([(.int m0), (.int m1), (.int m2), (.int m3), (.int m4), (.int m5), (.int m6), (.int m7), (.int m8), (.int m9), (.int m10), (.int m11), (.int m12), (.int m13), (.int m14), (.int m15), (.int m16), (.int m17), (.int m18), (.int m19), (.int m20), (.int m21), (.int m22), (.int (0 : Int32)), (.int (0 : Int32)), (.int (0 : Int32))]) ([(.int u0), (.int u1), (.int u2), (.int u3), (.int u4), (.int u5), (.int u6), (.int u7), (.int u8), (.int u9), (.int u10), (.int u11), (.int u12), (.int u13), (.int u14), (.int u15), (.int u16), (.int u17), (.int u18), (.int u19), (.int u20), (.int u21), (.int u22), (.int (0 : Int32)), (.int (0 : Int32)), (.int (0 : Int32))]) 23 (23 : Int32) dg23 p4 cs sf la3 lb3 kl3 T69.heap n0 Z70 V_ma V_ua S_COMPACT_STRINGS S_SIOOBE_FORMATTER S_la3 (by decide) ⟨by decide, by decide⟩ (by decide) rfl rfl bd23.1 bd23.2 hcs hsf ne_ma_ua ne_ua_ma ne_la3_ma ne_lb3_ma ne_la3_ua ne_lb3_ua g_ma g_ua O) hZ (wq hw 5 rfl) (wq hw 4 rfl) (by decide) (by decide) Li_la3) (g := (mkF m 402 #[.val (.long p1), .second, .val (.long p2), .second, .val (.int p3), .val (.int p4), .val (.ref ma), .val (.ref ua), .unset, .unset, .unset, .unset, .unset, .unset] [(.int p4), (.int dg23), (.int (23 : Int32)), (.ref ua), (.ref ma)])) rfl (by rw [hml]; rfl) (argsL := [(.ref ma), (.ref ua), (.int (23 : Int32)), (.int dg23), (.int p4)]) (rest := []) (lenOf pd__28_5bC_5bCIII_29V rfl) rfl (by show 2 * 0 + _ ≤ _; exact Nat.le_of_eq rfl) (hb hby at_402) (fun _ _ => ⟨rfl, HQ71, (by decide : 4 + 0 ≤ _), (by decide : 184 + 0 ≤ _)⟩)
  dsimp only [Pt.U, Pt.locs, Pt.cells, Pt.slots] at X72 l72 y72 z72 st72 hQ72
  rw [l72, y72, z72] at X72
  obtain ⟨rfl, N72q, KQ72, fo0_72, fo1_72⟩ := hQ72
  have N72 := Fr.app N71 N72q
  have E_ma := E_ma.keep KQ72
  have E_ua := E_ua.keep KQ72
  have S_la3 := S_la3.keep KQ72 (ninS ne_la3_ma (ninS ne_la3_ua nin0)) (ninS ne_lb3_ma (ninS ne_lb3_ua nin0))
  have Z73 : n0 ≤ T72.heap.size := Nat.le_trans Z70 KQ72.1
  have O := O.keep KQ72 (allS (P := fun x => n0 ≤ x) g_ma (allS (P := fun x => n0 ≤ x) g_ua all0))
  have hsafe := (allS (P := fun x => Safe Z own_EL T3.vm _ x) SF_ma (allS (P := fun x => Safe Z own_EL T3.vm _ x) SF_ua all0))
  have SF_ma := Safe.keep KQ72 hsafe H SF_ma
  have SF_ua := Safe.keep KQ72 hsafe H SF_ua
  have CR := CR.trans (CHr.keep KQ72 hsafe H)
  have H := H.keep KQ72 hsafe
  have hk := Nat.le_trans hk KQ72.1
  have V_ua := fo0_72
  have V_ma := fo1_72
  refine GoesW.pre (U' := T72.setTop (mkF m 405 #[.val (.long p1), .second, .val (.long p2), .second, .val (.int p3), .val (.int p4), .val (.ref ma), .val (.ref ua), .unset, .unset, .unset, .unset, .unset, .unset] [])) (fun t k => st72 t k) ?_
  obtain ⟨u23, hu23⟩ : ∃ z, z = own_dc dg23 := ⟨_, rfl⟩
  rw [← hu23] at V_ua V_ma
  obtain ⟨m23, hm23⟩ : ∃ z, z = own_mc u23 p4 (23 : Int32) := ⟨_, rfl⟩
  rw [← hm23] at V_ma
  have V_ma : Arv Z T72.heap ma k1 .char (26 : Int32) [(.int m0), (.int m1), (.int m2), (.int m3), (.int m4), (.int m5), (.int m6), (.int m7), (.int m8), (.int m9), (.int m10), (.int m11), (.int m12), (.int m13), (.int m14), (.int m15), (.int m16), (.int m17), (.int m18), (.int m19), (.int m20), (.int m21), (.int m22), (.int m23), (.int (0 : Int32)), (.int (0 : Int32))] (.int (0 : Int32)) := V_ma
  have V_ua : Arv Z T72.heap ua k2 .char (26 : Int32) [(.int u0), (.int u1), (.int u2), (.int u3), (.int u4), (.int u5), (.int u6), (.int u7), (.int u8), (.int u9), (.int u10), (.int u11), (.int u12), (.int u13), (.int u14), (.int u15), (.int u16), (.int u17), (.int u18), (.int u19), (.int u20), (.int u21), (.int u22), (.int u23), (.int (0 : Int32)), (.int (0 : Int32))] (.int (0 : Int32)) := V_ua
  refine GoesW.pre (U' := T72.setTop (mkF m 418 #[.val (.long p1), .second, .val (.long p2), .second, .val (.int p3), .val (.int p4), .val (.ref ma), .val (.ref ua), .unset, .unset, .unset, .unset, .unset, .unset] [(.int p4), (.int (p3 &&& (31 : Int32))), (.int (24 : Int32)), (.ref ua), (.ref ma)])) (fun t k => XS.aload X72.here hx rfl (hb hby at_405) rfl rfl (XS.aload X72.here hx rfl (hb hby at_407) rfl rfl (XS.bipush X72.here hx rfl (hb hby at_409) (XS.iload X72.here hx rfl (hb hby at_411) rfl (XS.bipush X72.here hx rfl (hb hby at_413) (XS.iand X72.here hx rfl (hb hby at_415) rfl (XS.iload X72.here hx rfl (hb hby at_416) rfl k))))))) ?_
  obtain ⟨dg24, hdg24⟩ : ∃ z : Int32, z = (p3 &&& (31 : Int32)) := ⟨_, rfl⟩
  rw [← hdg24]
  have bd24 : ¬ (dg24 < (0 : Int32)) ∧ dg24 < (32 : Int32) := by rw [hdg24]; exact own_a31 _
  obtain ⟨_, _, ⟨T74, L74, k74, n74⟩, -, X74, ⟨Lc74, hQ74, l74, y74, z74⟩, st74⟩ := Jvm.LawKit.callS X72 hx (y := (⟨"com/example/known_paths/knownpaths/ulid/UlidParsePinLaw", "put", "([C[CIII)V"⟩ : MethodName)) hown (mvT hZ (wq hw 2 rfl)) (mvT hZ (wq hw 3 rfl)) (mvT hZ (wq hw 4 rfl)) (mvT hZ (wq hw 5 rfl)) (by decide) (own_backL (W := 0) (rm_putW l Z a0 hw [] ma ua k1 k2 ([(.int m0), (.int m1), (.int m2), (.int m3), (.int m4), (.int m5), (.int m6), (.int m7), (.int m8), (.int m9), (.int m10), (.int m11), (.int m12), (.int m13), (.int m14), (.int m15), (.int m16), (.int m17), (.int m18), (.int m19), (.int m20), (.int m21), (.int m22), (.int m23), (.int (0 : Int32)), (.int (0 : Int32))]) ([(.int u0), (.int u1), (.int u2), (.int u3), (.int u4), (.int u5), (.int u6), (.int u7), (.int u8), (.int u9), (.int u10), (.int u11), (.int u12), (.int u13), (.int u14), (.int u15), (.int u16), (.int u17), (.int u18), (.int u19), (.int u20), (.int u21), (.int u22), (.int u23), (.int (0 : Int32)), (.int (0 : Int32))]) 24 (24 : Int32) dg24 p4 cs sf la3 lb3 kl3 T72.heap n0 Z73 V_ma V_ua S_COMPACT_STRINGS S_SIOOBE_FORMATTER S_la3 (by decide) ⟨by decide, by decide⟩ (by decide) rfl rfl bd24.1 bd24.2 hcs hsf ne_ma_ua ne_ua_ma ne_la3_ma ne_lb3_ma ne_la3_ua ne_lb3_ua g_ma g_ua O) hZ (wq hw 5 rfl) (wq hw 4 rfl) (by decide) (by decide) Li_la3) (g := (mkF m 418 #[.val (.long p1), .second, .val (.long p2), .second, .val (.int p3), .val (.int p4), .val (.ref ma), .val (.ref ua), .unset, .unset, .unset, .unset, .unset, .unset] [(.int p4), (.int dg24), (.int (24 : Int32)), (.ref ua), (.ref ma)])) rfl (by rw [hml]; rfl) (argsL := [(.ref ma), (.ref ua), (.int (24 : Int32)), (.int dg24), (.int p4)]) (rest := []) (lenOf pd__28_5bC_5bCIII_29V rfl) rfl (by show 2 * 0 + _ ≤ _; exact Nat.le_of_eq rfl) (hb hby at_418) (fun _ _ => ⟨rfl, rfl, (by decide : 4 + 0 ≤ _), (by decide : 184 + 0 ≤ _)⟩)
  dsimp only [Pt.U, Pt.locs, Pt.cells, Pt.slots] at X74 l74 y74 z74 st74 hQ74
  rw [l74, y74, z74] at X74
  obtain ⟨rfl, N74q, KQ74, fo0_74, fo1_74⟩ := hQ74
  have N74 := Fr.app N72 N74q
  have E_ma := E_ma.keep KQ74
  have E_ua := E_ua.keep KQ74
  have S_la3 := S_la3.keep KQ74 (ninS ne_la3_ma (ninS ne_la3_ua nin0)) (ninS ne_lb3_ma (ninS ne_lb3_ua nin0))
  have Z75 : n0 ≤ T74.heap.size := Nat.le_trans Z73 KQ74.1
  have O := O.keep KQ74 (allS (P := fun x => n0 ≤ x) g_ma (allS (P := fun x => n0 ≤ x) g_ua all0))
  have hsafe := (allS (P := fun x => Safe Z own_EL T3.vm _ x) SF_ma (allS (P := fun x => Safe Z own_EL T3.vm _ x) SF_ua all0))
  have SF_ma := Safe.keep KQ74 hsafe H SF_ma
  have SF_ua := Safe.keep KQ74 hsafe H SF_ua
  have CR := CR.trans (CHr.keep KQ74 hsafe H)
  have H := H.keep KQ74 hsafe
  have hk := Nat.le_trans hk KQ74.1
  have V_ua := fo0_74
  have V_ma := fo1_74
  refine GoesW.pre (U' := T74.setTop (mkF m 421 #[.val (.long p1), .second, .val (.long p2), .second, .val (.int p3), .val (.int p4), .val (.ref ma), .val (.ref ua), .unset, .unset, .unset, .unset, .unset, .unset] [])) (fun t k => st74 t k) ?_
  obtain ⟨u24, hu24⟩ : ∃ z, z = own_dc dg24 := ⟨_, rfl⟩
  rw [← hu24] at V_ua V_ma
  obtain ⟨m24, hm24⟩ : ∃ z, z = own_mc u24 p4 (24 : Int32) := ⟨_, rfl⟩
  rw [← hm24] at V_ma
  have V_ma : Arv Z T74.heap ma k1 .char (26 : Int32) [(.int m0), (.int m1), (.int m2), (.int m3), (.int m4), (.int m5), (.int m6), (.int m7), (.int m8), (.int m9), (.int m10), (.int m11), (.int m12), (.int m13), (.int m14), (.int m15), (.int m16), (.int m17), (.int m18), (.int m19), (.int m20), (.int m21), (.int m22), (.int m23), (.int m24), (.int (0 : Int32))] (.int (0 : Int32)) := V_ma
  have V_ua : Arv Z T74.heap ua k2 .char (26 : Int32) [(.int u0), (.int u1), (.int u2), (.int u3), (.int u4), (.int u5), (.int u6), (.int u7), (.int u8), (.int u9), (.int u10), (.int u11), (.int u12), (.int u13), (.int u14), (.int u15), (.int u16), (.int u17), (.int u18), (.int u19), (.int u20), (.int u21), (.int u22), (.int u23), (.int u24), (.int (0 : Int32))] (.int (0 : Int32)) := V_ua
  refine GoesW.pre (U' := T74.setTop (mkF m 436 #[.val (.long p1), .second, .val (.long p2), .second, .val (.int p3), .val (.int p4), .val (.ref ma), .val (.ref ua), .unset, .unset, .unset, .unset, .unset, .unset] [(.int p4), (.int (((p3.toUInt32 >>> ((5 : Int32) &&& 31).toUInt32).toInt32) &&& (31 : Int32))), (.int (25 : Int32)), (.ref ua), (.ref ma)])) (fun t k => XS.aload X74.here hx rfl (hb hby at_421) rfl rfl (XS.aload X74.here hx rfl (hb hby at_423) rfl rfl (XS.bipush X74.here hx rfl (hb hby at_425) (XS.iload X74.here hx rfl (hb hby at_427) rfl (XS.iconst X74.here hx rfl (hb hby at_429) (XS.iushr X74.here hx rfl (hb hby at_430) rfl (XS.bipush X74.here hx rfl (hb hby at_431) (XS.iand X74.here hx rfl (hb hby at_433) rfl (XS.iload X74.here hx rfl (hb hby at_434) rfl k))))))))) ?_
  obtain ⟨dg25, hdg25⟩ : ∃ z : Int32, z = (((p3.toUInt32 >>> ((5 : Int32) &&& 31).toUInt32).toInt32) &&& (31 : Int32)) := ⟨_, rfl⟩
  rw [← hdg25]
  have bd25 : ¬ (dg25 < (0 : Int32)) ∧ dg25 < (32 : Int32) := by rw [hdg25]; exact own_a31 _
  obtain ⟨_, _, ⟨T76, L76, k76, n76⟩, -, X76, ⟨Lc76, hQ76, l76, y76, z76⟩, st76⟩ := Jvm.LawKit.callS X74 hx (y := (⟨"com/example/known_paths/knownpaths/ulid/UlidParsePinLaw", "put", "([C[CIII)V"⟩ : MethodName)) hown (mvT hZ (wq hw 2 rfl)) (mvT hZ (wq hw 3 rfl)) (mvT hZ (wq hw 4 rfl)) (mvT hZ (wq hw 5 rfl)) (by decide) (own_backL (W := 0) (rm_putW l Z a0 hw [] ma ua k1 k2 ([(.int m0), (.int m1), (.int m2), (.int m3), (.int m4), (.int m5), (.int m6), (.int m7), (.int m8), (.int m9), (.int m10), (.int m11), (.int m12), (.int m13), (.int m14), (.int m15), (.int m16), (.int m17), (.int m18), (.int m19), (.int m20), (.int m21), (.int m22), (.int m23), (.int m24), (.int (0 : Int32))]) ([(.int u0), (.int u1), (.int u2), (.int u3), (.int u4), (.int u5), (.int u6), (.int u7), (.int u8), (.int u9), (.int u10), (.int u11), (.int u12), (.int u13), (.int u14), (.int u15), (.int u16), (.int u17), (.int u18), (.int u19), (.int u20), (.int u21), (.int u22), (.int u23), (.int u24), (.int (0 : Int32))]) 25 (25 : Int32) dg25 p4 cs sf la3 lb3 kl3 T74.heap n0 Z75 V_ma V_ua S_COMPACT_STRINGS S_SIOOBE_FORMATTER S_la3 (by decide) ⟨by decide, by decide⟩ (by decide) rfl rfl bd25.1 bd25.2 hcs hsf ne_ma_ua ne_ua_ma ne_la3_ma ne_lb3_ma ne_la3_ua ne_lb3_ua g_ma g_ua O) hZ (wq hw 5 rfl) (wq hw 4 rfl) (by decide) (by decide) Li_la3) (g := (mkF m 436 #[.val (.long p1), .second, .val (.long p2), .second, .val (.int p3), .val (.int p4), .val (.ref ma), .val (.ref ua), .unset, .unset, .unset, .unset, .unset, .unset] [(.int p4), (.int dg25), (.int (25 : Int32)), (.ref ua), (.ref ma)])) rfl (by rw [hml]; rfl) (argsL := [(.ref ma), (.ref ua), (.int (25 : Int32)), (.int dg25), (.int p4)]) (rest := []) (lenOf pd__28_5bC_5bCIII_29V rfl) rfl (by show 2 * 0 + _ ≤ _; exact Nat.le_of_eq rfl) (hb hby at_436) (fun _ _ => ⟨rfl, rfl, (by decide : 4 + 0 ≤ _), (by decide : 184 + 0 ≤ _)⟩)
  dsimp only [Pt.U, Pt.locs, Pt.cells, Pt.slots] at X76 l76 y76 z76 st76 hQ76
  rw [l76, y76, z76] at X76
  obtain ⟨rfl, N76q, KQ76, fo0_76, fo1_76⟩ := hQ76
  have N76 := Fr.app N74 N76q
  have E_ma := E_ma.keep KQ76
  have E_ua := E_ua.keep KQ76
  have S_la3 := S_la3.keep KQ76 (ninS ne_la3_ma (ninS ne_la3_ua nin0)) (ninS ne_lb3_ma (ninS ne_lb3_ua nin0))
  have Z77 : n0 ≤ T76.heap.size := Nat.le_trans Z75 KQ76.1
  have O := O.keep KQ76 (allS (P := fun x => n0 ≤ x) g_ma (allS (P := fun x => n0 ≤ x) g_ua all0))
  have hsafe := (allS (P := fun x => Safe Z own_EL T3.vm _ x) SF_ma (allS (P := fun x => Safe Z own_EL T3.vm _ x) SF_ua all0))
  have SF_ma := Safe.keep KQ76 hsafe H SF_ma
  have SF_ua := Safe.keep KQ76 hsafe H SF_ua
  have CR := CR.trans (CHr.keep KQ76 hsafe H)
  have H := H.keep KQ76 hsafe
  have hk := Nat.le_trans hk KQ76.1
  have V_ua := fo0_76
  have V_ma := fo1_76
  refine GoesW.pre (U' := T76.setTop (mkF m 439 #[.val (.long p1), .second, .val (.long p2), .second, .val (.int p3), .val (.int p4), .val (.ref ma), .val (.ref ua), .unset, .unset, .unset, .unset, .unset, .unset] [])) (fun t k => st76 t k) ?_
  obtain ⟨u25, hu25⟩ : ∃ z, z = own_dc dg25 := ⟨_, rfl⟩
  rw [← hu25] at V_ua V_ma
  obtain ⟨m25, hm25⟩ : ∃ z, z = own_mc u25 p4 (25 : Int32) := ⟨_, rfl⟩
  rw [← hm25] at V_ma
  have V_ma : Arv Z T76.heap ma k1 .char (26 : Int32) [(.int m0), (.int m1), (.int m2), (.int m3), (.int m4), (.int m5), (.int m6), (.int m7), (.int m8), (.int m9), (.int m10), (.int m11), (.int m12), (.int m13), (.int m14), (.int m15), (.int m16), (.int m17), (.int m18), (.int m19), (.int m20), (.int m21), (.int m22), (.int m23), (.int m24), (.int m25)] (.int (0 : Int32)) := V_ma
  have V_ua : Arv Z T76.heap ua k2 .char (26 : Int32) [(.int u0), (.int u1), (.int u2), (.int u3), (.int u4), (.int u5), (.int u6), (.int u7), (.int u8), (.int u9), (.int u10), (.int u11), (.int u12), (.int u13), (.int u14), (.int u15), (.int u16), (.int u17), (.int u18), (.int u19), (.int u20), (.int u21), (.int u22), (.int u23), (.int u24), (.int u25)] (.int (0 : Int32)) := V_ua
  have cu0 : OwnCh u0 := by rw [hu0]; exact own_dc_ch _
  have lu0 : ¬ ((255 : Int32) < u0) := by rw [hu0]; exact own_dc_le _
  have cm0 : OwnCh m0 := by rw [hm0, hu0]; exact own_mc_ch _ _ _
  have lm0 : ¬ ((255 : Int32) < m0) := by rw [hm0, hu0]; exact own_mc_le _ _ _
  have cu1 : OwnCh u1 := by rw [hu1]; exact own_dc_ch _
  have lu1 : ¬ ((255 : Int32) < u1) := by rw [hu1]; exact own_dc_le _
  have cm1 : OwnCh m1 := by rw [hm1, hu1]; exact own_mc_ch _ _ _
  have lm1 : ¬ ((255 : Int32) < m1) := by rw [hm1, hu1]; exact own_mc_le _ _ _
  have cu2 : OwnCh u2 := by rw [hu2]; exact own_dc_ch _
  have lu2 : ¬ ((255 : Int32) < u2) := by rw [hu2]; exact own_dc_le _
  have cm2 : OwnCh m2 := by rw [hm2, hu2]; exact own_mc_ch _ _ _
  have lm2 : ¬ ((255 : Int32) < m2) := by rw [hm2, hu2]; exact own_mc_le _ _ _
  have cu3 : OwnCh u3 := by rw [hu3]; exact own_dc_ch _
  have lu3 : ¬ ((255 : Int32) < u3) := by rw [hu3]; exact own_dc_le _
  have cm3 : OwnCh m3 := by rw [hm3, hu3]; exact own_mc_ch _ _ _
  have lm3 : ¬ ((255 : Int32) < m3) := by rw [hm3, hu3]; exact own_mc_le _ _ _
  have cu4 : OwnCh u4 := by rw [hu4]; exact own_dc_ch _
  have lu4 : ¬ ((255 : Int32) < u4) := by rw [hu4]; exact own_dc_le _
  have cm4 : OwnCh m4 := by rw [hm4, hu4]; exact own_mc_ch _ _ _
  have lm4 : ¬ ((255 : Int32) < m4) := by rw [hm4, hu4]; exact own_mc_le _ _ _
  have cu5 : OwnCh u5 := by rw [hu5]; exact own_dc_ch _
  have lu5 : ¬ ((255 : Int32) < u5) := by rw [hu5]; exact own_dc_le _
  have cm5 : OwnCh m5 := by rw [hm5, hu5]; exact own_mc_ch _ _ _
  have lm5 : ¬ ((255 : Int32) < m5) := by rw [hm5, hu5]; exact own_mc_le _ _ _
  have cu6 : OwnCh u6 := by rw [hu6]; exact own_dc_ch _
  have lu6 : ¬ ((255 : Int32) < u6) := by rw [hu6]; exact own_dc_le _
  have cm6 : OwnCh m6 := by rw [hm6, hu6]; exact own_mc_ch _ _ _
  have lm6 : ¬ ((255 : Int32) < m6) := by rw [hm6, hu6]; exact own_mc_le _ _ _
  have cu7 : OwnCh u7 := by rw [hu7]; exact own_dc_ch _
  have lu7 : ¬ ((255 : Int32) < u7) := by rw [hu7]; exact own_dc_le _
  have cm7 : OwnCh m7 := by rw [hm7, hu7]; exact own_mc_ch _ _ _
  have lm7 : ¬ ((255 : Int32) < m7) := by rw [hm7, hu7]; exact own_mc_le _ _ _
  have cu8 : OwnCh u8 := by rw [hu8]; exact own_dc_ch _
  have lu8 : ¬ ((255 : Int32) < u8) := by rw [hu8]; exact own_dc_le _
  have cm8 : OwnCh m8 := by rw [hm8, hu8]; exact own_mc_ch _ _ _
  have lm8 : ¬ ((255 : Int32) < m8) := by rw [hm8, hu8]; exact own_mc_le _ _ _
  have cu9 : OwnCh u9 := by rw [hu9]; exact own_dc_ch _
  have lu9 : ¬ ((255 : Int32) < u9) := by rw [hu9]; exact own_dc_le _
  have cm9 : OwnCh m9 := by rw [hm9, hu9]; exact own_mc_ch _ _ _
  have lm9 : ¬ ((255 : Int32) < m9) := by rw [hm9, hu9]; exact own_mc_le _ _ _
  have cu10 : OwnCh u10 := by rw [hu10]; exact own_dc_ch _
  have lu10 : ¬ ((255 : Int32) < u10) := by rw [hu10]; exact own_dc_le _
  have cm10 : OwnCh m10 := by rw [hm10, hu10]; exact own_mc_ch _ _ _
  have lm10 : ¬ ((255 : Int32) < m10) := by rw [hm10, hu10]; exact own_mc_le _ _ _
  have cu11 : OwnCh u11 := by rw [hu11]; exact own_dc_ch _
  have lu11 : ¬ ((255 : Int32) < u11) := by rw [hu11]; exact own_dc_le _
  have cm11 : OwnCh m11 := by rw [hm11, hu11]; exact own_mc_ch _ _ _
  have lm11 : ¬ ((255 : Int32) < m11) := by rw [hm11, hu11]; exact own_mc_le _ _ _
  have cu12 : OwnCh u12 := by rw [hu12]; exact own_dc_ch _
  have lu12 : ¬ ((255 : Int32) < u12) := by rw [hu12]; exact own_dc_le _
  have cm12 : OwnCh m12 := by rw [hm12, hu12]; exact own_mc_ch _ _ _
  have lm12 : ¬ ((255 : Int32) < m12) := by rw [hm12, hu12]; exact own_mc_le _ _ _
  have cu13 : OwnCh u13 := by rw [hu13]; exact own_dc_ch _
  have lu13 : ¬ ((255 : Int32) < u13) := by rw [hu13]; exact own_dc_le _
  have cm13 : OwnCh m13 := by rw [hm13, hu13]; exact own_mc_ch _ _ _
  have lm13 : ¬ ((255 : Int32) < m13) := by rw [hm13, hu13]; exact own_mc_le _ _ _
  have cu14 : OwnCh u14 := by rw [hu14]; exact own_dc_ch _
  have lu14 : ¬ ((255 : Int32) < u14) := by rw [hu14]; exact own_dc_le _
  have cm14 : OwnCh m14 := by rw [hm14, hu14]; exact own_mc_ch _ _ _
  have lm14 : ¬ ((255 : Int32) < m14) := by rw [hm14, hu14]; exact own_mc_le _ _ _
  have cu15 : OwnCh u15 := by rw [hu15]; exact own_dc_ch _
  have lu15 : ¬ ((255 : Int32) < u15) := by rw [hu15]; exact own_dc_le _
  have cm15 : OwnCh m15 := by rw [hm15, hu15]; exact own_mc_ch _ _ _
  have lm15 : ¬ ((255 : Int32) < m15) := by rw [hm15, hu15]; exact own_mc_le _ _ _
  have cu16 : OwnCh u16 := by rw [hu16]; exact own_dc_ch _
  have lu16 : ¬ ((255 : Int32) < u16) := by rw [hu16]; exact own_dc_le _
  have cm16 : OwnCh m16 := by rw [hm16, hu16]; exact own_mc_ch _ _ _
  have lm16 : ¬ ((255 : Int32) < m16) := by rw [hm16, hu16]; exact own_mc_le _ _ _
  have cu17 : OwnCh u17 := by rw [hu17]; exact own_dc_ch _
  have lu17 : ¬ ((255 : Int32) < u17) := by rw [hu17]; exact own_dc_le _
  have cm17 : OwnCh m17 := by rw [hm17, hu17]; exact own_mc_ch _ _ _
  have lm17 : ¬ ((255 : Int32) < m17) := by rw [hm17, hu17]; exact own_mc_le _ _ _
  have cu18 : OwnCh u18 := by rw [hu18]; exact own_dc_ch _
  have lu18 : ¬ ((255 : Int32) < u18) := by rw [hu18]; exact own_dc_le _
  have cm18 : OwnCh m18 := by rw [hm18, hu18]; exact own_mc_ch _ _ _
  have lm18 : ¬ ((255 : Int32) < m18) := by rw [hm18, hu18]; exact own_mc_le _ _ _
  have cu19 : OwnCh u19 := by rw [hu19]; exact own_dc_ch _
  have lu19 : ¬ ((255 : Int32) < u19) := by rw [hu19]; exact own_dc_le _
  have cm19 : OwnCh m19 := by rw [hm19, hu19]; exact own_mc_ch _ _ _
  have lm19 : ¬ ((255 : Int32) < m19) := by rw [hm19, hu19]; exact own_mc_le _ _ _
  have cu20 : OwnCh u20 := by rw [hu20]; exact own_dc_ch _
  have lu20 : ¬ ((255 : Int32) < u20) := by rw [hu20]; exact own_dc_le _
  have cm20 : OwnCh m20 := by rw [hm20, hu20]; exact own_mc_ch _ _ _
  have lm20 : ¬ ((255 : Int32) < m20) := by rw [hm20, hu20]; exact own_mc_le _ _ _
  have cu21 : OwnCh u21 := by rw [hu21]; exact own_dc_ch _
  have lu21 : ¬ ((255 : Int32) < u21) := by rw [hu21]; exact own_dc_le _
  have cm21 : OwnCh m21 := by rw [hm21, hu21]; exact own_mc_ch _ _ _
  have lm21 : ¬ ((255 : Int32) < m21) := by rw [hm21, hu21]; exact own_mc_le _ _ _
  have cu22 : OwnCh u22 := by rw [hu22]; exact own_dc_ch _
  have lu22 : ¬ ((255 : Int32) < u22) := by rw [hu22]; exact own_dc_le _
  have cm22 : OwnCh m22 := by rw [hm22, hu22]; exact own_mc_ch _ _ _
  have lm22 : ¬ ((255 : Int32) < m22) := by rw [hm22, hu22]; exact own_mc_le _ _ _
  have cu23 : OwnCh u23 := by rw [hu23]; exact own_dc_ch _
  have lu23 : ¬ ((255 : Int32) < u23) := by rw [hu23]; exact own_dc_le _
  have cm23 : OwnCh m23 := by rw [hm23, hu23]; exact own_mc_ch _ _ _
  have lm23 : ¬ ((255 : Int32) < m23) := by rw [hm23, hu23]; exact own_mc_le _ _ _
  have cu24 : OwnCh u24 := by rw [hu24]; exact own_dc_ch _
  have lu24 : ¬ ((255 : Int32) < u24) := by rw [hu24]; exact own_dc_le _
  have cm24 : OwnCh m24 := by rw [hm24, hu24]; exact own_mc_ch _ _ _
  have lm24 : ¬ ((255 : Int32) < m24) := by rw [hm24, hu24]; exact own_mc_le _ _ _
  have cu25 : OwnCh u25 := by rw [hu25]; exact own_dc_ch _
  have lu25 : ¬ ((255 : Int32) < u25) := by rw [hu25]; exact own_dc_le _
  have cm25 : OwnCh m25 := by rw [hm25, hu25]; exact own_mc_ch _ _ _
  have lm25 : ¬ ((255 : Int32) < m25) := by rw [hm25, hu25]; exact own_mc_le _ _ _
  obtain ⟨T78, h78, X78, e78, E78, A78, D78, -, st78⟩ := newO X76 hx hZ hown (wq hw 43 rfl) (wq hw 8 rfl) (wq hw 7 rfl) rfl (g := (mkF m 439 #[.val (.long p1), .second, .val (.long p2), .second, .val (.int p3), .val (.int p4), .val (.ref ma), .val (.ref ua), .unset, .unset, .unset, .unset, .unset, .unset] [])) rfl (hb hby at_439) (by decide) (by decide)
  obtain ⟨sm, g78⟩ : ∃ z, z = T76.heap.size := ⟨_, rfl⟩
  rw [← g78] at A78 D78 st78
  have ne_da_sm : da ≠ sm := Nat.ne_of_lt (Nat.lt_of_lt_of_le (V_da.ext O.2).lt (Nat.le_of_eq g78.symm))
  have ne_sm_da := ne_da_sm.symm
  have ne_la3_sm : la3 ≠ sm := Nat.ne_of_lt (Nat.lt_of_lt_of_le S_la3.lt (Nat.le_of_eq g78.symm))
  have ne_sm_la3 := ne_la3_sm.symm
  have ne_lb3_sm : lb3 ≠ sm := Nat.ne_of_lt (Nat.lt_of_lt_of_le S_la3.ltb (Nat.le_of_eq g78.symm))
  have ne_sm_lb3 := ne_lb3_sm.symm
  have ne_ma_sm : ma ≠ sm := Nat.ne_of_lt (Nat.lt_of_lt_of_le E_ma.lt (Nat.le_of_eq g78.symm))
  have ne_sm_ma := ne_ma_sm.symm
  have ne_ua_sm : ua ≠ sm := Nat.ne_of_lt (Nat.lt_of_lt_of_le E_ua.lt (Nat.le_of_eq g78.symm))
  have ne_sm_ua := ne_ua_sm.symm
  have g_sm : n0 ≤ sm := Nat.le_trans Z77 (Nat.le_of_eq g78.symm)
  have E_ma := E_ma.ext E78
  have E_ua := E_ua.ext E78
  have S_la3 := S_la3.ext E78
  have V_ua := V_ua.ext E78
  have V_ma := V_ma.ext E78
  have O := O.ext E78
  have SF_ma := Safe.ext E78 H SF_ma
  have SF_ua := Safe.ext E78 H SF_ua
  have SF_sm := Safe.ext E78 H (Safe.new (x := sm) (Nat.le_of_eq g78.symm))
  have CR := CR.trans (CHr.ext E78 H)
  have H := H.ext E78
  have hk := Nat.le_trans hk E78.1
  have Z78 : n0 ≤ h78.size := Nat.le_trans Z77 E78.1
  have E_sm := A78
  have F_value_sm : Fld Z h78 sm "java/lang/String" "value" "[B" .null := D78 (Or.inr (wq hw 10 rfl)) (ty := (.array .byte)) (by decide)
  have F_coder_sm : Fld Z h78 sm "java/lang/String" "coder" "B" (.int (0 : Int32)) := D78 (Or.inr (wq hw 11 rfl)) (ty := .byte) (by decide)
  refine GoesW.pre (U' := T78.setTop (mkF m 445 #[.val (.long p1), .second, .val (.long p2), .second, .val (.int p3), .val (.int p4), .val (.ref ma), .val (.ref ua), .unset, .unset, .unset, .unset, .unset, .unset] [(.ref ma), (.ref sm), (.ref sm)])) (fun t k => st78 t (XS.dup X78.here hx rfl (hb hby at_442) rfl rfl (XS.aload X78.here hx rfl (hb hby at_443) rfl rfl k))) ?_
  have lt_da := (V_da.ext O.2).lt
  have lt_la3 := S_la3.lt
  have lt_lb3 := S_la3.ltb
  have lt_ma := E_ma.lt
  have lt_sm := E_sm.lt
  have lt_ua := E_ua.lt
  obtain ⟨_, _, ⟨T79, L79, k79, n79⟩, -, X79, ⟨Lc79, hQ79, l79, y79, z79⟩, st79⟩ := X78.specialBack hx (y := (⟨"java/lang/String", "<init>", "([C)V"⟩ : MethodName)) rfl hown (mvT hZ (wq hw 44 rfl)) (mvT hZ (wq hw 45 rfl)) (mvT hZ (wq hw 46 rfl)) (by decide) (backOf (W := 1) (rm_init1G l Z a0 hw [] sm ma k1 ([m0, m1, m2, m3, m4, m5, m6, m7, m8, m9, m10, m11, m12, m13, m14, m15, m16, m17, m18, m19, m20, m21, m22, m23, m24, m25]) cs h78 n0 Z78 E_sm F_value_sm F_coder_sm V_ma S_COMPACT_STRINGS (Nat.le_of_ble_eq_true rfl) (own_cA (cm0) (own_cA (cm1) (own_cA (cm2) (own_cA (cm3) (own_cA (cm4) (own_cA (cm5) (own_cA (cm6) (own_cA (cm7) (own_cA (cm8) (own_cA (cm9) (own_cA (cm10) (own_cA (cm11) (own_cA (cm12) (own_cA (cm13) (own_cA (cm14) (own_cA (cm15) (own_cA (cm16) (own_cA (cm17) (own_cA (cm18) (own_cA (cm19) (own_cA (cm20) (own_cA (cm21) (own_cA (cm22) (own_cA (cm23) (own_cA (cm24) (own_cA (cm25) own_cN)))))))))))))))))))))))))) (own_eA (lm0) (own_eA (lm1) (own_eA (lm2) (own_eA (lm3) (own_eA (lm4) (own_eA (lm5) (own_eA (lm6) (own_eA (lm7) (own_eA (lm8) (own_eA (lm9) (own_eA (lm10) (own_eA (lm11) (own_eA (lm12) (own_eA (lm13) (own_eA (lm14) (own_eA (lm15) (own_eA (lm16) (own_eA (lm17) (own_eA (lm18) (own_eA (lm19) (own_eA (lm20) (own_eA (lm21) (own_eA (lm22) (own_eA (lm23) (own_eA (lm24) (own_eA (lm25) own_eN)))))))))))))))))))))))))) (by simp) hcs ne_ma_sm g_sm O) hZ (wq hw 46 rfl) (wq hw 7 rfl) (by decide) (by decide)) (g := (mkF m 445 #[.val (.long p1), .second, .val (.long p2), .second, .val (.int p3), .val (.int p4), .val (.ref ma), .val (.ref ua), .unset, .unset, .unset, .unset, .unset, .unset] [(.ref ma), (.ref sm), (.ref sm)])) rfl (by rw [hml]; rfl) (Steps.refl _) (a := sm) (argsL := [(.ref ma)]) (rest := [(.ref sm)]) (lenOf pd__28_5bC_29V rfl) rfl (by show 2 * 0 + _ ≤ _; exact Nat.le_of_eq rfl) (hb hby at_445) (fun _ _ => ⟨rfl, e78, (by decide : 5 + 1 ≤ _), (by decide : 188 + 26 ≤ _)⟩)
  dsimp only [Pt.U, Pt.locs, Pt.cells, Pt.slots] at X79 l79 y79 z79 st79 hQ79
  rw [l79, y79, z79] at X79
  obtain ⟨b79, kb79, rfl, N79q, KQ79, fo0_79, g_b79, sl_b79⟩ := hQ79
  have N79 := Fr.app N76 N79q
  have E_ma := E_ma.keep KQ79
  have E_ua := E_ua.keep KQ79
  have S_la3 := S_la3.keep KQ79 (ninS ne_la3_sm nin0) (ninS ne_lb3_sm nin0)
  have V_ua := V_ua.keep KQ79 (ninS ne_ua_sm nin0)
  have V_ma := V_ma.keep KQ79 (ninS ne_ma_sm nin0)
  have E_sm := E_sm.keep KQ79
  have Z80 : n0 ≤ T79.heap.size := Nat.le_trans Z78 KQ79.1
  have O := O.keep KQ79 (allS (P := fun x => n0 ≤ x) g_sm all0)
  have hsafe := (allS (P := fun x => Safe Z own_EL T3.vm _ x) SF_sm all0)
  have SF_ma := Safe.keep KQ79 hsafe H SF_ma
  have SF_ua := Safe.keep KQ79 hsafe H SF_ua
  have SF_sm := Safe.keep KQ79 hsafe H SF_sm
  have CR := CR.trans (CHr.keep KQ79 hsafe H)
  have H := H.keep KQ79 hsafe
  have hk := Nat.le_trans hk KQ79.1
  have ne_da_b79 : da ≠ b79 := Nat.ne_of_lt (Nat.lt_of_lt_of_le lt_da sl_b79)
  have ne_b79_da := ne_da_b79.symm
  have ne_la3_b79 : la3 ≠ b79 := Nat.ne_of_lt (Nat.lt_of_lt_of_le lt_la3 sl_b79)
  have ne_b79_la3 := ne_la3_b79.symm
  have ne_lb3_b79 : lb3 ≠ b79 := Nat.ne_of_lt (Nat.lt_of_lt_of_le lt_lb3 sl_b79)
  have ne_b79_lb3 := ne_lb3_b79.symm
  have ne_ma_b79 : ma ≠ b79 := Nat.ne_of_lt (Nat.lt_of_lt_of_le lt_ma sl_b79)
  have ne_b79_ma := ne_ma_b79.symm
  have ne_sm_b79 : sm ≠ b79 := Nat.ne_of_lt (Nat.lt_of_lt_of_le lt_sm sl_b79)
  have ne_b79_sm := ne_sm_b79.symm
  have ne_ua_b79 : ua ≠ b79 := Nat.ne_of_lt (Nat.lt_of_lt_of_le lt_ua sl_b79)
  have ne_b79_ua := ne_ua_b79.symm
  have S_sm := fo0_79
  refine GoesW.pre (U' := T79.setTop (mkF m 450 #[.val (.long p1), .second, .val (.long p2), .second, .val (.int p3), .val (.int p4), .val (.ref ma), .val (.ref ua), .val (.ref sm), .unset, .unset, .unset, .unset, .unset] [])) (fun t k => st79.trans (XS.astore X79.here hx rfl (hb hby at_448) rfl rfl (l' := #[.val (.long p1), .second, .val (.long p2), .second, .val (.int p3), .val (.int p4), .val (.ref ma), .val (.ref ua), .val (.ref sm), .unset, .unset, .unset, .unset, .unset]) rfl k)) ?_
  obtain ⟨lm, hlm⟩ : ∃ z, z = [m0, m1, m2, m3, m4, m5, m6, m7, m8, m9, m10, m11, m12, m13, m14, m15, m16, m17, m18, m19, m20, m21, m22, m23, m24, m25] := ⟨_, rfl⟩
  rw [← hlm] at S_sm
  obtain ⟨T81, h81, X81, e81, E81, A81, D81, -, st81⟩ := newO X79 hx hZ hown (wq hw 43 rfl) (wq hw 8 rfl) (wq hw 7 rfl) rfl (g := (mkF m 450 #[.val (.long p1), .second, .val (.long p2), .second, .val (.int p3), .val (.int p4), .val (.ref ma), .val (.ref ua), .val (.ref sm), .unset, .unset, .unset, .unset, .unset] [])) rfl (hb hby at_450) (by decide) (by decide)
  obtain ⟨su, g81⟩ : ∃ z, z = T79.heap.size := ⟨_, rfl⟩
  rw [← g81] at A81 D81 st81
  have ne_b79_su : b79 ≠ su := Nat.ne_of_lt (Nat.lt_of_lt_of_le S_sm.ltb (Nat.le_of_eq g81.symm))
  have ne_su_b79 := ne_b79_su.symm
  have ne_da_su : da ≠ su := Nat.ne_of_lt (Nat.lt_of_lt_of_le (V_da.ext O.2).lt (Nat.le_of_eq g81.symm))
  have ne_su_da := ne_da_su.symm
  have ne_la3_su : la3 ≠ su := Nat.ne_of_lt (Nat.lt_of_lt_of_le S_la3.lt (Nat.le_of_eq g81.symm))
  have ne_su_la3 := ne_la3_su.symm
  have ne_lb3_su : lb3 ≠ su := Nat.ne_of_lt (Nat.lt_of_lt_of_le S_la3.ltb (Nat.le_of_eq g81.symm))
  have ne_su_lb3 := ne_lb3_su.symm
  have ne_ma_su : ma ≠ su := Nat.ne_of_lt (Nat.lt_of_lt_of_le E_ma.lt (Nat.le_of_eq g81.symm))
  have ne_su_ma := ne_ma_su.symm
  have ne_sm_su : sm ≠ su := Nat.ne_of_lt (Nat.lt_of_lt_of_le E_sm.lt (Nat.le_of_eq g81.symm))
  have ne_su_sm := ne_sm_su.symm
  have ne_ua_su : ua ≠ su := Nat.ne_of_lt (Nat.lt_of_lt_of_le E_ua.lt (Nat.le_of_eq g81.symm))
  have ne_su_ua := ne_ua_su.symm
  have g_su : n0 ≤ su := Nat.le_trans Z80 (Nat.le_of_eq g81.symm)
  have E_ma := E_ma.ext E81
  have E_ua := E_ua.ext E81
  have S_la3 := S_la3.ext E81
  have V_ua := V_ua.ext E81
  have V_ma := V_ma.ext E81
  have E_sm := E_sm.ext E81
  have S_sm := S_sm.ext E81
  have O := O.ext E81
  have SF_ma := Safe.ext E81 H SF_ma
  have SF_ua := Safe.ext E81 H SF_ua
  have SF_sm := Safe.ext E81 H SF_sm
  have SF_su := Safe.ext E81 H (Safe.new (x := su) (Nat.le_of_eq g81.symm))
  have CR := CR.trans (CHr.ext E81 H)
  have H := H.ext E81
  have hk := Nat.le_trans hk E81.1
  have Z81 : n0 ≤ h81.size := Nat.le_trans Z80 E81.1
  have E_su := A81
  have F_value_su : Fld Z h81 su "java/lang/String" "value" "[B" .null := D81 (Or.inr (wq hw 10 rfl)) (ty := (.array .byte)) (by decide)
  have F_coder_su : Fld Z h81 su "java/lang/String" "coder" "B" (.int (0 : Int32)) := D81 (Or.inr (wq hw 11 rfl)) (ty := .byte) (by decide)
  refine GoesW.pre (U' := T81.setTop (mkF m 456 #[.val (.long p1), .second, .val (.long p2), .second, .val (.int p3), .val (.int p4), .val (.ref ma), .val (.ref ua), .val (.ref sm), .unset, .unset, .unset, .unset, .unset] [(.ref ua), (.ref su), (.ref su)])) (fun t k => st81 t (XS.dup X81.here hx rfl (hb hby at_453) rfl rfl (XS.aload X81.here hx rfl (hb hby at_454) rfl rfl k))) ?_
  have lt_b79 := S_sm.ltb
  have lt_da := (V_da.ext O.2).lt
  have lt_la3 := S_la3.lt
  have lt_lb3 := S_la3.ltb
  have lt_ma := E_ma.lt
  have lt_sm := E_sm.lt
  have lt_su := E_su.lt
  have lt_ua := E_ua.lt
  obtain ⟨_, _, ⟨T82, L82, k82, n82⟩, -, X82, ⟨Lc82, hQ82, l82, y82, z82⟩, st82⟩ := X81.specialBack hx (y := (⟨"java/lang/String", "<init>", "([C)V"⟩ : MethodName)) rfl hown (mvT hZ (wq hw 44 rfl)) (mvT hZ (wq hw 45 rfl)) (mvT hZ (wq hw 46 rfl)) (by decide) (backOf (W := 1) (rm_init1G l Z a0 hw [] su ua k2 ([u0, u1, u2, u3, u4, u5, u6, u7, u8, u9, u10, u11, u12, u13, u14, u15, u16, u17, u18, u19, u20, u21, u22, u23, u24, u25]) cs h81 n0 Z81 E_su F_value_su F_coder_su V_ua S_COMPACT_STRINGS (Nat.le_of_ble_eq_true rfl) (own_cA (cu0) (own_cA (cu1) (own_cA (cu2) (own_cA (cu3) (own_cA (cu4) (own_cA (cu5) (own_cA (cu6) (own_cA (cu7) (own_cA (cu8) (own_cA (cu9) (own_cA (cu10) (own_cA (cu11) (own_cA (cu12) (own_cA (cu13) (own_cA (cu14) (own_cA (cu15) (own_cA (cu16) (own_cA (cu17) (own_cA (cu18) (own_cA (cu19) (own_cA (cu20) (own_cA (cu21) (own_cA (cu22) (own_cA (cu23) (own_cA (cu24) (own_cA (cu25) own_cN)))))))))))))))))))))))))) (own_eA (lu0) (own_eA (lu1) (own_eA (lu2) (own_eA (lu3) (own_eA (lu4) (own_eA (lu5) (own_eA (lu6) (own_eA (lu7) (own_eA (lu8) (own_eA (lu9) (own_eA (lu10) (own_eA (lu11) (own_eA (lu12) (own_eA (lu13) (own_eA (lu14) (own_eA (lu15) (own_eA (lu16) (own_eA (lu17) (own_eA (lu18) (own_eA (lu19) (own_eA (lu20) (own_eA (lu21) (own_eA (lu22) (own_eA (lu23) (own_eA (lu24) (own_eA (lu25) own_eN)))))))))))))))))))))))))) (by simp) hcs ne_ua_su g_su O) hZ (wq hw 46 rfl) (wq hw 7 rfl) (by decide) (by decide)) (g := (mkF m 456 #[.val (.long p1), .second, .val (.long p2), .second, .val (.int p3), .val (.int p4), .val (.ref ma), .val (.ref ua), .val (.ref sm), .unset, .unset, .unset, .unset, .unset] [(.ref ua), (.ref su), (.ref su)])) rfl (by rw [hml]; rfl) (Steps.refl _) (a := su) (argsL := [(.ref ua)]) (rest := [(.ref su)]) (lenOf pd__28_5bC_29V rfl) rfl (by show 2 * 0 + _ ≤ _; exact Nat.le_of_eq rfl) (hb hby at_456) (fun _ _ => ⟨rfl, e81, (by decide : 7 + 1 ≤ _), (by decide : 218 + 26 ≤ _)⟩)
  dsimp only [Pt.U, Pt.locs, Pt.cells, Pt.slots] at X82 l82 y82 z82 st82 hQ82
  rw [l82, y82, z82] at X82
  obtain ⟨b82, kb82, rfl, N82q, KQ82, fo0_82, g_b82, sl_b82⟩ := hQ82
  have N82 := Fr.app N79 N82q
  have E_ma := E_ma.keep KQ82
  have E_ua := E_ua.keep KQ82
  have S_la3 := S_la3.keep KQ82 (ninS ne_la3_su nin0) (ninS ne_lb3_su nin0)
  have V_ua := V_ua.keep KQ82 (ninS ne_ua_su nin0)
  have V_ma := V_ma.keep KQ82 (ninS ne_ma_su nin0)
  have E_sm := E_sm.keep KQ82
  have S_sm := S_sm.keep KQ82 (ninS ne_sm_su nin0) (ninS ne_b79_su nin0)
  have E_su := E_su.keep KQ82
  have Z83 : n0 ≤ T82.heap.size := Nat.le_trans Z81 KQ82.1
  have O := O.keep KQ82 (allS (P := fun x => n0 ≤ x) g_su all0)
  have hsafe := (allS (P := fun x => Safe Z own_EL T3.vm _ x) SF_su all0)
  have SF_ma := Safe.keep KQ82 hsafe H SF_ma
  have SF_ua := Safe.keep KQ82 hsafe H SF_ua
  have SF_sm := Safe.keep KQ82 hsafe H SF_sm
  have SF_su := Safe.keep KQ82 hsafe H SF_su
  have CR := CR.trans (CHr.keep KQ82 hsafe H)
  have H := H.keep KQ82 hsafe
  have hk := Nat.le_trans hk KQ82.1
  have ne_b79_b82 : b79 ≠ b82 := Nat.ne_of_lt (Nat.lt_of_lt_of_le lt_b79 sl_b82)
  have ne_b82_b79 := ne_b79_b82.symm
  have ne_da_b82 : da ≠ b82 := Nat.ne_of_lt (Nat.lt_of_lt_of_le lt_da sl_b82)
  have ne_b82_da := ne_da_b82.symm
  have ne_la3_b82 : la3 ≠ b82 := Nat.ne_of_lt (Nat.lt_of_lt_of_le lt_la3 sl_b82)
  have ne_b82_la3 := ne_la3_b82.symm
  have ne_lb3_b82 : lb3 ≠ b82 := Nat.ne_of_lt (Nat.lt_of_lt_of_le lt_lb3 sl_b82)
  have ne_b82_lb3 := ne_lb3_b82.symm
  have ne_ma_b82 : ma ≠ b82 := Nat.ne_of_lt (Nat.lt_of_lt_of_le lt_ma sl_b82)
  have ne_b82_ma := ne_ma_b82.symm
  have ne_sm_b82 : sm ≠ b82 := Nat.ne_of_lt (Nat.lt_of_lt_of_le lt_sm sl_b82)
  have ne_b82_sm := ne_sm_b82.symm
  have ne_su_b82 : su ≠ b82 := Nat.ne_of_lt (Nat.lt_of_lt_of_le lt_su sl_b82)
  have ne_b82_su := ne_su_b82.symm
  have ne_ua_b82 : ua ≠ b82 := Nat.ne_of_lt (Nat.lt_of_lt_of_le lt_ua sl_b82)
  have ne_b82_ua := ne_ua_b82.symm
  have S_su := fo0_82
  refine GoesW.pre (U' := T82.setTop (mkF m 461 #[.val (.long p1), .second, .val (.long p2), .second, .val (.int p3), .val (.int p4), .val (.ref ma), .val (.ref ua), .val (.ref sm), .val (.ref su), .unset, .unset, .unset, .unset] [])) (fun t k => st82.trans (XS.astore X82.here hx rfl (hb hby at_459) rfl rfl (l' := #[.val (.long p1), .second, .val (.long p2), .second, .val (.int p3), .val (.int p4), .val (.ref ma), .val (.ref ua), .val (.ref sm), .val (.ref su), .unset, .unset, .unset, .unset]) rfl k)) ?_
  obtain ⟨lu, hlu⟩ : ∃ z, z = [u0, u1, u2, u3, u4, u5, u6, u7, u8, u9, u10, u11, u12, u13, u14, u15, u16, u17, u18, u19, u20, u21, u22, u23, u24, u25] := ⟨_, rfl⟩
  rw [← hlu] at S_su
  have elu : lu = (own_ds p1 p2 p3).map own_dc := by rw [hlu, hu0, hu1, hu2, hu3, hu4, hu5, hu6, hu7, hu8, hu9, hu10, hu11, hu12, hu13, hu14, hu15, hu16, hu17, hu18, hu19, hu20, hu21, hu22, hu23, hu24, hu25, hdg0, hdg1, hdg2, hdg3, hdg4, hdg5, hdg6, hdg7, hdg8, hdg9, hdg10, hdg11, hdg12, hdg13, hdg14, hdg15, hdg16, hdg17, hdg18, hdg19, hdg20, hdg21, hdg22, hdg23, hdg24, hdg25]; rfl
  have elm : lm = own_ml (own_ds p1 p2 p3) p4 0 := by rw [hlm, hm0, hm1, hm2, hm3, hm4, hm5, hm6, hm7, hm8, hm9, hm10, hm11, hm12, hm13, hm14, hm15, hm16, hm17, hm18, hm19, hm20, hm21, hm22, hm23, hm24, hm25, hu0, hu1, hu2, hu3, hu4, hu5, hu6, hu7, hu8, hu9, hu10, hu11, hu12, hu13, hu14, hu15, hu16, hu17, hu18, hu19, hu20, hu21, hu22, hu23, hu24, hu25, hdg0, hdg1, hdg2, hdg3, hdg4, hdg5, hdg6, hdg7, hdg8, hdg9, hdg10, hdg11, hdg12, hdg13, hdg14, hdg15, hdg16, hdg17, hdg18, hdg19, hdg20, hdg21, hdg22, hdg23, hdg24, hdg25]; rfl
  obtain ⟨gm, gu, hB, hC, hD⟩ := own_law p1 p2 p3 p4 elu elm
  refine GoesW.pre (U' := T82.setTop (mkF m 463 #[.val (.long p1), .second, .val (.long p2), .second, .val (.int p3), .val (.int p4), .val (.ref ma), .val (.ref ua), .val (.ref sm), .val (.ref su), .unset, .unset, .unset, .unset] [(.ref sm)])) (fun t k => XS.aload X82.here hx rfl (hb hby at_461) rfl rfl k) ?_
  have lt_b79 := S_sm.ltb
  have lt_b82 := S_su.ltb
  have lt_da := (V_da.ext O.2).lt
  have lt_la3 := S_la3.lt
  have lt_lb3 := S_la3.ltb
  have lt_ma := E_ma.lt
  have lt_sm := E_sm.lt
  have lt_su := E_su.lt
  have lt_ua := E_ua.lt
  obtain ⟨_, _, ⟨T84, L84, k84, n84⟩, -, X84, ⟨Lc84, hQ84, l84, y84, z84⟩, st84⟩ := Jvm.LawKit.callS X82 hx (y := (⟨"com/example/known_paths/knownpaths/ulid/Ulid", "parse", "(Ljava/lang/String;)Lcom/example/known_paths/knownpaths/ulid/Ulid;"⟩ : MethodName)) hown (mvT hZ (wq hw 64 rfl)) (mvT hZ (wq hw 65 rfl)) (mvT hZ (wq hw 66 rfl)) (mvT hZ (wq hw 67 rfl)) (by decide) (backOf (W := 0) (rm_parse l Z a0 hw [] sm b79 kb79 lm cs sf da kd T82.heap n0 Z83 S_sm S_COMPACT_STRINGS S_SIOOBE_FORMATTER S_DIGIT_VALUES V_da gm hcs hsf O) hZ (wq hw 67 rfl) (wq hw 66 rfl) (by decide) (by decide)) (g := (mkF m 463 #[.val (.long p1), .second, .val (.long p2), .second, .val (.int p3), .val (.int p4), .val (.ref ma), .val (.ref ua), .val (.ref sm), .val (.ref su), .unset, .unset, .unset, .unset] [(.ref sm)])) rfl (by rw [hml]; rfl) (argsL := [(.ref sm)]) (rest := []) (lenOf pd__28Ljava_2flang_2fString_3b_29Lcom_2fexample_2fknown_paths_2fknownpaths_2fulid_2fUlid_3b rfl) rfl (by show 2 * 0 + _ ≤ _; exact Nat.le_of_eq rfl) (hb hby at_463) (fun _ _ => ⟨rfl, rfl, (by decide : 8 + 1 ≤ _), (by decide : 244 + 2 ≤ _)⟩)
  dsimp only [Pt.U, Pt.locs, Pt.cells, Pt.slots] at X84 l84 y84 z84 st84 hQ84
  rw [l84, y84, z84] at X84
  obtain ⟨r84, rfl, N84q, KQ84, fo0_84, fo1_84, fo2_84, g_r84, sl_r84⟩ := hQ84
  have N84 := Fr.app N82 N84q
  have E_ma := E_ma.keep KQ84
  have E_ua := E_ua.keep KQ84
  have S_la3 := S_la3.keep KQ84 nin0 nin0
  have V_ua := V_ua.keep KQ84 nin0
  have V_ma := V_ma.keep KQ84 nin0
  have E_sm := E_sm.keep KQ84
  have S_sm := S_sm.keep KQ84 nin0 nin0
  have E_su := E_su.keep KQ84
  have S_su := S_su.keep KQ84 nin0 nin0
  have Z85 : n0 ≤ T84.heap.size := Nat.le_trans Z83 KQ84.1
  have O := O.keep KQ84 all0
  have hsafe := (all0 : ∀ x ∈ ([] : List Addr), Safe Z own_EL T3.vm T82.heap x)
  have SF_ma := Safe.keep KQ84 hsafe H SF_ma
  have SF_ua := Safe.keep KQ84 hsafe H SF_ua
  have SF_sm := Safe.keep KQ84 hsafe H SF_sm
  have SF_su := Safe.keep KQ84 hsafe H SF_su
  have CR := CR.trans (CHr.keep KQ84 hsafe H)
  have H := H.keep KQ84 hsafe
  have hk := Nat.le_trans hk KQ84.1
  have ne_b79_r84 : b79 ≠ r84 := Nat.ne_of_lt (Nat.lt_of_lt_of_le lt_b79 sl_r84)
  have ne_r84_b79 := ne_b79_r84.symm
  have ne_b82_r84 : b82 ≠ r84 := Nat.ne_of_lt (Nat.lt_of_lt_of_le lt_b82 sl_r84)
  have ne_r84_b82 := ne_b82_r84.symm
  have ne_da_r84 : da ≠ r84 := Nat.ne_of_lt (Nat.lt_of_lt_of_le lt_da sl_r84)
  have ne_r84_da := ne_da_r84.symm
  have ne_la3_r84 : la3 ≠ r84 := Nat.ne_of_lt (Nat.lt_of_lt_of_le lt_la3 sl_r84)
  have ne_r84_la3 := ne_la3_r84.symm
  have ne_lb3_r84 : lb3 ≠ r84 := Nat.ne_of_lt (Nat.lt_of_lt_of_le lt_lb3 sl_r84)
  have ne_r84_lb3 := ne_lb3_r84.symm
  have ne_ma_r84 : ma ≠ r84 := Nat.ne_of_lt (Nat.lt_of_lt_of_le lt_ma sl_r84)
  have ne_r84_ma := ne_ma_r84.symm
  have ne_sm_r84 : sm ≠ r84 := Nat.ne_of_lt (Nat.lt_of_lt_of_le lt_sm sl_r84)
  have ne_r84_sm := ne_sm_r84.symm
  have ne_su_r84 : su ≠ r84 := Nat.ne_of_lt (Nat.lt_of_lt_of_le lt_su sl_r84)
  have ne_r84_su := ne_su_r84.symm
  have ne_ua_r84 : ua ≠ r84 := Nat.ne_of_lt (Nat.lt_of_lt_of_le lt_ua sl_r84)
  have ne_r84_ua := ne_ua_r84.symm
  have E_r84 := fo0_84
  have F_high_r84 := fo1_84
  have F_low_r84 := fo2_84
  refine GoesW.pre (U' := T84.setTop (mkF m 470 #[.val (.long p1), .second, .val (.long p2), .second, .val (.int p3), .val (.int p4), .val (.ref ma), .val (.ref ua), .val (.ref sm), .val (.ref su), .val (.ref r84), .unset, .unset, .unset] [(.ref su)])) (fun t k => st84 t (XS.astore X84.here hx rfl (hb hby at_466) rfl rfl (l' := #[.val (.long p1), .second, .val (.long p2), .second, .val (.int p3), .val (.int p4), .val (.ref ma), .val (.ref ua), .val (.ref sm), .val (.ref su), .val (.ref r84), .unset, .unset, .unset]) rfl (XS.aload X84.here hx rfl (hb hby at_468) rfl rfl k))) ?_
  have lt_b79 := S_sm.ltb
  have lt_b82 := S_su.ltb
  have lt_da := (V_da.ext O.2).lt
  have lt_la3 := S_la3.lt
  have lt_lb3 := S_la3.ltb
  have lt_ma := E_ma.lt
  have lt_r84 := E_r84.lt
  have lt_sm := E_sm.lt
  have lt_su := E_su.lt
  have lt_ua := E_ua.lt
  obtain ⟨_, _, ⟨T86, L86, k86, n86⟩, -, X86, ⟨Lc86, hQ86, l86, y86, z86⟩, st86⟩ := Jvm.LawKit.callS X84 hx (y := (⟨"com/example/known_paths/knownpaths/ulid/Ulid", "parse", "(Ljava/lang/String;)Lcom/example/known_paths/knownpaths/ulid/Ulid;"⟩ : MethodName)) hown (mvT hZ (wq hw 64 rfl)) (mvT hZ (wq hw 65 rfl)) (mvT hZ (wq hw 66 rfl)) (mvT hZ (wq hw 67 rfl)) (by decide) (backOf (W := 0) (rm_parse l Z a0 hw [] su b82 kb82 lu cs sf da kd T84.heap n0 Z85 S_su S_COMPACT_STRINGS S_SIOOBE_FORMATTER S_DIGIT_VALUES V_da gu hcs hsf O) hZ (wq hw 67 rfl) (wq hw 66 rfl) (by decide) (by decide)) (g := (mkF m 470 #[.val (.long p1), .second, .val (.long p2), .second, .val (.int p3), .val (.int p4), .val (.ref ma), .val (.ref ua), .val (.ref sm), .val (.ref su), .val (.ref r84), .unset, .unset, .unset] [(.ref su)])) rfl (by rw [hml]; rfl) (argsL := [(.ref su)]) (rest := []) (lenOf pd__28Ljava_2flang_2fString_3b_29Lcom_2fexample_2fknown_paths_2fknownpaths_2fulid_2fUlid_3b rfl) rfl (by show 2 * 0 + _ ≤ _; exact Nat.le_of_eq rfl) (hb hby at_470) (fun _ _ => ⟨rfl, rfl, (by decide : 9 + 1 ≤ _), (by decide : 246 + 2 ≤ _)⟩)
  dsimp only [Pt.U, Pt.locs, Pt.cells, Pt.slots] at X86 l86 y86 z86 st86 hQ86
  rw [l86, y86, z86] at X86
  obtain ⟨r86, rfl, N86q, KQ86, fo0_86, fo1_86, fo2_86, g_r86, sl_r86⟩ := hQ86
  have N86 := Fr.app N84 N86q
  have E_ma := E_ma.keep KQ86
  have E_ua := E_ua.keep KQ86
  have S_la3 := S_la3.keep KQ86 nin0 nin0
  have V_ua := V_ua.keep KQ86 nin0
  have V_ma := V_ma.keep KQ86 nin0
  have E_sm := E_sm.keep KQ86
  have S_sm := S_sm.keep KQ86 nin0 nin0
  have E_su := E_su.keep KQ86
  have S_su := S_su.keep KQ86 nin0 nin0
  have E_r84 := E_r84.keep KQ86
  have F_high_r84 := F_high_r84.keep KQ86 nin0
  have F_low_r84 := F_low_r84.keep KQ86 nin0
  have Z87 : n0 ≤ T86.heap.size := Nat.le_trans Z85 KQ86.1
  have O := O.keep KQ86 all0
  have hsafe := (all0 : ∀ x ∈ ([] : List Addr), Safe Z own_EL T3.vm T84.heap x)
  have SF_ma := Safe.keep KQ86 hsafe H SF_ma
  have SF_ua := Safe.keep KQ86 hsafe H SF_ua
  have SF_sm := Safe.keep KQ86 hsafe H SF_sm
  have SF_su := Safe.keep KQ86 hsafe H SF_su
  have CR := CR.trans (CHr.keep KQ86 hsafe H)
  have H := H.keep KQ86 hsafe
  have hk := Nat.le_trans hk KQ86.1
  have ne_b79_r86 : b79 ≠ r86 := Nat.ne_of_lt (Nat.lt_of_lt_of_le lt_b79 sl_r86)
  have ne_r86_b79 := ne_b79_r86.symm
  have ne_b82_r86 : b82 ≠ r86 := Nat.ne_of_lt (Nat.lt_of_lt_of_le lt_b82 sl_r86)
  have ne_r86_b82 := ne_b82_r86.symm
  have ne_da_r86 : da ≠ r86 := Nat.ne_of_lt (Nat.lt_of_lt_of_le lt_da sl_r86)
  have ne_r86_da := ne_da_r86.symm
  have ne_la3_r86 : la3 ≠ r86 := Nat.ne_of_lt (Nat.lt_of_lt_of_le lt_la3 sl_r86)
  have ne_r86_la3 := ne_la3_r86.symm
  have ne_lb3_r86 : lb3 ≠ r86 := Nat.ne_of_lt (Nat.lt_of_lt_of_le lt_lb3 sl_r86)
  have ne_r86_lb3 := ne_lb3_r86.symm
  have ne_ma_r86 : ma ≠ r86 := Nat.ne_of_lt (Nat.lt_of_lt_of_le lt_ma sl_r86)
  have ne_r86_ma := ne_ma_r86.symm
  have ne_r84_r86 : r84 ≠ r86 := Nat.ne_of_lt (Nat.lt_of_lt_of_le lt_r84 sl_r86)
  have ne_r86_r84 := ne_r84_r86.symm
  have ne_sm_r86 : sm ≠ r86 := Nat.ne_of_lt (Nat.lt_of_lt_of_le lt_sm sl_r86)
  have ne_r86_sm := ne_sm_r86.symm
  have ne_su_r86 : su ≠ r86 := Nat.ne_of_lt (Nat.lt_of_lt_of_le lt_su sl_r86)
  have ne_r86_su := ne_su_r86.symm
  have ne_ua_r86 : ua ≠ r86 := Nat.ne_of_lt (Nat.lt_of_lt_of_le lt_ua sl_r86)
  have ne_r86_ua := ne_ua_r86.symm
  have E_r86 := fo0_86
  have F_high_r86 := fo1_86
  have F_low_r86 := fo2_86
  refine GoesW.pre (U' := T86.setTop (mkF m 475 #[.val (.long p1), .second, .val (.long p2), .second, .val (.int p3), .val (.int p4), .val (.ref ma), .val (.ref ua), .val (.ref sm), .val (.ref su), .val (.ref r84), .val (.ref r86), .unset, .unset] [])) (fun t k => st86 t (XS.astore X86.here hx rfl (hb hby at_473) rfl rfl (l' := #[.val (.long p1), .second, .val (.long p2), .second, .val (.int p3), .val (.int p4), .val (.ref ma), .val (.ref ua), .val (.ref sm), .val (.ref su), .val (.ref r84), .val (.ref r86), .unset, .unset]) rfl k)) ?_
  rw [hB] at F_high_r84 F_low_r84
  obtain ⟨hh, ehh⟩ : ∃ z, z = (own_p lu 26).1 := ⟨_, rfl⟩
  obtain ⟨ll, ell⟩ : ∃ z, z = (own_p lu 26).2 := ⟨_, rfl⟩
  rw [← ehh] at F_high_r84 F_high_r86 hC hD
  rw [← ell] at F_low_r84 F_low_r86 hC
  refine GoesW.pre (U' := T86.setTop (mkF m 489 #[.val (.long p1), .second, .val (.long p2), .second, .val (.int p3), .val (.int p4), .val (.ref ma), .val (.ref ua), .val (.ref sm), .val (.ref su), .val (.ref r84), .val (.ref r86), .val (.long (((p1.toUInt64 >>> ((10 : Int32) &&& 0x3f).toInt64.toUInt64).toInt64) &&& (281474976710655 : Int64))), .second] [(.ref r86), (.ref r84)])) (fun t k => XS.lloadN X86.here hx rfl (hb hby at_475) rfl (XS.bipush X86.here hx rfl (hb hby at_476) (XS.lushr X86.here hx rfl (hb hby at_478) rfl (X86.ldc2Long hx hown (mvT hZ (wq hw 91 rfl)) (g := (mkF m 479 #[.val (.long p1), .second, .val (.long p2), .second, .val (.int p3), .val (.int p4), .val (.ref ma), .val (.ref ua), .val (.ref sm), .val (.ref su), .val (.ref r84), .val (.ref r86), .unset, .unset] [(.long ((p1.toUInt64 >>> ((10 : Int32) &&& 0x3f).toInt64.toUInt64).toInt64))])) rfl (hb hby at_479) _ (XS.land X86.here hx rfl (hb hby at_482) rfl (XS.lstore X86.here hx rfl (hb hby at_483) rfl (l' := #[.val (.long p1), .second, .val (.long p2), .second, .val (.int p3), .val (.int p4), .val (.ref ma), .val (.ref ua), .val (.ref sm), .val (.ref su), .val (.ref r84), .val (.ref r86), .val (.long (((p1.toUInt64 >>> ((10 : Int32) &&& 0x3f).toInt64.toUInt64).toInt64) &&& (281474976710655 : Int64))), .second]) rfl (XS.aload X86.here hx rfl (hb hby at_485) rfl rfl (XS.aload X86.here hx rfl (hb hby at_487) rfl rfl k)))))))) ?_
  obtain ⟨cq88, kq88, q88a, q88b, q88c⟩ := isOf hZ rfl E_r84
  obtain ⟨_, _, ⟨T88, L88, k88, n88⟩, -, X88, ⟨Lc88, hQ88, l88, y88, z88⟩, st88⟩ := X86.virtualBack hx (y := (⟨"com/example/known_paths/knownpaths/ulid/Ulid", "equals", "(Ljava/lang/Object;)Z"⟩ : MethodName)) (z := (⟨"com/example/known_paths/knownpaths/ulid/Ulid", "equals", "(Ljava/lang/Object;)Z"⟩ : MethodName)) hown (mvT hZ (wq hw 92 rfl)) (mvT hZ (wq hw 93 rfl)) (notFace_of_selects (args := #[]) (mvT hZ (wq hw 95 rfl))) (mvT hZ (wq hw 95 rfl)) (mvT hZ (wq hw 94 rfl)) (by decide) (backOf (W := 0) (rm_ueq l Z a0 hw [] r84 r86 hh ll T86.heap n0 Z87 E_r86 F_high_r84 F_low_r84 F_high_r86 F_low_r86) hZ (wq hw 96 rfl) (wq hw 66 rfl) (by decide) (by decide)) q88a q88c (g := (mkF m 489 #[.val (.long p1), .second, .val (.long p2), .second, .val (.int p3), .val (.int p4), .val (.ref ma), .val (.ref ua), .val (.ref sm), .val (.ref su), .val (.ref r84), .val (.ref r86), .val (.long (((p1.toUInt64 >>> ((10 : Int32) &&& 0x3f).toInt64.toUInt64).toInt64) &&& (281474976710655 : Int64))), .second] [(.ref r86), (.ref r84)])) rfl (by rw [hml]; rfl) (Steps.refl _) (argsL := [(.ref r86)]) (rest := []) (lenOf pd__28Ljava_2flang_2fObject_3b_29Z rfl) rfl (by show 2 * 0 + _ ≤ _; exact Nat.le_of_eq rfl) (hb hby at_489) (fun _ _ => ⟨rfl, rfl, (by decide : 10 + 0 ≤ _), (by decide : 248 + 0 ≤ _)⟩)
  dsimp only [Pt.U, Pt.locs, Pt.cells, Pt.slots] at X88 l88 y88 z88 st88 hQ88
  rw [l88, y88, z88] at X88
  obtain ⟨rfl, N88q, HQ88⟩ := hQ88
  have N88 := Fr.app N86 N88q
  refine GoesW.pre (U' := T88.setTop (mkF m 492 #[.val (.long p1), .second, .val (.long p2), .second, .val (.int p3), .val (.int p4), .val (.ref ma), .val (.ref ua), .val (.ref sm), .val (.ref su), .val (.ref r84), .val (.ref r86), .val (.long (((p1.toUInt64 >>> ((10 : Int32) &&& 0x3f).toInt64.toUInt64).toInt64) &&& (281474976710655 : Int64))), .second] [(.int (1 : Int32))])) (fun t k => st88.trans k) ?_
  have hc492 : ¬ ((1 : Int32) = (0 : Int32)) := by decide
  refine GoesW.pre (U' := T88.setTop (mkF m 497 #[.val (.long p1), .second, .val (.long p2), .second, .val (.int p3), .val (.int p4), .val (.ref ma), .val (.ref ua), .val (.ref sm), .val (.ref su), .val (.ref r84), .val (.ref r86), .val (.long (((p1.toUInt64 >>> ((10 : Int32) &&& 0x3f).toInt64.toUInt64).toInt64) &&& (281474976710655 : Int64))), .second] [(.ref r84)])) (fun t k => XS.ifNo X88.here hx rfl (hb hby at_492) rfl ((if0 _ _).trans (feq hc492).1) (XS.aload X88.here hx rfl (hb hby at_495) rfl rfl k)) ?_
  obtain ⟨cq89, kq89, q89a, q89b, q89c⟩ := isOf hZ HQ88 E_r84
  obtain ⟨_, _, ⟨T89, L89, k89, n89⟩, -, X89, hS89, hge89, ⟨Lc89, hQ89, l89, y89, z89, CQ89⟩, st89⟩ := X88.virtualBackS hx (y := (⟨"com/example/known_paths/knownpaths/ulid/Ulid", "toString", "()Ljava/lang/String;"⟩ : MethodName)) (z := (⟨"com/example/known_paths/knownpaths/ulid/Ulid", "toString", "()Ljava/lang/String;"⟩ : MethodName)) hown (mvT hZ (wq hw 98 rfl)) (mvT hZ (wq hw 99 rfl)) (notFace_of_selects (args := #[]) (mvT hZ (wq hw 101 rfl))) (mvT hZ (wq hw 101 rfl)) (mvT hZ (wq hw 100 rfl)) (by decide) (own_backSH (s := s) (W := 0) (rm_ts l Z a0 hw hEL [] r84 hh ll cs sf T86.heap n0 Z87 F_high_r84 F_low_r84 S_COMPACT_STRINGS S_SIOOBE_FORMATTER hcs hsf O) hZ (wq hw 102 rfl) (wq hw 66 rfl) (by decide) (by decide) hEL H all0) q89a q89c (g := (mkF m 497 #[.val (.long p1), .second, .val (.long p2), .second, .val (.int p3), .val (.int p4), .val (.ref ma), .val (.ref ua), .val (.ref sm), .val (.ref su), .val (.ref r84), .val (.ref r86), .val (.long (((p1.toUInt64 >>> ((10 : Int32) &&& 0x3f).toInt64.toUInt64).toInt64) &&& (281474976710655 : Int64))), .second] [(.ref r84)])) rfl (by rw [hml]; rfl) (Steps.refl _) (argsL := []) (rest := []) (lenOf pd__28_29Ljava_2flang_2fString_3b rfl) rfl (by show 2 * 0 + _ ≤ _; exact Nat.le_of_eq rfl) (hb hby at_497) (fun _ _ => ⟨rfl, HQ88, (by decide : 10 + 5 ≤ _), (by decide : 248 + 188 ≤ _)⟩)
  dsimp only [Pt.U, Pt.locs, Pt.cells, Pt.slots] at X89 l89 y89 z89 st89 hQ89 hS89 hge89 CQ89
  rw [l89, y89, z89] at X89
  obtain ⟨r89, b89, kb89, rfl, N89q, KQ89, fo0_89⟩ := hQ89
  have N89 := Fr.app N88 N89q
  have SF_ma := CQ89.safe E_ma.lt SF_ma
  have SF_ua := CQ89.safe E_ua.lt SF_ua
  have SF_sm := CQ89.safe E_sm.lt SF_sm
  have SF_su := CQ89.safe E_su.lt SF_su
  have hS := foldS (T := T88) hS (by rw [HQ88]; exact hk) hS89 hge89
  have hZ : Z.Warmed39 (s.setVm T89.vm).vm := State.Warmed39.trans (t := s.setVm T3.vm) hZ hS89.1
  have hown := own_found hS89 hown
  have H := CQ89.1
  have CR := CR.trans CQ89
  have hk := Nat.le_refl T89.heap.size
  have E_ma := E_ma.keep KQ89
  have E_ua := E_ua.keep KQ89
  have S_la3 := S_la3.keep KQ89 nin0 nin0
  have V_ua := V_ua.keep KQ89 nin0
  have V_ma := V_ma.keep KQ89 nin0
  have E_sm := E_sm.keep KQ89
  have S_sm := S_sm.keep KQ89 nin0 nin0
  have E_su := E_su.keep KQ89
  have S_su := S_su.keep KQ89 nin0 nin0
  have E_r84 := E_r84.keep KQ89
  have F_high_r84 := F_high_r84.keep KQ89 nin0
  have F_low_r84 := F_low_r84.keep KQ89 nin0
  have E_r86 := E_r86.keep KQ89
  have F_high_r86 := F_high_r86.keep KQ89 nin0
  have F_low_r86 := F_low_r86.keep KQ89 nin0
  have Z90 : n0 ≤ T89.heap.size := Nat.le_trans Z87 KQ89.1
  have O := O.keep KQ89 all0
  have S_r89 := fo0_89
  refine GoesW.pre (U' := T89.setTop (mkF m 500 #[.val (.long p1), .second, .val (.long p2), .second, .val (.int p3), .val (.int p4), .val (.ref ma), .val (.ref ua), .val (.ref sm), .val (.ref su), .val (.ref r84), .val (.ref r86), .val (.long (((p1.toUInt64 >>> ((10 : Int32) &&& 0x3f).toInt64.toUInt64).toInt64) &&& (281474976710655 : Int64))), .second] [(.ref r89)])) (fun t k => st89.trans k) ?_
  rw [hC] at S_r89
  refine GoesW.pre (U' := T89.setTop (mkF m 502 #[.val (.long p1), .second, .val (.long p2), .second, .val (.int p3), .val (.int p4), .val (.ref ma), .val (.ref ua), .val (.ref sm), .val (.ref su), .val (.ref r84), .val (.ref r86), .val (.long (((p1.toUInt64 >>> ((10 : Int32) &&& 0x3f).toInt64.toUInt64).toInt64) &&& (281474976710655 : Int64))), .second] [(.ref su), (.ref r89)])) (fun t k => XS.aload X89.here hx rfl (hb hby at_500) rfl rfl k) ?_
  obtain ⟨cq91, kq91, q91a, q91b, q91c⟩ := isOf hZ rfl S_r89.1
  obtain ⟨_, _, ⟨T91, L91, k91, n91⟩, -, X91, ⟨Lc91, hQ91, l91, y91, z91⟩, st91⟩ := X89.virtualBack hx (y := (⟨"java/lang/String", "equals", "(Ljava/lang/Object;)Z"⟩ : MethodName)) (z := (⟨"java/lang/String", "equals", "(Ljava/lang/Object;)Z"⟩ : MethodName)) hown (mvT hZ (wq hw 106 rfl)) (mvT hZ (wq hw 107 rfl)) (notFace_of_selects (args := #[]) (mvT hZ (wq hw 109 rfl))) (mvT hZ (wq hw 109 rfl)) (mvT hZ (wq hw 108 rfl)) (by decide) (backOf (W := 0) (rm_eqS l Z a0 hw [] r89 b89 kb89 lu su b82 kb82 lu cs T89.heap n0 Z90 S_r89 S_su S_COMPACT_STRINGS (Nat.le_of_eq gu.1) (Nat.le_of_eq gu.1) hcs O) hZ (wq hw 110 rfl) (wq hw 7 rfl) (by decide) (by decide)) q91a q91c (g := (mkF m 502 #[.val (.long p1), .second, .val (.long p2), .second, .val (.int p3), .val (.int p4), .val (.ref ma), .val (.ref ua), .val (.ref sm), .val (.ref su), .val (.ref r84), .val (.ref r86), .val (.long (((p1.toUInt64 >>> ((10 : Int32) &&& 0x3f).toInt64.toUInt64).toInt64) &&& (281474976710655 : Int64))), .second] [(.ref su), (.ref r89)])) rfl (by rw [hml]; rfl) (Steps.refl _) (argsL := [(.ref su)]) (rest := []) (lenOf pd__28Ljava_2flang_2fObject_3b_29Z rfl) rfl (by show 2 * 0 + _ ≤ _; exact Nat.le_of_eq rfl) (hb hby at_502) (fun _ _ => ⟨rfl, rfl, (by decide : 15 + 0 ≤ _), (by decide : 436 + 0 ≤ _)⟩)
  dsimp only [Pt.U, Pt.locs, Pt.cells, Pt.slots] at X91 l91 y91 z91 st91 hQ91
  rw [l91, y91, z91] at X91
  obtain ⟨rfl, N91q, HQ91⟩ := hQ91
  have N91 := Fr.app N89 N91q
  refine GoesW.pre (U' := T91.setTop (mkF m 505 #[.val (.long p1), .second, .val (.long p2), .second, .val (.int p3), .val (.int p4), .val (.ref ma), .val (.ref ua), .val (.ref sm), .val (.ref su), .val (.ref r84), .val (.ref r86), .val (.long (((p1.toUInt64 >>> ((10 : Int32) &&& 0x3f).toInt64.toUInt64).toInt64) &&& (281474976710655 : Int64))), .second] [(.int (own_eqv lu lu))])) (fun t k => st91.trans k) ?_
  have hc505 : ¬ ((own_eqv lu lu) = (0 : Int32)) := own_eqs _
  refine GoesW.pre (U' := T91.setTop (mkF m 510 #[.val (.long p1), .second, .val (.long p2), .second, .val (.int p3), .val (.int p4), .val (.ref ma), .val (.ref ua), .val (.ref sm), .val (.ref su), .val (.ref r84), .val (.ref r86), .val (.long (((p1.toUInt64 >>> ((10 : Int32) &&& 0x3f).toInt64.toUInt64).toInt64) &&& (281474976710655 : Int64))), .second] [(.ref r84)])) (fun t k => XS.ifNo X91.here hx rfl (hb hby at_505) rfl ((if0 _ _).trans (feq hc505).1) (XS.aload X91.here hx rfl (hb hby at_508) rfl rfl k)) ?_
  obtain ⟨cq92, kq92, q92a, q92b, q92c⟩ := isOf hZ HQ91 E_r84
  obtain ⟨_, _, ⟨T92, L92, k92, n92⟩, -, X92, ⟨Lc92, hQ92, l92, y92, z92⟩, st92⟩ := X91.virtualBack hx (y := (⟨"com/example/known_paths/knownpaths/ulid/Ulid", "time", "()J"⟩ : MethodName)) (z := (⟨"com/example/known_paths/knownpaths/ulid/Ulid", "time", "()J"⟩ : MethodName)) hown (mvT hZ (wq hw 115 rfl)) (mvT hZ (wq hw 116 rfl)) (notFace_of_selects (args := #[]) (mvT hZ (wq hw 118 rfl))) (mvT hZ (wq hw 118 rfl)) (mvT hZ (wq hw 117 rfl)) (by decide) (backOf (W := 0) (rm_time l Z a0 hw [] r84 hh T89.heap n0 Z90 F_high_r84) hZ (wq hw 119 rfl) (wq hw 66 rfl) (by decide) (by decide)) q92a q92c (g := (mkF m 510 #[.val (.long p1), .second, .val (.long p2), .second, .val (.int p3), .val (.int p4), .val (.ref ma), .val (.ref ua), .val (.ref sm), .val (.ref su), .val (.ref r84), .val (.ref r86), .val (.long (((p1.toUInt64 >>> ((10 : Int32) &&& 0x3f).toInt64.toUInt64).toInt64) &&& (281474976710655 : Int64))), .second] [(.ref r84)])) rfl (by rw [hml]; rfl) (Steps.refl _) (argsL := []) (rest := []) (lenOf pd__28_29J rfl) rfl (by show 2 * 0 + _ ≤ _; exact Nat.le_of_eq rfl) (hb hby at_510) (fun _ _ => ⟨rfl, HQ91, (by decide : 15 + 0 ≤ _), (by decide : 436 + 0 ≤ _)⟩)
  dsimp only [Pt.U, Pt.locs, Pt.cells, Pt.slots] at X92 l92 y92 z92 st92 hQ92
  rw [l92, y92, z92] at X92
  obtain ⟨rfl, N92q, HQ92⟩ := hQ92
  have N92 := Fr.app N91 N92q
  refine GoesW.pre (U' := T92.setTop (mkF m 516 #[.val (.long p1), .second, .val (.long p2), .second, .val (.int p3), .val (.int p4), .val (.ref ma), .val (.ref ua), .val (.ref sm), .val (.ref su), .val (.ref r84), .val (.ref r86), .val (.long (((p1.toUInt64 >>> ((10 : Int32) &&& 0x3f).toInt64.toUInt64).toInt64) &&& (281474976710655 : Int64))), .second] [(.int (lcmpW ((hh.toUInt64 >>> ((16 : Int32) &&& 0x3f).toInt64.toUInt64).toInt64) (((p1.toUInt64 >>> ((10 : Int32) &&& 0x3f).toInt64.toUInt64).toInt64) &&& (281474976710655 : Int64))))])) (fun t k => st92.trans (XS.lload X92.here hx rfl (hb hby at_513) rfl (XS.lcmp X92.here hx rfl (hb hby at_515) rfl k))) ?_
  have hc516 : (lcmpW ((hh.toUInt64 >>> ((16 : Int32) &&& 0x3f).toInt64.toUInt64).toInt64) (((p1.toUInt64 >>> ((10 : Int32) &&& 0x3f).toInt64.toUInt64).toInt64) &&& (281474976710655 : Int64))) = (0 : Int32) := hD
  refine GoesW.pre (U' := T92.setTop (mkF m 524 #[.val (.long p1), .second, .val (.long p2), .second, .val (.int p3), .val (.int p4), .val (.ref ma), .val (.ref ua), .val (.ref sm), .val (.ref su), .val (.ref r84), .val (.ref r86), .val (.long (((p1.toUInt64 >>> ((10 : Int32) &&& 0x3f).toInt64.toUInt64).toInt64) &&& (281474976710655 : Int64))), .second] [(.int (1 : Int32))])) (fun t k => XS.ifNo X92.here hx rfl (hb hby at_516) rfl ((if0 _ _).trans (teq hc516).2) (XS.iconst X92.here hx rfl (hb hby at_519) (XS.goto X92.here hx rfl (pc0 := 520) (pc' := 524) rfl (hb hby at_520) (by decide) (by decide) k))) ?_
  refine GoesW.ret X92 hZ hEL hS hk H CR (v := (some (.int (1 : Int32)))) (fun h => by rw [hret] at h; cases h) hlk (by decide) (by decide) HQ92 (fun fs hr => retN X92 hx (t := .boolean) hret (by simp) (hb hby at_524) hr) ?_
  exact ⟨rfl, N92⟩
theorem own_stat {Z : State} {args : Array Value} {t : Term} {k : Int32} (w : (Cond.eq t (Term.int k)).value args Z none Z [] = some true) : t.eval args Z none [] Z = some (.int k) := by
  obtain ⟨x, y, e1, e2, k1, -⟩ := cmp_v (Or.inl w)
  have e3 : y = .int k := (Option.some.inj (e2.symm.trans (Term.int_eval k)))
  subst e3
  have e4 : ∃ i, x = .int i := by
    have w' := w
    simp only [Cond.value, e1, e2] at w'
    cases x <;> simp at w' ⊢
  obtain ⟨i, rfl⟩ := e4
  rw [e1, gotT (Cond.eq_ints e1 e2) w]
section OwnTable
variable {args : Array Value} {s : State} {t : Term} {da : Addr} {cl : Cell}
theorem own_subf {a b : Term} {idx : List Nat} {x y : Int32} (ha : a.eval args s none idx s = some (.int x)) (hb : b.eval args s none idx s = some (.int y)) : (Term.sub a b).eval args s none idx s = some (.int (x - y)) := by simp [Term.eval, ha, hb]
theorem own_nj (j : Nat) (h : j ≤ 8192) : ¬ (Int32.ofNat j < (0 : Int32)) := own_neg j h
theorem own_nlt (j : Nat) (h : j ≤ 8192) (A : Int32) (k : Int) (hk : A.toInt = k) (q : k ≤ j) : ¬ (Int32.ofNat j < A) := by
  rw [Int32.lt_iff_toInt_lt, own_ofn j h, hk]
  omega
theorem own_nle2 (j : Nat) (h : j ≤ 8192) (B : Int32) (k : Int) (hk : B.toInt = k) (q : (j : Int) < k) : ¬ (B ≤ Int32.ofNat j) := by
  rw [Int32.le_iff_toInt_le, own_ofn j h, hk]
  omega
theorem own_F2 {A B : Int32} {X : Term} {y : Int32} (et : ∀ idx, t.eval args s none idx s = some (.ref da)) (ha : s.arrayAt? da = some cl) (j : Nat) (hs : j ≤ 8192) (hj : j < cl.slots.size)
    (h : (Cond.all t (Cond.or (Cond.lt (Term.index 0) (Term.int A)) (Cond.or (Cond.le (Term.int B) (Term.index 0)) (Cond.eq (Term.elem t (Term.index 0)) X)))).value args s none s [] = some true) (h1 : ¬ (Int32.ofNat j < A)) (h2 : ¬ (B ≤ Int32.ofNat j))
    (hX : (Term.index 0).eval args s none [(Int32.ofNat j).toNatClampNeg] s = some (.int (Int32.ofNat j)) → X.eval args s none [(Int32.ofNat j).toNatClampNeg] s = some (.int y)) : cl.slots[j]? = some (.int y) := by
  have u := Cond.all_elim (et []) ha h j hj
  have u' : (Cond.or (Cond.lt (Term.index 0) (Term.int A)) (Cond.or (Cond.le (Term.int B) (Term.index 0)) (Cond.eq (Term.elem t (Term.index 0)) X))).value args s none s [(Int32.ofNat j).toNatClampNeg] = some true := by rw [own_ixn j hs]; exact u
  have i1 := idx_at (args := args) (first := s) (o := none) (s := s) (own_nj j hs)
  rw [Cond.or_of_right (nay (Cond.lt_ints i1 (Term.int_eval A)) h1), Cond.or_of_right (nay (Cond.le_ints (Term.int_eval B) i1) h2)] at u'
  have r := (elem_f (et _) i1 ha (own_nj j hs)).symm.trans (eqv_i (hX i1) u')
  rwa [own_ixn j hs] at r
theorem own_F1 {G : Cond} {X : Term} {y : Int32} (et : ∀ idx, t.eval args s none idx s = some (.ref da)) (ha : s.arrayAt? da = some cl) (j : Nat) (hs : j ≤ 8192) (hj : j < cl.slots.size)
    (h : (Cond.all t (Cond.or G (Cond.eq (Term.elem t (Term.index 0)) X))).value args s none s [] = some true) (hG : (Term.index 0).eval args s none [(Int32.ofNat j).toNatClampNeg] s = some (.int (Int32.ofNat j)) → G.value args s none s [(Int32.ofNat j).toNatClampNeg] = some false)
    (hX : X.eval args s none [(Int32.ofNat j).toNatClampNeg] s = some (.int y)) : cl.slots[j]? = some (.int y) := by
  have u := Cond.all_elim (et []) ha h j hj
  have u' : (Cond.or G (Cond.eq (Term.elem t (Term.index 0)) X)).value args s none s [(Int32.ofNat j).toNatClampNeg] = some true := by rw [own_ixn j hs]; exact u
  have i1 := idx_at (args := args) (first := s) (o := none) (s := s) (own_nj j hs)
  rw [Cond.or_of_right (hG i1)] at u'
  have r := (elem_f (et _) i1 ha (own_nj j hs)).symm.trans (eqv_i hX u')
  rwa [own_ixn j hs] at r
theorem own_El {K V : Int32} (et : ∀ idx, t.eval args s none idx s = some (.ref da)) (ha : s.arrayAt? da = some cl) (k : Nat) (hk : K.toNatClampNeg = k) (h0 : ¬ (K < (0 : Int32))) (h : (Cond.eq (Term.elem t (Term.int K)) (Term.int V)).value args s none s [] = some true) : cl.slots[k]? = some (.int V) := by
  have r := (elem_f (et []) (Term.int_eval K) ha h0).symm.trans (eqv_i (Term.int_eval V) h)
  rwa [hk] at r
end OwnTable
theorem own_tabA : (∀ j, j < 48 → own_tab.getD j 0 = (-1 : Int32)) := by decide +kernel
theorem own_tab_48 : ∀ j, j < 58 → 48 ≤ j → own_tab.getD j 0 = Int32.ofNat j - (48 : Int32) := by decide +kernel
theorem own_tab_58 : ∀ j, j < 65 → 58 ≤ j → own_tab.getD j 0 = (-1 : Int32) := by decide +kernel
theorem own_tab_65 : ∀ j, j < 73 → 65 ≤ j → own_tab.getD j 0 = Int32.ofNat j - (55 : Int32) := by decide +kernel
theorem own_tab_80 : ∀ j, j < 85 → 80 ≤ j → own_tab.getD j 0 = Int32.ofNat j - (58 : Int32) := by decide +kernel
theorem own_tab_86 : ∀ j, j < 91 → 86 ≤ j → own_tab.getD j 0 = Int32.ofNat j - (59 : Int32) := by decide +kernel
theorem own_tab_91 : ∀ j, j < 97 → 91 ≤ j → own_tab.getD j 0 = (-1 : Int32) := by decide +kernel
theorem own_tab_97 : ∀ j, j < 105 → 97 ≤ j → own_tab.getD j 0 = Int32.ofNat j - (87 : Int32) := by decide +kernel
theorem own_tab_112 : ∀ j, j < 117 → 112 ≤ j → own_tab.getD j 0 = Int32.ofNat j - (90 : Int32) := by decide +kernel
theorem own_tab_118 : ∀ j, j < 123 → 118 ≤ j → own_tab.getD j 0 = Int32.ofNat j - (91 : Int32) := by decide +kernel
theorem own_tab_123 : ∀ j, j < 128 → 123 ≤ j → own_tab.getD j 0 = (-1 : Int32) := by decide +kernel
set_option maxRecDepth 8192 in
theorem own_table {args : Array Value} {s : State} (hn : narrow_1.value args s none s [] = some true) : ∃ (da : Addr) (kd : ClassId), (Term.static "com/example/known_paths/knownpaths/ulid/Ulid" "DIGIT_VALUES" "[I").eval args s none [] s = some (.ref da) ∧ Arv s s.heap da kd .int (128 : Int32) (own_tab.map Value.int) (.int (0 : Int32)) := by
  unfold narrow_1 at hn
  obtain ⟨wa, r0⟩ := and_e hn
  obtain ⟨wl, q0⟩ := and_e r0
  obtain ⟨c0, q1⟩ := and_e q0
  obtain ⟨c1, q2⟩ := and_e q1
  obtain ⟨c2, q3⟩ := and_e q2
  obtain ⟨c3, q4⟩ := and_e q3
  obtain ⟨c4, q5⟩ := and_e q4
  obtain ⟨c5, q6⟩ := and_e q5
  obtain ⟨c6, q7⟩ := and_e q6
  obtain ⟨c7, q8⟩ := and_e q7
  obtain ⟨c8, q9⟩ := and_e q8
  obtain ⟨c9, q10⟩ := and_e q9
  obtain ⟨c10, q11⟩ := and_e q10
  obtain ⟨c11, q12⟩ := and_e q11
  obtain ⟨c12, q13⟩ := and_e q12
  obtain ⟨c13, q14⟩ := and_e q13
  obtain ⟨c14, q15⟩ := and_e q14
  obtain ⟨c15, q16⟩ := and_e q15
  obtain ⟨c16, q17⟩ := and_e q16
  obtain ⟨c17, q18⟩ := and_e q17
  obtain ⟨c18, q19⟩ := and_e q18
  obtain ⟨c19, q20⟩ := and_e q19
  obtain ⟨c20, q21⟩ := and_e q20
  obtain ⟨c21, q22⟩ := and_e q21
  obtain ⟨c22, q23⟩ := and_e q22
  obtain ⟨c23, q24⟩ := and_e q23
  obtain ⟨c24, q25⟩ := and_e q24
  obtain ⟨c25, q26⟩ := and_e q25
  have c26 := q26
  obtain ⟨da, ev⟩ := arr_v wa
  obtain ⟨cl, A⟩ := Arr.start ev wa
  have ha := Arr.fin (Vm.Alike.refl _) A
  have et : ∀ idx, (Term.static "com/example/known_paths/knownpaths/ulid/Ulid" "DIGIT_VALUES" "[I").eval args s none idx s = some (.ref da) := fun idx => by
    simp only [Term.eval] at ev ⊢
    exact ev
  have hz : cl.slots.size = 128 := by
    by_cases hb : cl.slots.size < 2 ^ 31
    · have hl := len_f (first := s) (o := none) (idx := []) ev ha hb
      have hq := congrArg Int32.toInt (gotT (Cond.eq_ints hl (Term.int_eval (128))) wl)
      rw [len_toInt hb] at hq
      have h0 : (128 : Int32).toInt = 128 := by decide
      omega
    · exfalso
      obtain ⟨x, y, e1, -⟩ := cmp_v (Or.inl wl)
      have gen : ∀ t : Term, t.eval args s none [] s = some (.ref da) → (Term.length t).eval args s none [] s = none := fun t h => by
        simp [Term.eval, h, ha]
        omega
      exact Option.some_ne_none _ (e1.symm.trans (gen _ ev))
  have main : ∀ j, j < 128 → cl.slots[j]? = some (.int (own_tab.getD j 0)) := by
    intro j hj
    have hs : j ≤ 8192 := by omega
    have hjs : j < cl.slots.size := by omega
    rcases Nat.lt_or_ge j 48 with g | g
    · rw [own_tabA j g]; exact own_F1 et ha j hs hjs c0 (fun i1 => nay (Cond.le_ints (Term.int_eval 48) i1) (own_nle2 j hs 48 48 (by decide) (by omega))) (Term.int_eval (-1))
    rcases Nat.lt_or_ge j 58 with g1 | g1
    · rw [own_tab_48 j g1 (by omega)]; exact own_F2 et ha j hs hjs c1 (own_nlt j hs 48 48 (by decide) (by omega)) (own_nle2 j hs 58 58 (by decide) (by omega)) (fun i1 => own_subf i1 (Term.int_eval 48))
    rcases Nat.lt_or_ge j 65 with g2 | g2
    · rw [own_tab_58 j g2 (by omega)]; exact own_F2 et ha j hs hjs c2 (own_nlt j hs 58 58 (by decide) (by omega)) (own_nle2 j hs 65 65 (by decide) (by omega)) (fun _ => Term.int_eval (-1))
    rcases Nat.lt_or_ge j 73 with g3 | g3
    · rw [own_tab_65 j g3 (by omega)]; exact own_F2 et ha j hs hjs c3 (own_nlt j hs 65 65 (by decide) (by omega)) (own_nle2 j hs 73 73 (by decide) (by omega)) (fun i1 => own_subf i1 (Term.int_eval 55))
    rcases Nat.lt_or_ge j 74 with g4 | g4
    · obtain rfl : j = 73 := by omega
      exact own_El et ha 73 (by decide) (by decide) c4
    rcases Nat.lt_or_ge j 75 with g5 | g5
    · obtain rfl : j = 74 := by omega
      exact own_El et ha 74 (by decide) (by decide) c5
    rcases Nat.lt_or_ge j 76 with g6 | g6
    · obtain rfl : j = 75 := by omega
      exact own_El et ha 75 (by decide) (by decide) c6
    rcases Nat.lt_or_ge j 77 with g7 | g7
    · obtain rfl : j = 76 := by omega
      exact own_El et ha 76 (by decide) (by decide) c7
    rcases Nat.lt_or_ge j 78 with g8 | g8
    · obtain rfl : j = 77 := by omega
      exact own_El et ha 77 (by decide) (by decide) c8
    rcases Nat.lt_or_ge j 79 with g9 | g9
    · obtain rfl : j = 78 := by omega
      exact own_El et ha 78 (by decide) (by decide) c9
    rcases Nat.lt_or_ge j 80 with g10 | g10
    · obtain rfl : j = 79 := by omega
      exact own_El et ha 79 (by decide) (by decide) c10
    rcases Nat.lt_or_ge j 85 with g11 | g11
    · rw [own_tab_80 j g11 (by omega)]; exact own_F2 et ha j hs hjs c11 (own_nlt j hs 80 80 (by decide) (by omega)) (own_nle2 j hs 85 85 (by decide) (by omega)) (fun i1 => own_subf i1 (Term.int_eval 58))
    rcases Nat.lt_or_ge j 86 with g12 | g12
    · obtain rfl : j = 85 := by omega
      exact own_El et ha 85 (by decide) (by decide) c12
    rcases Nat.lt_or_ge j 91 with g13 | g13
    · rw [own_tab_86 j g13 (by omega)]; exact own_F2 et ha j hs hjs c13 (own_nlt j hs 86 86 (by decide) (by omega)) (own_nle2 j hs 91 91 (by decide) (by omega)) (fun i1 => own_subf i1 (Term.int_eval 59))
    rcases Nat.lt_or_ge j 97 with g14 | g14
    · rw [own_tab_91 j g14 (by omega)]; exact own_F2 et ha j hs hjs c14 (own_nlt j hs 91 91 (by decide) (by omega)) (own_nle2 j hs 97 97 (by decide) (by omega)) (fun _ => Term.int_eval (-1))
    rcases Nat.lt_or_ge j 105 with g15 | g15
    · rw [own_tab_97 j g15 (by omega)]; exact own_F2 et ha j hs hjs c15 (own_nlt j hs 97 97 (by decide) (by omega)) (own_nle2 j hs 105 105 (by decide) (by omega)) (fun i1 => own_subf i1 (Term.int_eval 87))
    rcases Nat.lt_or_ge j 106 with g16 | g16
    · obtain rfl : j = 105 := by omega
      exact own_El et ha 105 (by decide) (by decide) c16
    rcases Nat.lt_or_ge j 107 with g17 | g17
    · obtain rfl : j = 106 := by omega
      exact own_El et ha 106 (by decide) (by decide) c17
    rcases Nat.lt_or_ge j 108 with g18 | g18
    · obtain rfl : j = 107 := by omega
      exact own_El et ha 107 (by decide) (by decide) c18
    rcases Nat.lt_or_ge j 109 with g19 | g19
    · obtain rfl : j = 108 := by omega
      exact own_El et ha 108 (by decide) (by decide) c19
    rcases Nat.lt_or_ge j 110 with g20 | g20
    · obtain rfl : j = 109 := by omega
      exact own_El et ha 109 (by decide) (by decide) c20
    rcases Nat.lt_or_ge j 111 with g21 | g21
    · obtain rfl : j = 110 := by omega
      exact own_El et ha 110 (by decide) (by decide) c21
    rcases Nat.lt_or_ge j 112 with g22 | g22
    · obtain rfl : j = 111 := by omega
      exact own_El et ha 111 (by decide) (by decide) c22
    rcases Nat.lt_or_ge j 117 with g23 | g23
    · rw [own_tab_112 j g23 (by omega)]; exact own_F2 et ha j hs hjs c23 (own_nlt j hs 112 112 (by decide) (by omega)) (own_nle2 j hs 117 117 (by decide) (by omega)) (fun i1 => own_subf i1 (Term.int_eval 90))
    rcases Nat.lt_or_ge j 118 with g24 | g24
    · obtain rfl : j = 117 := by omega
      exact own_El et ha 117 (by decide) (by decide) c24
    rcases Nat.lt_or_ge j 123 with g25 | g25
    · rw [own_tab_118 j g25 (by omega)]; exact own_F2 et ha j hs hjs c25 (own_nlt j hs 118 118 (by decide) (by omega)) (own_nle2 j hs 123 123 (by decide) (by omega)) (fun i1 => own_subf i1 (Term.int_eval 91))
    rw [own_tab_123 j hj (by omega)]; exact own_F1 et ha j hs hjs c26 (fun i1 => nay (Cond.lt_ints i1 (Term.int_eval 123)) (own_nlt j hs 123 123 (by decide) (by omega))) (Term.int_eval (-1))
  refine ⟨da, cl.cls, ev, cl, A, rfl, by rw [hz]; rfl, by decide, fun k hk => ?_, fun k hk => ?_⟩
  · rw [own_tabg]
    exact main k (by omega)
  · rw [own_tabg]
    rfl
set_option maxRecDepth 65536 in
set_option maxHeartbeats 40000000 in
theorem comes_1 {Post : Tables → Env → Array Value → State → Outcome → State → Prop} (hpost : ∀ tb e args s v u, (limb_1_1.after args s (.returned v) u = true ∧ limb_1_2.after args s (.returned v) u = true ∧ True) → ReturnedEndW s (.returned v) u (Jvm.fieldLocs frame_1_writes args s ++ Jvm.arrayLocs frame_1_arrays args s ++ Jvm.staticLocs frame_1_statics s) 40 2496 → Post tb e args s (.returned v) u) :
    ArmFor flags0 classFile x code maxLocals ret World_1 tables_1 room_1 Calls_1 rest_1 Pre_1 Post := by
  intro l hfl _ _ p e ha hc hk s m args below hf hA hF happ hP
  obtain ⟨hcalls, hrest, hpre⟩ := hP
  obtain ⟨-, -, -, hnamed, -, -, -, hat⟩ := (Spec.applies_iff hf).mp happ
  obtain ⟨hg, hn⟩ := and_e (Cond.before_iff.mp (show (Jvm.Cond.and given_1 narrow_1).before args s = true from hpre))
  obtain ⟨g1, g2⟩ := and_e hg
  obtain ⟨g3, g4⟩ := and_e g2
  obtain ⟨g5, g6⟩ := and_e g4
  obtain ⟨g7, g8⟩ := and_e g6
  obtain ⟨w0, w1, w2, w3, rfl⟩ : ∃ w0 w1 w2 w3 : Value, args = #[w0, w1, w2, w3] := by
    have hs : args.size = 4 := by simpa [Cond.value, given_1] using g1
    obtain ⟨L⟩ := args
    match L, hs with
    | [w0, w1, w2, w3], _ => exact ⟨w0, w1, w2, w3, rfl⟩
  have hw := fun d (hd : d ∈ tables_1) => atoms_spec (ws := Jvm.Cond.code x code maxLocals ret :: tables_1) hat d (List.mem_cons_of_mem _ hd)
  have hfit : Fit s := fun {y c} hc i hi => by
    obtain ⟨ha, rfl⟩ := Array.getElem?_eq_some_iff.mp hc
    have q := List.all_eq_true.mp ((Array.all_eq_true_iff_forall_mem.mp hF) _ (Array.getElem_mem ha)) i (List.mem_range.mpr hi)
    simpa [Array.getElem?_eq_getElem hi] using q
  obtain ⟨hsets, hown0⟩ := atoms_of _ (rest_1_c_eq ▸ (show rest_1_c.before _ s = true from hrest))
  have hr0 := Cond.before_iff.mp hown0
  obtain ⟨i0, ei0⟩ := isL_v g3
  obtain rfl : w0 = (.long i0) := Option.some.inj ei0
  obtain ⟨i1, ei1⟩ := isL_v g5
  obtain rfl : w1 = (.long i1) := Option.some.inj ei1
  obtain ⟨i2, ei2⟩ := is_v g7
  obtain rfl : w2 = (.int i2) := Option.some.inj ei2
  obtain ⟨i3, ei3⟩ := is_v g8
  obtain rfl : w3 = (.int i3) := Option.some.inj ei3
  obtain ⟨cs, ecs⟩ := is_v (Cond.before_iff.mp (hsets _ (List.mem_of_getElem? (i := 1) rfl)))
  have S_CS : Sta s s.heap "java/lang/String" "COMPACT_STRINGS" "Z" (.int cs) := Sta.start ecs (Or.inl (hsets _ (List.mem_of_getElem? (i := 0) rfl)))
  have hcs : ¬ (cs = (0 : Int32)) := gotF (Cond.eq_ints ecs (Term.int_eval (0))) (not_v (Cond.before_iff.mp (hsets _ (List.mem_of_getElem? (i := 2) rfl))))
  obtain ⟨sf, esf, hsf⟩ := isR_v (Cond.before_iff.mp (hsets _ (List.mem_of_getElem? (i := 8) rfl)))
  have S_SF : Sta s s.heap "jdk/internal/util/Preconditions" "SIOOBE_FORMATTER" "Ljava/util/function/BiFunction;" sf := Sta.start esf (Or.inl (hsets _ (List.mem_of_getElem? (i := 7) rfl)))
  obtain ⟨da, kd, eda, V_da⟩ := own_table hn
  have S_DV : Sta s s.heap "com/example/known_paths/knownpaths/ulid/Ulid" "DIGIT_VALUES" "[I" (.ref da) := Sta.start eda (Or.inr ⟨(wq hw 66 rfl), (wq hw 80 rfl)⟩)
  have hEL : EW s _ own_EL := (EW.cons (wq hw 103 rfl) (by decide) (EW.cons (wq hw 6 rfl) (by decide) EW.nil))
  have hCH : CHv s own_EL s.vm s.heap := CHv.start hEL (fun p hp => hcalls.1 p hp) (hsets _ (List.mem_of_getElem? (i := 2) rfl)) (wq hw 9 rfl) (wq hw 8 rfl)
  obtain ⟨n, o, h1, h2, h3, _, L, rfl, ⟨rfl, N⟩, -, hq⟩ := rm0 l s _ hw hEL tables_1 i0 i1 i2 i3 cs sf da kd s.heap s.heap.size (Nat.le_refl _) S_CS S_SF S_DV V_da hcs hsf (Old.start s) p e ha hc hk s m _ below hf ((Spec.applies_iff_loose hf).mp happ).1 ⟨rfl, State.Warmed39.refl s, rfl, hCH, all0⟩ trivial
  refine ⟨n, _, h1, h2, h3, hpost _ _ _ _ _ _ ⟨Cond.after_iff.mpr rfl, Cond.after_iff.mpr (eq_i res_at (Term.int_eval (1)) rfl), trivial⟩ ⟨hq.1, hq.2.1, hq.2.2.1, (hq.2.2.2.sift fun y hy => Or.inr (N y hy)).mono (by decide) (by decide)⟩⟩
theorem main_1_1 : Claimed_1_1 := comes_1 fun _ _ _ _ _ _ h hF => ⟨h.1, hF⟩
theorem main_1_2 : Claimed_1_2 := comes_1 fun _ _ _ _ _ _ h hF => ⟨h.2.1, hF⟩
end Jvm.Pilot.@@N@@
namespace Jvm.Pilot.@@N@@
open Jvm Jvm.ClassFile Sem Op Lib Jvm.Free Jvm.Stand Jvm.Pilot.@@N@@.Jvm.D
/-! MADE BY PROGRAM (witnessworld.py) out of the Statement's table words and the real class files: 20 classes; the members and pool entries that the words name. The judged class is class 1, her method 3. -/
namespace start1
open Jvm.ClassFile
def u (s : String) : CpInfo := .utf8 (stringToUtf16 s)
/-- a pool by its gaps: so many unusable entries, then the entry; so many at the end -/
def gap : Nat → List CpInfo → List CpInfo
  | 0, r => r
  | n + 1, r => .unusable :: gap n r
def poolList (es : List (Nat × CpInfo)) (last : Nat) : List CpInfo := es.foldr (fun e r => gap e.1 (e.2 :: r)) (gap last [])
def pool (es : List (Nat × CpInfo)) (last : Nat) : Array CpInfo := ⟨poolList es last⟩
def fileOf (pool : Array CpInfo) (this : Nat) (attrs : Array Attribute := #[]) (ms : Array MethodInfo := #[]) (fl : Nat := 33) (sup : Nat := 0) (ifs : Array Nat := #[]) (fds : Array FieldInfo := #[]) : ClassFile where
  minorVersion := 0
  majorVersion := 65
  constantPool := pool
  accessFlags := fl
  thisClass := this
  superClass := sup
  interfaces := ifs
  fields := fds
  methods := ms
  attributes := attrs
def plain (name : String) (sup : Option ClassId) : Class where
  name := name
  kind := .ordinary
  loader := none
  accessFlags := 33
  super := sup
  interfaces := #[]
  cf := none
  fields := #[]
  methods := #[]
  instanceTypes := #[]
  staticTypes := #[]
  resolved := #[]
  callSites := []
  init := .initialized
  statics := none
  mirror := none

def pool0 : Array CpInfo := pool [(5, u "<init>"), (0, u "()V"), (1, .class_ 10), (1, u "java/lang/Object")] 113

def k0c0 : Code := { maxStack := 0, maxLocals := 1, code := object_method_1_code, exceptionTable := #[], attributes := #[] }
def k0m0 : Method := { name := "<init>", desc := "()V", sig := { parameters := [], returnType := none }, accessFlags := 1, code := some k0c0 }
/-- java/lang/Object -/
def k0 : Class := { plain "java/lang/Object" none with
  accessFlags := 33
  interfaces := #[]
  cf := some (fileOf pool0 8 #[] #[{ accessFlags := 1, nameIndex := 5, descriptorIndex := 6, attributes := #[] }] 33 0 #[] #[])
  fields := #[]
  methods := #[k0m0]
  instanceTypes := #[]
  staticTypes := #[]
  resolved := Array.replicate 124 none
  statics := none }

def pool1 : Array CpInfo := pool [(2, .class_ 4), (1, u "java/lang/Object"), (0, u "<init>"), (0, u "()V"), (0, .long 31), (1, .string 10), (0, u "0123456789ABCDEFGHJKMNPQRSTVWXYZ"), (0, .methodref 12 13), (0, .class_ 14), (0, .nameAndType 15 16), (0, u "java/lang/String"), (0, u "charAt"), (0, u "(I)C"), (0, .long 7), (1, .methodref 20 21), (0, .class_ 22), (0, .nameAndType 23 24), (0, u "com/example/known_paths/knownpaths/ulid/UlidParsePinLaw"), (0, u "put"), (0, u "([C[CIII)V"), (0, .methodref 20 26), (0, .nameAndType 27 28), (0, u "dig"), (0, u "(JI)I"), (0, .methodref 12 30), (0, .nameAndType 5 31), (0, u "([C)V"), (0, .methodref 33 34), (0, .class_ 35), (0, .nameAndType 36 37), (0, u "com/example/known_paths/knownpaths/ulid/Ulid"), (0, u "parse"), (0, u "(Ljava/lang/String;)Lcom/example/known_paths/knownpaths/ulid/Ulid;"), (0, .long 281474976710655), (1, .methodref 33 41), (0, .nameAndType 42 43), (0, u "equals"), (0, u "(Ljava/lang/Object;)Z"), (0, .methodref 33 45), (0, .nameAndType 46 47), (0, u "toString"), (0, u "()Ljava/lang/String;"), (0, .methodref 12 41), (0, .methodref 33 50), (0, .nameAndType 51 52), (0, u "time"), (0, u "()J"), (3, u "law"), (0, u "(JJII)Z")] 4

def k1m0 : Method := { name := "<init>", desc := "()V", sig := { parameters := [], returnType := none }, accessFlags := 1, code := none }
def k1c1 : Code := { maxStack := 4, maxLocals := 3, code := method_2_code, exceptionTable := #[], attributes := #[] }
def k1m1 : Method := { name := "dig", desc := "(JI)I", sig := { parameters := [.long, .int], returnType := some .int }, accessFlags := 10, code := some k1c1 }
def k1c2 : Code := { maxStack := 4, maxLocals := 6, code := method_3_code, exceptionTable := #[], attributes := #[] }
def k1m2 : Method := { name := "put", desc := "([C[CIII)V", sig := { parameters := [(.array .char), (.array .char), .int, .int, .int], returnType := none }, accessFlags := 10, code := some k1c2 }
def k1c3 : Code := { maxStack := 7, maxLocals := 14, code := code, exceptionTable := #[], attributes := #[] }
def k1m3 : Method := { name := "law", desc := "(JJII)Z", sig := { parameters := [.long, .long, .int, .int], returnType := some .boolean }, accessFlags := 9, code := some k1c3 }
/-- com/example/known_paths/knownpaths/ulid/UlidParsePinLaw -/
def k1 : Class := { plain "com/example/known_paths/knownpaths/ulid/UlidParsePinLaw" (some 0) with
  accessFlags := 49
  interfaces := #[]
  cf := some (fileOf pool1 20 #[] #[{ accessFlags := 1, nameIndex := 5, descriptorIndex := 6, attributes := #[] }, { accessFlags := 10, nameIndex := 27, descriptorIndex := 28, attributes := #[] }, { accessFlags := 10, nameIndex := 23, descriptorIndex := 24, attributes := #[] }, { accessFlags := 9, nameIndex := 56, descriptorIndex := 57, attributes := #[] }] 49 2 #[] #[])
  fields := #[]
  methods := #[k1m0, k1m1, k1m2, k1m3]
  instanceTypes := #[]
  staticTypes := #[]
  resolved := Array.replicate 62 none
  statics := none }

def pool2 : Array CpInfo := pool [(1, .class_ 2), (0, u "java/io/Serializable"), (0, .class_ 4), (0, u "java/lang/Object")] 2

/-- java/io/Serializable -/
def k2 : Class := { plain "java/io/Serializable" (some 0) with
  accessFlags := 1537
  interfaces := #[]
  cf := some (fileOf pool2 1 #[] #[] 1537 3 #[] #[])
  fields := #[]
  methods := #[]
  instanceTypes := #[]
  staticTypes := #[]
  resolved := Array.replicate 7 none
  statics := none }

def pool3 : Array CpInfo := pool [(1, .class_ 2), (0, u "java/lang/Comparable"), (0, .class_ 4), (0, u "java/lang/Object")] 7

/-- java/lang/Comparable -/
def k3 : Class := { plain "java/lang/Comparable" (some 0) with
  accessFlags := 1537
  interfaces := #[]
  cf := some (fileOf pool3 1 #[] #[] 1537 3 #[] #[])
  fields := #[]
  methods := #[]
  instanceTypes := #[]
  staticTypes := #[]
  resolved := Array.replicate 12 none
  statics := none }

def pool4 : Array CpInfo := pool [(2, .class_ 4), (1, u "java/lang/CharSequence"), (42, .class_ 48), (0, u "java/lang/CharSequence$1CodePointIterator"), (10, .class_ 60), (0, u "java/lang/CharSequence$1CharIterator"), (5, .class_ 67), (0, u "java/lang/Object")] 63

/-- java/lang/CharSequence -/
def k4 : Class := { plain "java/lang/CharSequence" (some 0) with
  accessFlags := 1537
  interfaces := #[]
  cf := some (fileOf pool4 2 #[.nestMembers #[47, 59]] #[] 1537 66 #[] #[])
  fields := #[]
  methods := #[]
  instanceTypes := #[]
  staticTypes := #[]
  resolved := Array.replicate 131 none
  statics := none }

def pool5 : Array CpInfo := pool [(1, .class_ 2), (0, u "java/lang/constant/Constable"), (0, .class_ 4), (0, u "java/lang/Object")] 6

/-- java/lang/constant/Constable -/
def k5 : Class := { plain "java/lang/constant/Constable" (some 0) with
  accessFlags := 1537
  interfaces := #[]
  cf := some (fileOf pool5 1 #[] #[] 1537 3 #[] #[])
  fields := #[]
  methods := #[]
  instanceTypes := #[]
  staticTypes := #[]
  resolved := Array.replicate 11 none
  statics := none }

def pool6 : Array CpInfo := pool [(1, .class_ 2), (0, u "java/lang/constant/ConstantDesc"), (0, .class_ 4), (0, u "java/lang/Object")] 32

/-- java/lang/constant/ConstantDesc -/
def k6 : Class := { plain "java/lang/constant/ConstantDesc" (some 0) with
  accessFlags := 1537
  interfaces := #[]
  cf := some (fileOf pool6 1 #[] #[] 1537 3 #[] #[])
  fields := #[]
  methods := #[]
  instanceTypes := #[]
  staticTypes := #[]
  resolved := Array.replicate 37 none
  statics := none }

def pool7 : Array CpInfo := pool [(1, .methodref 2 3), (0, .class_ 4), (0, .nameAndType 5 6), (0, u "java/lang/Object"), (0, u "<init>"), (0, u "()V"), (2, .fieldref 10 11), (0, .class_ 12), (0, .nameAndType 13 14), (0, u "java/lang/String"), (0, u "value"), (0, u "[B"), (0, .fieldref 10 16), (0, .nameAndType 17 18), (0, u "coder"), (0, u "B"), (2, u "hash"), (0, u "I"), (2, u "hashIsZero"), (0, u "Z"), (0, .methodref 10 28), (0, .nameAndType 5 29), (0, u "([CIILjava/lang/Void;)V"), (8, .fieldref 10 39), (0, .nameAndType 40 26), (0, u "COMPACT_STRINGS"), (1, .class_ 44), (1, u "java/lang/StringUTF16"), (0, u "compress"), (1, .methodref 42 48), (0, .nameAndType 49 50), (0, u "coderFromArrayLen"), (0, u "([BI)B"), (56, .class_ 109), (1, u "java/lang/StringLatin1"), (32, u "()Z"), (34, .methodref 42 178), (0, .nameAndType 45 179), (0, u "([CII)[B"), (154, u "()I"), (0, .methodref 10 336), (0, .nameAndType 17 337), (0, u "()B"), (25, u "([BI)C"), (27, u "(II)V"), (35, u "(I)C"), (64, .methodref 10 493), (0, .nameAndType 494 142), (0, u "isLatin1"), (0, .methodref 107 496), (0, .nameAndType 497 363), (0, u "charAt"), (3, u "checkIndex"), (5, u "length"), (33, .methodref 107 542), (0, .nameAndType 543 544), (0, u "equals"), (0, u "([B[B)Z"), (28, u "(Ljava/lang/Object;)Z"), (1, .class_ 576), (0, u "java/lang/CharSequence"), (22, u "CASE_INSENSITIVE_ORDER"), (0, u "Ljava/util/Comparator;"), (409, u "([C)V"), (42, .fieldref 1054 1055), (0, .class_ 1056), (0, .nameAndType 1057 1058), (0, u "jdk/internal/util/Preconditions"), (0, u "SIOOBE_FORMATTER"), (0, u "Ljava/util/function/BiFunction;"), (0, .methodref 1054 1060), (0, .nameAndType 501 1061), (0, u "(IILjava/util/function/BiFunction;)I"), (39, u "serialPersistentFields"), (0, u "[Ljava/io/ObjectStreamField;"), (0, .class_ 1104), (0, u "java/lang/String$CaseInsensitiveComparator"), (1, .class_ 1107), (0, u "java/io/Serializable"), (0, .class_ 1109), (0, u "java/lang/Comparable"), (0, .class_ 1111), (0, u "java/lang/constant/Constable"), (0, .class_ 1113), (0, u "java/lang/constant/ConstantDesc"), (2, u "serialVersionUID"), (0, u "J"), (3, u "REPL"), (0, u "C"), (2, u "LATIN1"), (1, u "UTF16")] 323

def k7m0 : Method := { name := "<init>", desc := "()V", sig := { parameters := [], returnType := none }, accessFlags := 1, code := none }
def k7c1 : Code := { maxStack := 5, maxLocals := 2, code := jdk_42_method_3_code, exceptionTable := #[], attributes := #[] }
def k7m1 : Method := { name := "<init>", desc := "([C)V", sig := { parameters := [(.array .char)], returnType := none }, accessFlags := 1, code := some k7c1 }
def k7c2 : Code := { maxStack := 2, maxLocals := 1, code := jdk_42_method_54_code, exceptionTable := #[], attributes := #[] }
def k7m2 : Method := { name := "length", desc := "()I", sig := { parameters := [], returnType := some .int }, accessFlags := 1, code := some k7c2 }
def k7c3 : Code := { maxStack := 2, maxLocals := 2, code := jdk_42_method_56_code, exceptionTable := #[], attributes := #[] }
def k7m3 : Method := { name := "charAt", desc := "(I)C", sig := { parameters := [.int], returnType := some .char }, accessFlags := 1, code := some k7c3 }
def k7c4 : Code := { maxStack := 2, maxLocals := 3, code := jdk_42_method_66_code, exceptionTable := #[], attributes := #[] }
def k7m4 : Method := { name := "equals", desc := "(Ljava/lang/Object;)Z", sig := { parameters := [(.object "java/lang/Object")], returnType := some .boolean }, accessFlags := 1, code := some k7c4 }
def k7c5 : Code := { maxStack := 4, maxLocals := 6, code := jdk_42_method_149_code, exceptionTable := #[], attributes := #[] }
def k7m5 : Method := { name := "<init>", desc := "([CIILjava/lang/Void;)V", sig := { parameters := [(.array .char), .int, .int, (.object "java/lang/Void")], returnType := none }, accessFlags := 2, code := some k7c5 }
def k7c6 : Code := { maxStack := 1, maxLocals := 1, code := jdk_42_method_152_code, exceptionTable := #[], attributes := #[] }
def k7m6 : Method := { name := "coder", desc := "()B", sig := { parameters := [], returnType := some .byte }, accessFlags := 0, code := some k7c6 }
def k7c7 : Code := { maxStack := 1, maxLocals := 1, code := jdk_42_method_154_code, exceptionTable := #[], attributes := #[] }
def k7m7 : Method := { name := "isLatin1", desc := "()Z", sig := { parameters := [], returnType := some .boolean }, accessFlags := 0, code := some k7c7 }
def k7c8 : Code := { maxStack := 3, maxLocals := 2, code := jdk_42_method_155_code, exceptionTable := #[], attributes := #[] }
def k7m8 : Method := { name := "checkIndex", desc := "(II)V", sig := { parameters := [.int, .int], returnType := none }, accessFlags := 8, code := some k7c8 }
/-- java/lang/String -/
def k7 : Class := { plain "java/lang/String" (some 0) with
  accessFlags := 49
  interfaces := #[2, 3, 4, 5, 6]
  cf := some (fileOf pool7 10 #[.nestMembers #[1103]] #[{ accessFlags := 1, nameIndex := 5, descriptorIndex := 6, attributes := #[] }, { accessFlags := 1, nameIndex := 5, descriptorIndex := 1010, attributes := #[] }, { accessFlags := 1, nameIndex := 507, descriptorIndex := 334, attributes := #[] }, { accessFlags := 1, nameIndex := 497, descriptorIndex := 427, attributes := #[] }, { accessFlags := 1, nameIndex := 543, descriptorIndex := 573, attributes := #[] }, { accessFlags := 2, nameIndex := 5, descriptorIndex := 29, attributes := #[] }, { accessFlags := 0, nameIndex := 17, descriptorIndex := 337, attributes := #[] }, { accessFlags := 0, nameIndex := 494, descriptorIndex := 142, attributes := #[] }, { accessFlags := 8, nameIndex := 501, descriptorIndex := 391, attributes := #[] }] 49 2 #[1106, 1108, 575, 1110, 1112] #[{ accessFlags := 18, nameIndex := 13, descriptorIndex := 14, attributes := #[] }, { accessFlags := 18, nameIndex := 17, descriptorIndex := 18, attributes := #[] }, { accessFlags := 2, nameIndex := 21, descriptorIndex := 22, attributes := #[] }, { accessFlags := 2, nameIndex := 25, descriptorIndex := 26, attributes := #[] }, { accessFlags := 26, nameIndex := 1116, descriptorIndex := 1117, attributes := #[] }, { accessFlags := 24, nameIndex := 40, descriptorIndex := 26, attributes := #[] }, { accessFlags := 26, nameIndex := 1101, descriptorIndex := 1102, attributes := #[] }, { accessFlags := 26, nameIndex := 1121, descriptorIndex := 1122, attributes := #[] }, { accessFlags := 25, nameIndex := 599, descriptorIndex := 600, attributes := #[] }, { accessFlags := 24, nameIndex := 1125, descriptorIndex := 18, attributes := #[] }, { accessFlags := 24, nameIndex := 1127, descriptorIndex := 18, attributes := #[] }])
  fields := #[{ name := "value", type := (.array .byte), accessFlags := 18, slot := 0, constantValue := 0 }, { name := "coder", type := .byte, accessFlags := 18, slot := 1, constantValue := 0 }, { name := "hash", type := .int, accessFlags := 2, slot := 2, constantValue := 0 }, { name := "hashIsZero", type := .boolean, accessFlags := 2, slot := 3, constantValue := 0 }, { name := "serialVersionUID", type := .long, accessFlags := 26, slot := 0, constantValue := 0 }, { name := "COMPACT_STRINGS", type := .boolean, accessFlags := 24, slot := 1, constantValue := 0 }, { name := "serialPersistentFields", type := (.array (.object "java/io/ObjectStreamField")), accessFlags := 26, slot := 2, constantValue := 0 }, { name := "REPL", type := .char, accessFlags := 26, slot := 3, constantValue := 0 }, { name := "CASE_INSENSITIVE_ORDER", type := (.object "java/util/Comparator"), accessFlags := 25, slot := 4, constantValue := 0 }, { name := "LATIN1", type := .byte, accessFlags := 24, slot := 5, constantValue := 0 }, { name := "UTF16", type := .byte, accessFlags := 24, slot := 6, constantValue := 0 }]
  methods := #[k7m0, k7m1, k7m2, k7m3, k7m4, k7m5, k7m6, k7m7, k7m8]
  instanceTypes := #[(.array .byte), .byte, .int, .boolean]
  staticTypes := #[.long, .boolean, (.array (.object "java/io/ObjectStreamField")), .char, (.object "java/util/Comparator"), .byte, .byte]
  resolved := Array.replicate 1451 none
  statics := some 0 }

def pool8 : Array CpInfo := pool [(1, .class_ 2), (0, u "java/lang/String"), (1, .class_ 6), (1, u "java/lang/Object"), (0, u "<init>"), (0, u "()V"), (0, .methodref 1 10), (0, .nameAndType 11 12), (0, u "checkIndex"), (0, u "(II)V"), (1, .class_ 16), (1, u "java/lang/StringLatin1"), (36, u "([BI)C"), (67, u "$assertionsDisabled"), (0, u "Z"), (98, .class_ 223), (1, u "java/lang/StringLatin1$LinesSpliterator"), (28, u "charAt"), (28, u "equals"), (0, u "([B[B)Z"), (107, .class_ 391), (0, u "java/lang/StringLatin1$CharsSpliterator")] 3

def k8m0 : Method := { name := "<init>", desc := "()V", sig := { parameters := [], returnType := none }, accessFlags := 0, code := none }
def k8c1 : Code := { maxStack := 2, maxLocals := 2, code := jdk_43_method_2_code, exceptionTable := #[], attributes := #[] }
def k8m1 : Method := { name := "charAt", desc := "([BI)C", sig := { parameters := [(.array .byte), .int], returnType := some .char }, accessFlags := 9, code := some k8c1 }
def k8c2 : Code := { maxStack := 3, maxLocals := 3, code := jdk_43_method_13_code, exceptionTable := #[], attributes := #[] }
def k8m2 : Method := { name := "equals", desc := "([B[B)Z", sig := { parameters := [(.array .byte), (.array .byte)], returnType := some .boolean }, accessFlags := 9, code := some k8c2 }
/-- java/lang/StringLatin1 -/
def k8 : Class := { plain "java/lang/StringLatin1" (some 0) with
  accessFlags := 48
  interfaces := #[]
  cf := some (fileOf pool8 14 #[.nestMembers #[390, 221]] #[{ accessFlags := 0, nameIndex := 7, descriptorIndex := 8, attributes := #[] }, { accessFlags := 9, nameIndex := 252, descriptorIndex := 53, attributes := #[] }, { accessFlags := 9, nameIndex := 281, descriptorIndex := 282, attributes := #[] }] 48 4 #[] #[{ accessFlags := 4120, nameIndex := 121, descriptorIndex := 122, attributes := #[] }])
  fields := #[{ name := "$assertionsDisabled", type := .boolean, accessFlags := 4120, slot := 0, constantValue := 0 }]
  methods := #[k8m0, k8m1, k8m2]
  instanceTypes := #[]
  staticTypes := #[.boolean]
  resolved := Array.replicate 395 none
  statics := none }

def pool9 : Array CpInfo := pool [(2, .class_ 4), (1, u "java/lang/Object"), (0, u "<init>"), (0, u "()V"), (17, .class_ 26), (1, u "jdk/internal/util/Preconditions"), (6, u "checkIndex"), (21, .class_ 56), (0, u "jdk/internal/util/Preconditions$4"), (57, .class_ 115), (0, u "jdk/internal/util/Preconditions$1"), (7, u "SIOOBE_FORMATTER"), (0, u "Ljava/util/function/BiFunction;"), (0, .class_ 126), (0, u "jdk/internal/util/Preconditions$2"), (3, u "AIOOBE_FORMATTER"), (0, .class_ 132), (0, u "jdk/internal/util/Preconditions$3"), (3, u "IOOBE_FORMATTER"), (41, u "(IILjava/util/function/BiFunction;)I")] 15

def k9m0 : Method := { name := "<init>", desc := "()V", sig := { parameters := [], returnType := none }, accessFlags := 1, code := none }
def k9c1 : Code := { maxStack := 3, maxLocals := 3, code := jdk_41_method_11_code, exceptionTable := #[], attributes := #[] }
def k9m1 : Method := { name := "checkIndex", desc := "(IILjava/util/function/BiFunction;)I", sig := { parameters := [.int, .int, (.object "java/util/function/BiFunction")], returnType := some .int }, accessFlags := 9, code := some k9c1 }
/-- jdk/internal/util/Preconditions -/
def k9 : Class := { plain "jdk/internal/util/Preconditions" (some 0) with
  accessFlags := 33
  interfaces := #[]
  cf := some (fileOf pool9 24 #[.nestMembers #[55, 131, 125, 114]] #[{ accessFlags := 1, nameIndex := 5, descriptorIndex := 6, attributes := #[] }, { accessFlags := 9, nameIndex := 33, descriptorIndex := 178, attributes := #[] }] 33 2 #[] #[{ accessFlags := 25, nameIndex := 123, descriptorIndex := 124, attributes := #[] }, { accessFlags := 25, nameIndex := 130, descriptorIndex := 124, attributes := #[] }, { accessFlags := 25, nameIndex := 136, descriptorIndex := 124, attributes := #[] }])
  fields := #[{ name := "SIOOBE_FORMATTER", type := (.object "java/util/function/BiFunction"), accessFlags := 25, slot := 0, constantValue := 0 }, { name := "AIOOBE_FORMATTER", type := (.object "java/util/function/BiFunction"), accessFlags := 25, slot := 1, constantValue := 0 }, { name := "IOOBE_FORMATTER", type := (.object "java/util/function/BiFunction"), accessFlags := 25, slot := 2, constantValue := 0 }]
  methods := #[k9m0, k9m1]
  instanceTypes := #[]
  staticTypes := #[(.object "java/util/function/BiFunction"), (.object "java/util/function/BiFunction"), (.object "java/util/function/BiFunction")]
  resolved := Array.replicate 194 none
  statics := some 1 }

def pool10 : Array CpInfo := pool [(6, .class_ 8), (1, u "java/lang/Object"), (0, u "<init>"), (0, u "()V"), (1, .class_ 14), (1, u "java/lang/StringUTF16"), (31, u "$assertionsDisabled"), (0, u "Z"), (13, u "HI_BYTE_SHIFT"), (0, u "I"), (2, u "LO_BYTE_SHIFT"), (49, .methodref 12 116), (0, .nameAndType 117 118), (0, u "compress"), (0, u "([CI[BII)I"), (3, u "([CII)[B"), (138, u "coderFromArrayLen"), (0, u "([BI)B"), (106, .class_ 371), (1, u "java/lang/StringUTF16$LinesSpliterator"), (58, u "MAX_LENGTH"), (196, .class_ 628), (0, u "java/lang/StringUTF16$CodePointsSpliterator"), (0, .class_ 630), (0, u "java/lang/StringUTF16$CharsSpliterator")] 4

def k10m0 : Method := { name := "<init>", desc := "()V", sig := { parameters := [], returnType := none }, accessFlags := 0, code := none }
def k10c1 : Code := { maxStack := 2, maxLocals := 2, code := jdk_52_method_15_code, exceptionTable := #[], attributes := #[] }
def k10m1 : Method := { name := "coderFromArrayLen", desc := "([BI)B", sig := { parameters := [(.array .byte), .int], returnType := some .byte }, accessFlags := 8, code := some k10c1 }
def k10c2 : Code := { maxStack := 5, maxLocals := 6, code := jdk_52_method_16_code, exceptionTable := #[], attributes := #[] }
def k10m2 : Method := { name := "compress", desc := "([CII)[B", sig := { parameters := [(.array .char), .int, .int], returnType := some (.array .byte) }, accessFlags := 9, code := some k10c2 }
def k10c3 : Code := { maxStack := 3, maxLocals := 7, code := jdk_52_method_21_code, exceptionTable := #[], attributes := #[] }
def k10m3 : Method := { name := "compress", desc := "([CI[BII)I", sig := { parameters := [(.array .char), .int, (.array .byte), .int, .int], returnType := some .int }, accessFlags := 9, code := some k10c3 }
/-- java/lang/StringUTF16 -/
def k10 : Class := { plain "java/lang/StringUTF16" (some 0) with
  accessFlags := 48
  interfaces := #[]
  cf := some (fileOf pool10 12 #[.nestMembers #[627, 629, 369]] #[{ accessFlags := 0, nameIndex := 9, descriptorIndex := 10, attributes := #[] }, { accessFlags := 8, nameIndex := 261, descriptorIndex := 262, attributes := #[] }, { accessFlags := 9, nameIndex := 117, descriptorIndex := 122, attributes := #[] }, { accessFlags := 9, nameIndex := 117, descriptorIndex := 118, attributes := #[] }] 48 6 #[] #[{ accessFlags := 26, nameIndex := 61, descriptorIndex := 62, attributes := #[] }, { accessFlags := 26, nameIndex := 65, descriptorIndex := 62, attributes := #[] }, { accessFlags := 24, nameIndex := 430, descriptorIndex := 62, attributes := #[] }, { accessFlags := 4120, nameIndex := 46, descriptorIndex := 47, attributes := #[] }])
  fields := #[{ name := "HI_BYTE_SHIFT", type := .int, accessFlags := 26, slot := 0, constantValue := 0 }, { name := "LO_BYTE_SHIFT", type := .int, accessFlags := 26, slot := 1, constantValue := 0 }, { name := "MAX_LENGTH", type := .int, accessFlags := 24, slot := 2, constantValue := 0 }, { name := "$assertionsDisabled", type := .boolean, accessFlags := 4120, slot := 3, constantValue := 0 }]
  methods := #[k10m0, k10m1, k10m2, k10m3]
  instanceTypes := #[]
  staticTypes := #[.int, .int, .int, .boolean]
  resolved := Array.replicate 635 none
  statics := none }

def pool11 : Array CpInfo := pool [(1, .class_ 2), (0, u "com/example/known_paths/knownpaths/ulid/Ulid"), (0, .methodref 4 5), (0, .class_ 6), (0, .nameAndType 7 8), (0, u "java/lang/Object"), (0, u "<init>"), (0, u "()V"), (0, .fieldref 1 10), (0, .nameAndType 11 12), (0, u "high"), (0, u "J"), (0, .fieldref 1 14), (0, .nameAndType 15 12), (0, u "low"), (16, u "()J"), (2, .methodref 1 36), (0, .nameAndType 7 37), (0, u "(JJ)V"), (0, .methodref 39 40), (0, .class_ 41), (0, .nameAndType 42 43), (0, u "java/lang/String"), (0, u "length"), (0, u "()I"), (11, .methodref 39 56), (0, .nameAndType 57 58), (0, u "charAt"), (0, u "(I)C"), (0, .fieldref 1 60), (0, .nameAndType 61 62), (0, u "DIGIT_VALUES"), (0, u "[I"), (10, .methodref 39 74), (0, .nameAndType 7 75), (0, u "([C)V"), (15, .string 92), (0, u "0123456789ABCDEFGHJKMNPQRSTVWXYZ"), (22, u "MAX_TIME"), (1, u "DIGITS"), (0, u "Ljava/lang/String;"), (0, u "LENGTH"), (0, u "I"), (1, u "DIGIT_BITS"), (1, u "DIGIT_MASK"), (1, u "RANDOM_BITS_OF_HIGH"), (6, u "parse"), (0, u "(Ljava/lang/String;)Lcom/example/known_paths/knownpaths/ulid/Ulid;"), (1, u "time"), (2, u "toString"), (0, u "()Ljava/lang/String;"), (2, u "equals"), (0, u "(Ljava/lang/Object;)Z")] 28

def k11c0 : Code := { maxStack := 3, maxLocals := 5, code := prog_16_method_1_code, exceptionTable := #[], attributes := #[] }
def k11m0 : Method := { name := "<init>", desc := "(JJ)V", sig := { parameters := [.long, .long], returnType := none }, accessFlags := 2, code := some k11c0 }
def k11c1 : Code := { maxStack := 6, maxLocals := 9, code := prog_16_method_3_code, exceptionTable := #[], attributes := #[] }
def k11m1 : Method := { name := "parse", desc := "(Ljava/lang/String;)Lcom/example/known_paths/knownpaths/ulid/Ulid;", sig := { parameters := [(.object "java/lang/String")], returnType := some (.object "com/example/known_paths/knownpaths/ulid/Ulid") }, accessFlags := 9, code := some k11c1 }
def k11c2 : Code := { maxStack := 3, maxLocals := 1, code := prog_16_method_6_code, exceptionTable := #[], attributes := #[] }
def k11m2 : Method := { name := "time", desc := "()J", sig := { parameters := [], returnType := some .long }, accessFlags := 1, code := some k11c2 }
def k11c3 : Code := { maxStack := 5, maxLocals := 7, code := prog_16_method_8_code, exceptionTable := #[], attributes := #[] }
def k11m3 : Method := { name := "toString", desc := "()Ljava/lang/String;", sig := { parameters := [], returnType := some (.object "java/lang/String") }, accessFlags := 1, code := some k11c3 }
def k11c4 : Code := { maxStack := 4, maxLocals := 3, code := prog_16_method_9_code, exceptionTable := #[], attributes := #[] }
def k11m4 : Method := { name := "equals", desc := "(Ljava/lang/Object;)Z", sig := { parameters := [(.object "java/lang/Object")], returnType := some .boolean }, accessFlags := 1, code := some k11c4 }
/-- com/example/known_paths/knownpaths/ulid/Ulid -/
def k11 : Class := { plain "com/example/known_paths/knownpaths/ulid/Ulid" (some 0) with
  accessFlags := 49
  interfaces := #[]
  cf := some (fileOf pool11 1 #[] #[{ accessFlags := 2, nameIndex := 7, descriptorIndex := 37, attributes := #[] }, { accessFlags := 9, nameIndex := 133, descriptorIndex := 134, attributes := #[] }, { accessFlags := 1, nameIndex := 136, descriptorIndex := 32, attributes := #[] }, { accessFlags := 1, nameIndex := 139, descriptorIndex := 140, attributes := #[] }, { accessFlags := 1, nameIndex := 143, descriptorIndex := 144, attributes := #[] }] 49 4 #[] #[{ accessFlags := 25, nameIndex := 115, descriptorIndex := 12, attributes := #[] }, { accessFlags := 26, nameIndex := 117, descriptorIndex := 118, attributes := #[] }, { accessFlags := 26, nameIndex := 119, descriptorIndex := 120, attributes := #[] }, { accessFlags := 26, nameIndex := 122, descriptorIndex := 120, attributes := #[] }, { accessFlags := 26, nameIndex := 124, descriptorIndex := 120, attributes := #[] }, { accessFlags := 26, nameIndex := 126, descriptorIndex := 120, attributes := #[] }, { accessFlags := 26, nameIndex := 61, descriptorIndex := 62, attributes := #[] }, { accessFlags := 18, nameIndex := 11, descriptorIndex := 12, attributes := #[] }, { accessFlags := 18, nameIndex := 15, descriptorIndex := 12, attributes := #[] }])
  fields := #[{ name := "MAX_TIME", type := .long, accessFlags := 25, slot := 0, constantValue := 0 }, { name := "DIGITS", type := (.object "java/lang/String"), accessFlags := 26, slot := 1, constantValue := 0 }, { name := "LENGTH", type := .int, accessFlags := 26, slot := 2, constantValue := 0 }, { name := "DIGIT_BITS", type := .int, accessFlags := 26, slot := 3, constantValue := 0 }, { name := "DIGIT_MASK", type := .int, accessFlags := 26, slot := 4, constantValue := 0 }, { name := "RANDOM_BITS_OF_HIGH", type := .int, accessFlags := 26, slot := 5, constantValue := 0 }, { name := "DIGIT_VALUES", type := (.array .int), accessFlags := 26, slot := 6, constantValue := 0 }, { name := "high", type := .long, accessFlags := 18, slot := 0, constantValue := 0 }, { name := "low", type := .long, accessFlags := 18, slot := 1, constantValue := 0 }]
  methods := #[k11m0, k11m1, k11m2, k11m3, k11m4]
  instanceTypes := #[.long, .long]
  staticTypes := #[.long, (.object "java/lang/String"), .int, .int, .int, .int, (.array .int)]
  resolved := Array.replicate 173 none
  statics := some 2 }

def pool12 : Array CpInfo := pool [(9, u "<init>"), (6, .class_ 18), (1, u "java/lang/Object"), (0, u "()V"), (1, .class_ 23), (1, u "jdk/internal/util/ArraysSupport"), (0, u "LOG2_ARRAY_LONG_INDEX_SCALE"), (0, u "I"), (2, u "U"), (0, u "Ljdk/internal/misc/Unsafe;"), (8, u "BIG_ENDIAN"), (0, u "Z"), (8, u "LOG2_BYTE_BIT_SIZE"), (4, u "LOG2_ARRAY_INT_INDEX_SCALE"), (54, u "JLA"), (0, u "Ljdk/internal/access/JavaLangAccess;"), (11, u "LOG2_ARRAY_BOOLEAN_INDEX_SCALE"), (9, u "LOG2_ARRAY_BYTE_INDEX_SCALE"), (5, u "LOG2_ARRAY_CHAR_INDEX_SCALE"), (5, u "LOG2_ARRAY_SHORT_INDEX_SCALE"), (18, u "LOG2_ARRAY_FLOAT_INDEX_SCALE"), (24, u "LOG2_ARRAY_DOUBLE_INDEX_SCALE"), (89, u "T_BOOLEAN"), (2, u "T_CHAR"), (1, u "T_FLOAT"), (1, u "T_DOUBLE"), (1, u "T_BYTE"), (1, u "T_SHORT"), (1, u "T_INT"), (1, u "T_LONG"), (1, u "SOFT_MAX_ARRAY_LENGTH")] 83

def k12m0 : Method := { name := "<init>", desc := "()V", sig := { parameters := [], returnType := none }, accessFlags := 2, code := none }
/-- jdk/internal/util/ArraysSupport -/
def k12 : Class := { plain "jdk/internal/util/ArraysSupport" (some 0) with
  accessFlags := 33
  interfaces := #[]
  cf := some (fileOf pool12 21 #[] #[{ accessFlags := 2, nameIndex := 9, descriptorIndex := 19, attributes := #[] }] 33 16 #[] #[{ accessFlags := 24, nameIndex := 28, descriptorIndex := 29, attributes := #[] }, { accessFlags := 26, nameIndex := 38, descriptorIndex := 39, attributes := #[] }, { accessFlags := 25, nameIndex := 121, descriptorIndex := 25, attributes := #[] }, { accessFlags := 25, nameIndex := 131, descriptorIndex := 25, attributes := #[] }, { accessFlags := 25, nameIndex := 137, descriptorIndex := 25, attributes := #[] }, { accessFlags := 25, nameIndex := 143, descriptorIndex := 25, attributes := #[] }, { accessFlags := 25, nameIndex := 53, descriptorIndex := 25, attributes := #[] }, { accessFlags := 25, nameIndex := 24, descriptorIndex := 25, attributes := #[] }, { accessFlags := 25, nameIndex := 162, descriptorIndex := 25, attributes := #[] }, { accessFlags := 25, nameIndex := 187, descriptorIndex := 25, attributes := #[] }, { accessFlags := 26, nameIndex := 48, descriptorIndex := 25, attributes := #[] }, { accessFlags := 25, nameIndex := 277, descriptorIndex := 25, attributes := #[] }, { accessFlags := 25, nameIndex := 280, descriptorIndex := 25, attributes := #[] }, { accessFlags := 25, nameIndex := 282, descriptorIndex := 25, attributes := #[] }, { accessFlags := 25, nameIndex := 284, descriptorIndex := 25, attributes := #[] }, { accessFlags := 25, nameIndex := 286, descriptorIndex := 25, attributes := #[] }, { accessFlags := 25, nameIndex := 288, descriptorIndex := 25, attributes := #[] }, { accessFlags := 25, nameIndex := 290, descriptorIndex := 25, attributes := #[] }, { accessFlags := 25, nameIndex := 292, descriptorIndex := 25, attributes := #[] }, { accessFlags := 26, nameIndex := 108, descriptorIndex := 109, attributes := #[] }, { accessFlags := 25, nameIndex := 294, descriptorIndex := 25, attributes := #[] }])
  fields := #[{ name := "U", type := (.object "jdk/internal/misc/Unsafe"), accessFlags := 24, slot := 0, constantValue := 0 }, { name := "BIG_ENDIAN", type := .boolean, accessFlags := 26, slot := 1, constantValue := 0 }, { name := "LOG2_ARRAY_BOOLEAN_INDEX_SCALE", type := .int, accessFlags := 25, slot := 2, constantValue := 0 }, { name := "LOG2_ARRAY_BYTE_INDEX_SCALE", type := .int, accessFlags := 25, slot := 3, constantValue := 0 }, { name := "LOG2_ARRAY_CHAR_INDEX_SCALE", type := .int, accessFlags := 25, slot := 4, constantValue := 0 }, { name := "LOG2_ARRAY_SHORT_INDEX_SCALE", type := .int, accessFlags := 25, slot := 5, constantValue := 0 }, { name := "LOG2_ARRAY_INT_INDEX_SCALE", type := .int, accessFlags := 25, slot := 6, constantValue := 0 }, { name := "LOG2_ARRAY_LONG_INDEX_SCALE", type := .int, accessFlags := 25, slot := 7, constantValue := 0 }, { name := "LOG2_ARRAY_FLOAT_INDEX_SCALE", type := .int, accessFlags := 25, slot := 8, constantValue := 0 }, { name := "LOG2_ARRAY_DOUBLE_INDEX_SCALE", type := .int, accessFlags := 25, slot := 9, constantValue := 0 }, { name := "LOG2_BYTE_BIT_SIZE", type := .int, accessFlags := 26, slot := 10, constantValue := 0 }, { name := "T_BOOLEAN", type := .int, accessFlags := 25, slot := 11, constantValue := 0 }, { name := "T_CHAR", type := .int, accessFlags := 25, slot := 12, constantValue := 0 }, { name := "T_FLOAT", type := .int, accessFlags := 25, slot := 13, constantValue := 0 }, { name := "T_DOUBLE", type := .int, accessFlags := 25, slot := 14, constantValue := 0 }, { name := "T_BYTE", type := .int, accessFlags := 25, slot := 15, constantValue := 0 }, { name := "T_SHORT", type := .int, accessFlags := 25, slot := 16, constantValue := 0 }, { name := "T_INT", type := .int, accessFlags := 25, slot := 17, constantValue := 0 }, { name := "T_LONG", type := .int, accessFlags := 25, slot := 18, constantValue := 0 }, { name := "JLA", type := (.object "jdk/internal/access/JavaLangAccess"), accessFlags := 26, slot := 19, constantValue := 0 }, { name := "SOFT_MAX_ARRAY_LENGTH", type := .int, accessFlags := 25, slot := 20, constantValue := 0 }]
  methods := #[k12m0]
  instanceTypes := #[]
  staticTypes := #[(.object "jdk/internal/misc/Unsafe"), .boolean, .int, .int, .int, .int, .int, .int, .int, .int, .int, .int, .int, .int, .int, .int, .int, .int, .int, (.object "jdk/internal/access/JavaLangAccess"), .int]
  resolved := Array.replicate 378 none
  statics := none }

def pool13 : Array CpInfo := pool [(1, u "java/lang/Cloneable"), (0, .class_ 1), (0, u "java/lang/Object"), (0, .class_ 3)] 3

/-- java/lang/Cloneable -/
def k13 : Class := { plain "java/lang/Cloneable" (some 0) with
  accessFlags := 1537
  interfaces := #[]
  cf := some (fileOf pool13 2 #[] #[] 1537 4 #[] #[])
  fields := #[]
  methods := #[]
  instanceTypes := #[]
  staticTypes := #[]
  resolved := Array.replicate 8 none
  statics := none }

/-- the primitive byte -/
def k14 : Class := { plain "byte" none with kind := .primitive 'B', accessFlags := 0x411 }
/-- [B -/
def k15 : Class := { plain "[B" (some 0) with kind := .array 14 .byte, interfaces := #[13, 2], accessFlags := 1041 }

/-- the primitive char -/
def k16 : Class := { plain "char" none with kind := .primitive 'C', accessFlags := 0x411 }
/-- [C -/
def k17 : Class := { plain "[C" (some 0) with kind := .array 16 .char, interfaces := #[13, 2], accessFlags := 1041 }

/-- the primitive int -/
def k18 : Class := { plain "int" none with kind := .primitive 'I', accessFlags := 0x411 }
/-- [I -/
def k19 : Class := { plain "[I" (some 0) with kind := .array 18 .int, interfaces := #[13, 2], accessFlags := 1041 }

def heap : Heap := #[{ cls := 7, slots := #[.long 0, .int 1, .null, .int 0, .null, .int 0, .int 0], vm := .statics 7 },
  { cls := 9, slots := #[.null, .null, .null], vm := .statics 9 },
  { cls := 11, slots := #[.long 0, .null, .int 0, .int 0, .int 0, .int 0, .ref 3], vm := .statics 11 },
  { cls := 19, slots := #[.int (-1), .int (-1), .int (-1), .int (-1), .int (-1), .int (-1), .int (-1), .int (-1), .int (-1), .int (-1), .int (-1), .int (-1), .int (-1), .int (-1), .int (-1), .int (-1), .int (-1), .int (-1), .int (-1), .int (-1), .int (-1), .int (-1), .int (-1), .int (-1), .int (-1), .int (-1), .int (-1), .int (-1), .int (-1), .int (-1), .int (-1), .int (-1), .int (-1), .int (-1), .int (-1), .int (-1), .int (-1), .int (-1), .int (-1), .int (-1), .int (-1), .int (-1), .int (-1), .int (-1), .int (-1), .int (-1), .int (-1), .int (-1), .int 0, .int 1, .int 2, .int 3, .int 4, .int 5, .int 6, .int 7, .int 8, .int 9, .int (-1), .int (-1), .int (-1), .int (-1), .int (-1), .int (-1), .int (-1), .int 10, .int 11, .int 12, .int 13, .int 14, .int 15, .int 16, .int 17, .int (-1), .int 18, .int 19, .int (-1), .int 20, .int 21, .int (-1), .int 22, .int 23, .int 24, .int 25, .int 26, .int (-1), .int 27, .int 28, .int 29, .int 30, .int 31, .int (-1), .int (-1), .int (-1), .int (-1), .int (-1), .int (-1), .int 10, .int 11, .int 12, .int 13, .int 14, .int 15, .int 16, .int 17, .int (-1), .int 18, .int 19, .int (-1), .int 20, .int 21, .int (-1), .int 22, .int 23, .int 24, .int 25, .int 26, .int (-1), .int 27, .int 28, .int 29, .int 30, .int 31, .int (-1), .int (-1), .int (-1), .int (-1), .int (-1)], vm := .none }]
def classes : Array Class := #[k0, k1, k2, k3, k4, k5, k6, k7, k8, k9, k10, k11, k12, k13, k14, k15, k16, k17, k18, k19]
def interned : List (Array UInt16 × Addr) := []
def slotsUsed : Nat := 145
def theMethod : MethodId := ⟨1, 3⟩
def args0 : Array Value := #[.long 5, .long 6, .int 7, .int 3]
def aboutOver (below : List Frame) : State where
  vm := { classes := classes, interned := interned.toArray }
  heap := heap
  slotsUsed := slotsUsed
  threads := #[{ frames := .invoking theMethod args0 :: below }]
def below0 : List Frame := [.native { method := ⟨0, 0⟩, args := #[] }]
def about1 : State := aboutOver below0
def p0 : Program := .bare "" "" ""
def e0 : Env := launch0.env 0 0 0
theorem w_frames : about1.frames = Frame.invoking theMethod args0 :: below0 := rfl
set_option maxRecDepth 65536 in
theorem w_args : argsFit about1.vm theMethod args0 = true := by decide +kernel
set_option maxRecDepth 65536 in
theorem w_heap : heapFits about1 = true := by decide +kernel
set_option maxRecDepth 65536 in
theorem w_runnable : about1.curStatus? = some .runnable := by decide +kernel
set_option maxRecDepth 65536 in
theorem w_alone : about1.alone = true := by decide +kernel
set_option maxRecDepth 65536 in
theorem w_named : about1.methodNamed? x = some theMethod := by decide +kernel
set_option maxRecDepth 65536 in
theorem w_hears : about1.hears theMethod below0 = true := by decide +kernel
set_option maxRecDepth 65536 in
theorem w_ripe : about1.ripe theMethod args0 below0 = true := by decide +kernel
theorem w_running : about1.status = .running := rfl
set_option maxRecDepth 65536 in
theorem w_room : about1.hasRoom e0.platform room_1 = true :=
  launch0.hasRoom_least _ room_1 (by decide +kernel) (by decide +kernel) (by decide +kernel) (by decide +kernel) (by decide +kernel) (by decide +kernel)
theorem allAtoms_all (ts : List Jvm.Cond) (a : Array Jvm.Value) (st : Jvm.State) : (allAtoms ts).before a st = ts.all (fun c => c.before a st) := by
  induction ts with
  | nil => rfl
  | cons c t ih =>
    show (Jvm.Cond.and c (allAtoms t)).before a st = _
    rw [Jvm.Cond.before_and, ih, List.all_cons]
def words1 : List Jvm.Cond := Jvm.Cond.code x code maxLocals ret :: tables_1
/-- a 'code' word, met by the world's own term for the bytes: nothing is compared byte by byte -/
theorem code_word {y : MethodName} {bytes : ByteArray} {mx : Nat} {rt : Option FieldType} {a : Array Value} {s : State} {m : MethodId} {meth : Method} {c : Code} (h1 : s.methodNamed? y = some m) (h2 : s.vm.method? m = some meth) (h3 : meth.code = some c) (h4 : c.code = bytes)
    (h5 : (c.maxLocals == mx && c.exceptionTable.isEmpty && decide (c.maxStack ≤ mostOperands) && decide (meth.sig.returnType = rt) && !meth.locks && decide (parseMethodDescriptor y.desc = some meth.sig)) = true) : (Jvm.Cond.code y bytes mx rt).before a s = true := by
  simp only [Bool.and_eq_true, beq_iff_eq, Bool.not_eq_true', decide_eq_true_eq] at h5
  obtain ⟨⟨⟨⟨⟨g1, g2⟩, g3⟩, g4⟩, g5⟩, g6⟩ := h5
  simp [Cond.before, Cond.holds, Cond.value, h1, h2, h3, h4, g1, g2, g3, g4, g5, g6]
def isCode : Jvm.Cond → Bool
  | .code _ _ _ _ => true
  | _ => false
theorem all_split {L : List Jvm.Cond} {P : Jvm.Cond → Bool} (h1 : L.all (fun c => isCode c || P c) = true) (h2 : ∀ c ∈ L.filter isCode, P c = true) : L.all P = true := by
  refine List.all_eq_true.mpr fun c hc => ?_
  have h := List.all_eq_true.mp h1 c hc
  rcases Bool.eq_false_or_eq_true (isCode c) with hi | hi
  · exact h2 c (List.mem_filter.mpr ⟨hc, hi⟩)
  · simpa [hi] using h
set_option maxRecDepth 65536 in
theorem w_c0 : (Jvm.Cond.code x code maxLocals ret).before args0 about1 = true := code_word (m := ⟨1, 3⟩) (meth := k1m3) (c := k1c3) (by decide +kernel) rfl rfl rfl (by decide +kernel)
set_option maxRecDepth 65536 in
theorem w_c1 : (Jvm.Cond.code ({ cls := "com/example/known_paths/knownpaths/ulid/UlidParsePinLaw", name := "put", desc := "([C[CIII)V" } : Jvm.MethodName) method_3_code (6 : Nat) (Option.none : Option Jvm.ClassFile.FieldType)).before args0 about1 = true := code_word (m := ⟨1, 2⟩) (meth := k1m2) (c := k1c2) (by decide +kernel) rfl rfl rfl (by decide +kernel)
set_option maxRecDepth 65536 in
theorem w_c2 : (Jvm.Cond.code ({ cls := "java/lang/String", name := "charAt", desc := "(I)C" } : Jvm.MethodName) jdk_42_method_56_code (2 : Nat) (Option.some Jvm.ClassFile.FieldType.char)).before args0 about1 = true := code_word (m := ⟨7, 3⟩) (meth := k7m3) (c := k7c3) (by decide +kernel) rfl rfl rfl (by decide +kernel)
set_option maxRecDepth 65536 in
theorem w_c3 : (Jvm.Cond.code ({ cls := "java/lang/String", name := "isLatin1", desc := "()Z" } : Jvm.MethodName) jdk_42_method_154_code (1 : Nat) (Option.some Jvm.ClassFile.FieldType.boolean)).before args0 about1 = true := code_word (m := ⟨7, 7⟩) (meth := k7m7) (c := k7c7) (by decide +kernel) rfl rfl rfl (by decide +kernel)
set_option maxRecDepth 65536 in
theorem w_c4 : (Jvm.Cond.code ({ cls := "java/lang/StringLatin1", name := "charAt", desc := "([BI)C" } : Jvm.MethodName) jdk_43_method_2_code (2 : Nat) (Option.some Jvm.ClassFile.FieldType.char)).before args0 about1 = true := code_word (m := ⟨8, 1⟩) (meth := k8m1) (c := k8c1) (by decide +kernel) rfl rfl rfl (by decide +kernel)
set_option maxRecDepth 65536 in
theorem w_c5 : (Jvm.Cond.code ({ cls := "java/lang/String", name := "checkIndex", desc := "(II)V" } : Jvm.MethodName) jdk_42_method_155_code (2 : Nat) (Option.none : Option Jvm.ClassFile.FieldType)).before args0 about1 = true := code_word (m := ⟨7, 8⟩) (meth := k7m8) (c := k7c8) (by decide +kernel) rfl rfl rfl (by decide +kernel)
set_option maxRecDepth 65536 in
theorem w_c6 : (Jvm.Cond.code ({ cls := "jdk/internal/util/Preconditions", name := "checkIndex", desc := "(IILjava/util/function/BiFunction;)I" } : Jvm.MethodName) jdk_41_method_11_code (3 : Nat) (Option.some Jvm.ClassFile.FieldType.int)).before args0 about1 = true := code_word (m := ⟨9, 1⟩) (meth := k9m1) (c := k9c1) (by decide +kernel) rfl rfl rfl (by decide +kernel)
set_option maxRecDepth 65536 in
theorem w_c7 : (Jvm.Cond.code ({ cls := "com/example/known_paths/knownpaths/ulid/UlidParsePinLaw", name := "dig", desc := "(JI)I" } : Jvm.MethodName) method_2_code (3 : Nat) (Option.some Jvm.ClassFile.FieldType.int)).before args0 about1 = true := code_word (m := ⟨1, 1⟩) (meth := k1m1) (c := k1c1) (by decide +kernel) rfl rfl rfl (by decide +kernel)
set_option maxRecDepth 65536 in
theorem w_c8 : (Jvm.Cond.code ({ cls := "java/lang/String", name := "<init>", desc := "([C)V" } : Jvm.MethodName) jdk_42_method_3_code (2 : Nat) (Option.none : Option Jvm.ClassFile.FieldType)).before args0 about1 = true := code_word (m := ⟨7, 1⟩) (meth := k7m1) (c := k7c1) (by decide +kernel) rfl rfl rfl (by decide +kernel)
set_option maxRecDepth 65536 in
theorem w_c9 : (Jvm.Cond.code ({ cls := "java/lang/String", name := "<init>", desc := "([CIILjava/lang/Void;)V" } : Jvm.MethodName) jdk_42_method_149_code (6 : Nat) (Option.none : Option Jvm.ClassFile.FieldType)).before args0 about1 = true := code_word (m := ⟨7, 5⟩) (meth := k7m5) (c := k7c5) (by decide +kernel) rfl rfl rfl (by decide +kernel)
set_option maxRecDepth 65536 in
theorem w_c10 : (Jvm.Cond.code ({ cls := "java/lang/Object", name := "<init>", desc := "()V" } : Jvm.MethodName) object_method_1_code (1 : Nat) (Option.none : Option Jvm.ClassFile.FieldType)).before args0 about1 = true := code_word (m := ⟨0, 0⟩) (meth := k0m0) (c := k0c0) (by decide +kernel) rfl rfl rfl (by decide +kernel)
set_option maxRecDepth 65536 in
theorem w_c11 : (Jvm.Cond.code ({ cls := "java/lang/StringUTF16", name := "compress", desc := "([CII)[B" } : Jvm.MethodName) jdk_52_method_16_code (6 : Nat) (Option.some (Jvm.ClassFile.FieldType.array Jvm.ClassFile.FieldType.byte))).before args0 about1 = true := code_word (m := ⟨10, 2⟩) (meth := k10m2) (c := k10c2) (by decide +kernel) rfl rfl rfl (by decide +kernel)
set_option maxRecDepth 65536 in
theorem w_c12 : (Jvm.Cond.code ({ cls := "java/lang/StringUTF16", name := "compress", desc := "([CI[BII)I" } : Jvm.MethodName) jdk_52_method_21_code (7 : Nat) (Option.some Jvm.ClassFile.FieldType.int)).before args0 about1 = true := code_word (m := ⟨10, 3⟩) (meth := k10m3) (c := k10c3) (by decide +kernel) rfl rfl rfl (by decide +kernel)
set_option maxRecDepth 65536 in
theorem w_c13 : (Jvm.Cond.code ({ cls := "java/lang/StringUTF16", name := "coderFromArrayLen", desc := "([BI)B" } : Jvm.MethodName) jdk_52_method_15_code (2 : Nat) (Option.some Jvm.ClassFile.FieldType.byte)).before args0 about1 = true := code_word (m := ⟨10, 1⟩) (meth := k10m1) (c := k10c1) (by decide +kernel) rfl rfl rfl (by decide +kernel)
set_option maxRecDepth 65536 in
theorem w_c14 : (Jvm.Cond.code ({ cls := "com/example/known_paths/knownpaths/ulid/Ulid", name := "parse", desc := "(Ljava/lang/String;)Lcom/example/known_paths/knownpaths/ulid/Ulid;" } : Jvm.MethodName) prog_16_method_3_code (9 : Nat) (Option.some (Jvm.ClassFile.FieldType.object "com/example/known_paths/knownpaths/ulid/Ulid"))).before args0 about1 = true := code_word (m := ⟨11, 1⟩) (meth := k11m1) (c := k11c1) (by decide +kernel) rfl rfl rfl (by decide +kernel)
set_option maxRecDepth 65536 in
theorem w_c15 : (Jvm.Cond.code ({ cls := "java/lang/String", name := "length", desc := "()I" } : Jvm.MethodName) jdk_42_method_54_code (1 : Nat) (Option.some Jvm.ClassFile.FieldType.int)).before args0 about1 = true := code_word (m := ⟨7, 2⟩) (meth := k7m2) (c := k7c2) (by decide +kernel) rfl rfl rfl (by decide +kernel)
set_option maxRecDepth 65536 in
theorem w_c16 : (Jvm.Cond.code ({ cls := "java/lang/String", name := "coder", desc := "()B" } : Jvm.MethodName) jdk_42_method_152_code (1 : Nat) (Option.some Jvm.ClassFile.FieldType.byte)).before args0 about1 = true := code_word (m := ⟨7, 6⟩) (meth := k7m6) (c := k7c6) (by decide +kernel) rfl rfl rfl (by decide +kernel)
set_option maxRecDepth 65536 in
theorem w_c17 : (Jvm.Cond.code ({ cls := "com/example/known_paths/knownpaths/ulid/Ulid", name := "<init>", desc := "(JJ)V" } : Jvm.MethodName) prog_16_method_1_code (5 : Nat) (Option.none : Option Jvm.ClassFile.FieldType)).before args0 about1 = true := code_word (m := ⟨11, 0⟩) (meth := k11m0) (c := k11c0) (by decide +kernel) rfl rfl rfl (by decide +kernel)
set_option maxRecDepth 65536 in
theorem w_c18 : (Jvm.Cond.code ({ cls := "com/example/known_paths/knownpaths/ulid/Ulid", name := "equals", desc := "(Ljava/lang/Object;)Z" } : Jvm.MethodName) prog_16_method_9_code (3 : Nat) (Option.some Jvm.ClassFile.FieldType.boolean)).before args0 about1 = true := code_word (m := ⟨11, 4⟩) (meth := k11m4) (c := k11c4) (by decide +kernel) rfl rfl rfl (by decide +kernel)
set_option maxRecDepth 65536 in
theorem w_c19 : (Jvm.Cond.code ({ cls := "com/example/known_paths/knownpaths/ulid/Ulid", name := "toString", desc := "()Ljava/lang/String;" } : Jvm.MethodName) prog_16_method_8_code (7 : Nat) (Option.some (Jvm.ClassFile.FieldType.object "java/lang/String"))).before args0 about1 = true := code_word (m := ⟨11, 3⟩) (meth := k11m3) (c := k11c3) (by decide +kernel) rfl rfl rfl (by decide +kernel)
set_option maxRecDepth 65536 in
theorem w_c20 : (Jvm.Cond.code ({ cls := "java/lang/String", name := "equals", desc := "(Ljava/lang/Object;)Z" } : Jvm.MethodName) jdk_42_method_66_code (3 : Nat) (Option.some Jvm.ClassFile.FieldType.boolean)).before args0 about1 = true := code_word (m := ⟨7, 4⟩) (meth := k7m4) (c := k7c4) (by decide +kernel) rfl rfl rfl (by decide +kernel)
set_option maxRecDepth 65536 in
theorem w_c21 : (Jvm.Cond.code ({ cls := "java/lang/StringLatin1", name := "equals", desc := "([B[B)Z" } : Jvm.MethodName) jdk_43_method_13_code (3 : Nat) (Option.some Jvm.ClassFile.FieldType.boolean)).before args0 about1 = true := code_word (m := ⟨8, 2⟩) (meth := k8m2) (c := k8c2) (by decide +kernel) rfl rfl rfl (by decide +kernel)
set_option maxRecDepth 65536 in
theorem w_c22 : (Jvm.Cond.code ({ cls := "com/example/known_paths/knownpaths/ulid/Ulid", name := "time", desc := "()J" } : Jvm.MethodName) prog_16_method_6_code (1 : Nat) (Option.some Jvm.ClassFile.FieldType.long)).before args0 about1 = true := code_word (m := ⟨11, 2⟩) (meth := k11m2) (c := k11c2) (by decide +kernel) rfl rfl rfl (by decide +kernel)
def codes1 : List Jvm.Cond := [Jvm.Cond.code x code maxLocals ret, Jvm.Cond.code ({ cls := "com/example/known_paths/knownpaths/ulid/UlidParsePinLaw", name := "put", desc := "([C[CIII)V" } : Jvm.MethodName) method_3_code (6 : Nat) (Option.none : Option Jvm.ClassFile.FieldType), Jvm.Cond.code ({ cls := "java/lang/String", name := "charAt", desc := "(I)C" } : Jvm.MethodName) jdk_42_method_56_code (2 : Nat) (Option.some Jvm.ClassFile.FieldType.char), Jvm.Cond.code ({ cls := "java/lang/String", name := "isLatin1", desc := "()Z" } : Jvm.MethodName) jdk_42_method_154_code (1 : Nat) (Option.some Jvm.ClassFile.FieldType.boolean), Jvm.Cond.code ({ cls := "java/lang/StringLatin1", name := "charAt", desc := "([BI)C" } : Jvm.MethodName) jdk_43_method_2_code (2 : Nat) (Option.some Jvm.ClassFile.FieldType.char), Jvm.Cond.code ({ cls := "java/lang/String", name := "checkIndex", desc := "(II)V" } : Jvm.MethodName) jdk_42_method_155_code (2 : Nat) (Option.none : Option Jvm.ClassFile.FieldType), Jvm.Cond.code ({ cls := "jdk/internal/util/Preconditions", name := "checkIndex", desc := "(IILjava/util/function/BiFunction;)I" } : Jvm.MethodName) jdk_41_method_11_code (3 : Nat) (Option.some Jvm.ClassFile.FieldType.int), Jvm.Cond.code ({ cls := "com/example/known_paths/knownpaths/ulid/UlidParsePinLaw", name := "dig", desc := "(JI)I" } : Jvm.MethodName) method_2_code (3 : Nat) (Option.some Jvm.ClassFile.FieldType.int), Jvm.Cond.code ({ cls := "java/lang/String", name := "<init>", desc := "([C)V" } : Jvm.MethodName) jdk_42_method_3_code (2 : Nat) (Option.none : Option Jvm.ClassFile.FieldType), Jvm.Cond.code ({ cls := "java/lang/String", name := "<init>", desc := "([CIILjava/lang/Void;)V" } : Jvm.MethodName) jdk_42_method_149_code (6 : Nat) (Option.none : Option Jvm.ClassFile.FieldType), Jvm.Cond.code ({ cls := "java/lang/Object", name := "<init>", desc := "()V" } : Jvm.MethodName) object_method_1_code (1 : Nat) (Option.none : Option Jvm.ClassFile.FieldType), Jvm.Cond.code ({ cls := "java/lang/StringUTF16", name := "compress", desc := "([CII)[B" } : Jvm.MethodName) jdk_52_method_16_code (6 : Nat) (Option.some (Jvm.ClassFile.FieldType.array Jvm.ClassFile.FieldType.byte)), Jvm.Cond.code ({ cls := "java/lang/StringUTF16", name := "compress", desc := "([CI[BII)I" } : Jvm.MethodName) jdk_52_method_21_code (7 : Nat) (Option.some Jvm.ClassFile.FieldType.int), Jvm.Cond.code ({ cls := "java/lang/StringUTF16", name := "coderFromArrayLen", desc := "([BI)B" } : Jvm.MethodName) jdk_52_method_15_code (2 : Nat) (Option.some Jvm.ClassFile.FieldType.byte), Jvm.Cond.code ({ cls := "com/example/known_paths/knownpaths/ulid/Ulid", name := "parse", desc := "(Ljava/lang/String;)Lcom/example/known_paths/knownpaths/ulid/Ulid;" } : Jvm.MethodName) prog_16_method_3_code (9 : Nat) (Option.some (Jvm.ClassFile.FieldType.object "com/example/known_paths/knownpaths/ulid/Ulid")), Jvm.Cond.code ({ cls := "java/lang/String", name := "length", desc := "()I" } : Jvm.MethodName) jdk_42_method_54_code (1 : Nat) (Option.some Jvm.ClassFile.FieldType.int), Jvm.Cond.code ({ cls := "java/lang/String", name := "coder", desc := "()B" } : Jvm.MethodName) jdk_42_method_152_code (1 : Nat) (Option.some Jvm.ClassFile.FieldType.byte), Jvm.Cond.code ({ cls := "com/example/known_paths/knownpaths/ulid/Ulid", name := "<init>", desc := "(JJ)V" } : Jvm.MethodName) prog_16_method_1_code (5 : Nat) (Option.none : Option Jvm.ClassFile.FieldType), Jvm.Cond.code ({ cls := "com/example/known_paths/knownpaths/ulid/Ulid", name := "equals", desc := "(Ljava/lang/Object;)Z" } : Jvm.MethodName) prog_16_method_9_code (3 : Nat) (Option.some Jvm.ClassFile.FieldType.boolean), Jvm.Cond.code ({ cls := "com/example/known_paths/knownpaths/ulid/Ulid", name := "toString", desc := "()Ljava/lang/String;" } : Jvm.MethodName) prog_16_method_8_code (7 : Nat) (Option.some (Jvm.ClassFile.FieldType.object "java/lang/String")), Jvm.Cond.code ({ cls := "java/lang/String", name := "equals", desc := "(Ljava/lang/Object;)Z" } : Jvm.MethodName) jdk_42_method_66_code (3 : Nat) (Option.some Jvm.ClassFile.FieldType.boolean), Jvm.Cond.code ({ cls := "java/lang/StringLatin1", name := "equals", desc := "([B[B)Z" } : Jvm.MethodName) jdk_43_method_13_code (3 : Nat) (Option.some Jvm.ClassFile.FieldType.boolean), Jvm.Cond.code ({ cls := "com/example/known_paths/knownpaths/ulid/Ulid", name := "time", desc := "()J" } : Jvm.MethodName) prog_16_method_6_code (1 : Nat) (Option.some Jvm.ClassFile.FieldType.long)]
set_option maxRecDepth 65536 in
theorem codes_eq : words1.filter isCode = codes1 := rfl
theorem w_codes : ∀ c ∈ words1.filter isCode, c.before args0 about1 = true := by
  rw [codes_eq]
  intro c hc
  simp only [codes1, List.mem_cons, List.not_mem_nil, or_false] at hc
  rcases hc with rfl | rfl | rfl | rfl | rfl | rfl | rfl | rfl | rfl | rfl | rfl | rfl | rfl | rfl | rfl | rfl | rfl | rfl | rfl | rfl | rfl | rfl | rfl
  · exact w_c0
  · exact w_c1
  · exact w_c2
  · exact w_c3
  · exact w_c4
  · exact w_c5
  · exact w_c6
  · exact w_c7
  · exact w_c8
  · exact w_c9
  · exact w_c10
  · exact w_c11
  · exact w_c12
  · exact w_c13
  · exact w_c14
  · exact w_c15
  · exact w_c16
  · exact w_c17
  · exact w_c18
  · exact w_c19
  · exact w_c20
  · exact w_c21
  · exact w_c22
set_option maxRecDepth 65536 in
theorem w_t1 : (words1.take 24).all (fun c => isCode c || c.before args0 about1) = true := by decide +kernel
set_option maxRecDepth 65536 in
theorem w_t2 : ((words1.drop 24).take 24).all (fun c => isCode c || c.before args0 about1) = true := by decide +kernel
set_option maxRecDepth 65536 in
theorem w_t3 : (((words1.drop 24).drop 24).take 24).all (fun c => isCode c || c.before args0 about1) = true := by decide +kernel
set_option maxRecDepth 65536 in
theorem w_t4 : ((((words1.drop 24).drop 24).drop 24).take 24).all (fun c => isCode c || c.before args0 about1) = true := by decide +kernel
set_option maxRecDepth 65536 in
theorem w_t5 : (((((words1.drop 24).drop 24).drop 24).drop 24).take 24).all (fun c => isCode c || c.before args0 about1) = true := by decide +kernel
set_option maxRecDepth 65536 in
theorem w_t6 : (((((words1.drop 24).drop 24).drop 24).drop 24).drop 24).all (fun c => isCode c || c.before args0 about1) = true := by decide +kernel
theorem w_tables : (allAtoms (Jvm.Cond.code x code maxLocals ret :: tables_1)).before args0 about1 = true := by
  rw [allAtoms_all]
  show words1.all (fun c => c.before args0 about1) = true
  refine all_split ?_ w_codes
  rw [← List.take_append_drop 24 words1, List.all_append, w_t1, ← List.take_append_drop 24 (words1.drop 24), List.all_append, w_t2, ← List.take_append_drop 24 ((words1.drop 24).drop 24), List.all_append, w_t3, ← List.take_append_drop 24 (((words1.drop 24).drop 24).drop 24), List.all_append, w_t4, ← List.take_append_drop 24 ((((words1.drop 24).drop 24).drop 24).drop 24), List.all_append, w_t5, w_t6]
  rfl
set_option maxRecDepth 65536 in
theorem w_rest : rest_1_c.before args0 about1 = true := by decide +kernel
set_option maxRecDepth 65536 in
theorem w_case : (Jvm.Cond.and given_1 narrow_1).before args0 about1 = true := by decide +kernel
set_option maxRecDepth 65536 in
theorem w_consts : constsHeld consts_1 about1 := Jvm.Lit.constsHeldB_iff.mp (by decide +kernel)
theorem w_applies : (headSpec (Jvm.Cond.code x code maxLocals ret :: tables_1) room_1).applies x e0.platform about1 = true :=
  (Spec.applies_iff w_frames).mpr ⟨w_running, w_runnable, w_alone, w_named, w_hears, w_ripe, w_room, w_tables⟩
theorem atStart : AtStart classFile x code maxLocals ret World_1 tables_1 room_1 Calls_1 rest_1 Pre_1 launch0 p0 e0 about1 theMethod args0 below0 :=
  ⟨lists_1, trivial, launch0.admits_env _ _ _, launch0.least_env, fairChoices_fair.cas, fairChoices_fair.clock, w_frames, w_args, w_heap, w_applies, ⟨w_consts, trivial⟩, w_rest, w_case⟩
end start1
theorem witness_1 : WitnessClaimed_1 := ⟨start1.p0, start1.e0, start1.about1, start1.theMethod, start1.args0, start1.below0, start1.atStart⟩
end Jvm.Pilot.@@N@@
