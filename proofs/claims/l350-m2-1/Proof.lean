import JvmDerived
import JvmDerived.Pilot.@@N@@Statement
import JvmDerived.Pilot.@@N@@Code
set_option linter.unusedVariables false
set_option linter.unusedSimpArgs false
namespace Jvm.RoadKit
open Sem ClassFile Op Lib Jvm.Stand Jvm.Free Jvm.LawKit
section New
variable {p : Program} {l : Launch} {e : Env} {R : Room} {s : State} {m : MethodId} {args : Array Value} {below : List Frame} {meth : Method} {c : Code} {T : State} {locs : List Loc} {cells slots : Nat}
theorem retI (X : Stand p l e R s m args below meth c T locs cells slots) (hx : p.tables.exec = Jvm.exec) {pc : Nat} {Ls : Array Slot} {z : Int32} {rest : List Value} (hret : meth.sig.returnType = some .int) (hd : decode c.code pc = .ok (.ireturn, 1)) {fs : List Frame}
    (hl : ∀ (f : JFrame) (acts : List Action), f.method = m → f.locked = none → f.entered = [] → (doReturn e (T.setTop f) acts (some (.int z))).1 = T.setFrames fs) : Steps p.tables e below (T.setTop (mkF m pc Ls (.int z :: rest))) (T.setFrames fs) := by
  have hm' : T.vm.method? m = some meth := X.method'
  have hn : narrow .int (.int z) = .int z := rfl
  show Steps p.tables e below (T.setTop { method := m, pc := pc, locals := Ls, stack := _ :: rest, locked := none }) _
  jvm_step X.here [X.here.top, hx, hd, hm', hret, hn]
  first | (intro acts; rw [hl _ acts rfl rfl rfl]) | rw [hl _ _ rfl rfl rfl]
  exact Steps.refl _
end New
end Jvm.RoadKit
namespace Jvm.Pilot.@@N@@
open Jvm Jvm.ClassFile Sem Op Lib Jvm.Free Jvm.Stand Jvm.LawKit Jvm.RoadKit Bundle Jvm.Pilot.@@N@@.Jvm.D
theorem wq {a0 : Array Value} {Z : State} (hw : ∀ d ∈ tables_1, d.before a0 Z = true) (i : Nat) {d : Jvm.Cond} (h : tables_1[i]? = some d) : d.before a0 Z = true := hw d (List.mem_of_getElem? h)
/-- from U the run comes back to its caller; what it returns, the heap and the places written meet Q -/
def Goes (p : Program) (e : Env) (below : List Frame) (s : State) (Q : Option Value → Heap → List Loc → Prop) (C S : Nat) (U : State) : Prop :=
  ∃ s₂ o, Steps p.tables e below U s₂ ∧ s₂.status = .running ∧ Ended s₂ below o ∧ ∃ v L, o = .returned v ∧ Q v s₂.heap L ∧ FrameEnd s o s₂ L C S
section Own
variable {p : Program} {l : Launch} {e : Env} {R : Room} {s : State} {m : MethodId} {args : Array Value} {below : List Frame} {meth : Method} {c : Code} {T : State} {locs : List Loc} {cells slots : Nat} {Q : Option Value → Heap → List Loc → Prop} {C S : Nat} {U U' : State}
theorem Goes.pre (f : ∀ t, Steps p.tables e below U' t → Steps p.tables e below U t) (g : Goes p e below s Q C S U') : Goes p e below s Q C S U := by
  obtain ⟨s₂, o, h1, r⟩ := g
  exact ⟨s₂, o, f _ h1, r⟩
theorem Goes.enter {g g' : JFrame} (q : g = g') (h : Goes p e below s Q C S (U.setTop g')) : Goes p e below s Q C S (U.setTop g) := q ▸ h
theorem Goes.ret (X : Stand p l e R s m args below meth c T locs cells slots) {v : Option Value} (hv : meth.sig.returnType = none → v = none) (hlocks : meth.locks = false) (hc : cells ≤ C) (hs : slots ≤ S) {h : Heap} (eT : T.heap = h)
    (step : ∀ fs, (∀ (f : JFrame) (acts : List Action), f.method = m → f.locked = none → f.entered = [] → (doReturn e (T.setTop f) acts v).1 = T.setFrames fs) → Steps p.tables e below U (T.setFrames fs)) (q : Q v h locs) : Goes p e below s Q C S U := by
  obtain ⟨fs, hr, hrun, hended, hW, hsame⟩ := X.leave hv hlocks
  refine ⟨_, _, step fs hr, hrun, hended, _, _, rfl, ?_, ⟨_, rfl⟩, hW, hsame.mono hc hs⟩
  show Q v T.heap locs
  rw [eT]
  exact q
end Own
abbrev Rm (f c s l : Nat) : Room := { frames := f, cells := c, slots := s, locals := l }
/-- the contract of a body: called with these values at the heap h0, it comes back and Q holds of what it leaves -/
abbrev Met (l : Launch) (Z : State) (y : MethodName) (bytes : ByteArray) (maxL : Nat) (ret : Option FieldType) (ws : List Jvm.Cond) (rm : Room) (as' : Array Value) (h0 : Heap) (Q : Option Value → Heap → List Loc → Prop) : Prop :=
  MetFree l y (head1 (Jvm.Cond.code y bytes maxL ret :: ws) rm) (fun argv U => argv = as' ∧ Z.Warmed39 U.vm ∧ U.heap = h0) (fun _ _ _ _ _ => True) (fun _ U o U' => ∃ v L, o = .returned v ∧ Q v U'.heap L ∧ FrameEnd U o U' L rm.cells rm.slots)
theorem met_of {l : Launch} {Z : State} {y : MethodName} {bytes : ByteArray} {maxL : Nat} {ret : Option FieldType} {ws : List Jvm.Cond} {rm : Room} {as' : Array Value} {h0 : Heap} {Q : Option Value → Heap → List Loc → Prop} {L0 : Array Slot} {own : String}
    (hp : plainFor y = true) (ho : y.cls = own) (ef : ∀ m, entryFrame m as' maxL = mkF m 0 L0 [])
    (body : ∀ (p : Program) (e : Env) (s : State) (m : MethodId) (below : List Frame) (meth : Method) (c : Code) (s₁ : State), p.tables.exec = Jvm.exec → c.code = bytes → c.maxLocals = maxL → s.vm.findClass own = some m.cls → meth.name = y.name → Z.Warmed39 s.vm → Stand p l e rm s m as' below meth c s₁ [] 0 0 → s₁.heap = h0 → meth.sig.returnType = ret → meth.locks = false → Goes p e below s Q rm.cells rm.slots (s₁.setTop (mkF m 0 L0 []))) :
    Met l Z y bytes maxL ret ws rm as' h0 Q := by
  refine MetFree.of_bodySF hp hisR ?_
  intro p e s m args below meth c s₁ Bd hml0 hP hK
  obtain ⟨rfl, hZ, hh⟩ := hP
  refine Goes.enter (ef m) (body p e s m below meth c s₁ Bd.exec Bd.bytes hml0 (ho ▸ findClass_of_methodNamed Bd.named) (name_of_methodNamed Bd.named Bd.method).1 hZ (Stand.of_body Bd) (by rw [← hh, Bd.state]; rfl) Bd.returns Bd.notSynchronized)
theorem own_lsw {tb : Tables} [Ours tb] {e : Env} {below : List Frame} {T target : State} {m : MethodId} {c : Code} {g : JFrame} (h : At T m c below) (hx : tb.exec = Jvm.exec) (hg : g.method = m) {dflt : Int} {prs : Array (Int × Int)} {len : Nat} {o : Int} {pc0 pc' : Nat} (hpc : g.pc = pc0) (hd : decode c.code g.pc = .ok (.lookupswitch dflt prs, len)) {i : Int32} {rest : List Value} (hs : g.stack = .int i :: rest)
    (hso : ∀ (a b a_1 b_1 : Int), ((a, b), a_1, b_1) ∈ prs.toList.zip prs.toList.tail → a < a_1) (hoff : lookupswitch.offset prs.toList dflt i.toInt = o) (ho : 0 ≤ (pc0 : Int) + o) (hp : ((pc0 : Int) + o).toNat = pc')
    (hr : Steps tb e below (T.setTop { g with pc := pc', stack := rest }) target) : Steps tb e below (T.setTop g) target := by
  subst hg hpc hp
  jvm_step h [h.top, hx, hd, hs, lookupswitch.wp_chain, hoff, ho]
  exact ⟨hso, hr⟩
/-- as Goes, for a walk that may load String constants cold: the end is the wide one, and the constants' book goes on -/
def GoesW (p : Program) (e : Env) (below : List Frame) (s Z : State) (EL : List (String × Nat)) (Q : Option Value → Heap → List Loc → Prop) (C S : Nat) (U : State) : Prop :=
  ∃ s₂ o, Steps p.tables e below U s₂ ∧ s₂.status = .running ∧ Ended s₂ below o ∧ ∃ v L, o = .returned v ∧ Q v s₂.heap L ∧ CHr Z EL s.vm s.heap s₂.vm s₂.heap ∧ ReturnedEndW s o s₂ L C S
section OwnW
variable {p : Program} {l : Launch} {e : Env} {R : Room} {s Z : State} {m : MethodId} {args a0 : Array Value} {below : List Frame} {meth : Method} {c : Code} {T : State} {locs : List Loc} {cells slots : Nat} {Q : Option Value → Heap → List Loc → Prop} {C S : Nat} {U U' : State} {EL : List (String × Nat)} {vm0 : Vm} {h : Heap}
theorem GoesW.pre (f : ∀ t, Steps p.tables e below U' t → Steps p.tables e below U t) (g : GoesW p e below s Z EL Q C S U') : GoesW p e below s Z EL Q C S U := by
  obtain ⟨s₂, o, h1, r⟩ := g
  exact ⟨s₂, o, f _ h1, r⟩
theorem GoesW.enter {g g' : JFrame} (q : g = g') (h : GoesW p e below s Z EL Q C S (U.setTop g')) : GoesW p e below s Z EL Q C S (U.setTop g) := q ▸ h
theorem GoesW.ret (X : Stand p l e R (s.setVm vm0) m args below meth c T locs cells slots) {k0 : Nat} (hZ : Z.Warmed39 (s.setVm vm0).vm) (hEL : EW Z a0 EL) (hS : s.Since vm0 k0) (hk : k0 ≤ h.size) (H : CHv Z EL vm0 h) (CR : CHr Z EL s.vm s.heap vm0 h) {v : Option Value} (hv : meth.sig.returnType = none → v = none) (hlocks : meth.locks = false) (hc : cells ≤ C) (hs : slots ≤ S) (eT : T.heap = h)
    (step : ∀ fs, (∀ (f : JFrame) (acts : List Action), f.method = m → f.locked = none → f.entered = [] → (doReturn e (T.setTop f) acts v).1 = T.setFrames fs) → Steps p.tables e below U (T.setFrames fs)) (q : Q v h locs) : GoesW p e below s Z EL Q C S U := by
  obtain ⟨fs, hr, hrun, hended, hW⟩ := X.leaveW hS (by rw [eT]; exact hk) hv hlocks
  refine ⟨_, _, step fs hr, hrun, hended, _, _, rfl, ?_, ?_, hW.1, hW.2.1, hW.2.2.1, hW.2.2.2.mono hc hs⟩
  · show Q v T.heap locs
    rw [eT]
    exact q
  · show CHr Z EL s.vm s.heap T.vm T.heap
    rw [eT]
    exact CR.trans (CHv.at X hZ hEL H)
abbrev MetW (l : Launch) (Z : State) (EL : List (String × Nat)) (y : MethodName) (bytes : ByteArray) (maxL : Nat) (ret : Option FieldType) (ws : List Jvm.Cond) (rm : Room) (as' : Array Value) (sf : List Addr) (h0 : Heap) (Q : Option Value → Heap → List Loc → Prop) : Prop :=
  MetFree l y (head1 (Jvm.Cond.code y bytes maxL ret :: ws) rm) (fun argv U => argv = as' ∧ Z.Warmed39 U.vm ∧ U.heap = h0 ∧ CHv Z EL U.vm h0 ∧ ∀ x ∈ sf, Safe Z EL U.vm h0 x) (fun _ _ _ _ _ => True) (fun _ U o U' => ∃ v L, o = .returned v ∧ Q v U'.heap L ∧ CHr Z EL U.vm U.heap U'.vm U'.heap ∧ ReturnedEndW U o U' L rm.cells rm.slots)
theorem metW_of {y : MethodName} {bytes : ByteArray} {maxL : Nat} {ret : Option FieldType} {ws : List Jvm.Cond} {rm : Room} {as' : Array Value} {sf : List Addr} {h0 : Heap} {L0 : Array Slot} {own : String}
    (hp : plainFor y = true) (ho : y.cls = own) (ef : ∀ m, entryFrame m as' maxL = mkF m 0 L0 [])
    (body : ∀ (p : Program) (e : Env) (s : State) (m : MethodId) (below : List Frame) (meth : Method) (c : Code) (s₁ : State), p.tables.exec = Jvm.exec → c.code = bytes → c.maxLocals = maxL → (s.setVm s.vm).vm.findClass own = some m.cls → meth.name = y.name → Z.Warmed39 (s.setVm s.vm).vm → Stand p l e rm (s.setVm s.vm) m as' below meth c s₁ [] 0 0 → s₁.heap = h0 → meth.sig.returnType = ret → meth.locks = false → CHv Z EL s.vm h0 → (∀ x ∈ sf, Safe Z EL s.vm h0 x) → CHr Z EL s.vm s.heap s.vm h0 → s.Since s.vm h0.size → GoesW p e below s Z EL Q rm.cells rm.slots (s₁.setTop (mkF m 0 L0 []))) :
    MetW l Z EL y bytes maxL ret ws rm as' sf h0 Q := by
  refine MetFree.of_bodySF hp hisR ?_
  intro p e s m args below meth c s₁ Bd hml0 hP hK
  obtain ⟨rfl, hZ, hh, H, hSf⟩ := hP
  refine GoesW.enter (ef m) (body p e s m below meth c s₁ Bd.exec Bd.bytes hml0 (ho ▸ findClass_of_methodNamed Bd.named) (name_of_methodNamed Bd.named Bd.method).1 hZ (Stand.of_body Bd) (by rw [← hh, Bd.state]; rfl) Bd.returns Bd.notSynchronized H hSf (by rw [hh]; exact CHr.refl H) ((State.WarmedH.refl s).since _))
theorem own_backSH {y : MethodName} {bytes : ByteArray} {maxL : Nat} {ret : Option FieldType} {rm : Room} {len W : Nat} {as' : Array Value} {sf : List Addr}
    (hM : MetFree l y (head1 [Cond.code y bytes maxL ret] rm) (fun argv U => argv = as' ∧ Z.Warmed39 U.vm ∧ U.heap = h ∧ CHv Z EL U.vm h ∧ ∀ x ∈ sf, Safe Z EL U.vm h x) (fun _ _ _ _ _ => True) (fun _ U o U' => ∃ v L, o = .returned v ∧ Q v U'.heap L ∧ CHr Z EL U.vm U.heap U'.vm U'.heap ∧ ReturnedEndW U o U' L rm.cells rm.slots))
    (hZ : Z.Warmed39 (s.setVm vm0).vm) (wc : (Cond.code y bytes maxL ret).before a0 Z = true) (wz : (Cond.initialized y.cls).before a0 Z = true) (hf : rm.frames + 1 ≤ R.frames) (hl : W + (maxL + 11) + rm.locals ≤ R.locals) (hEL : EW Z a0 EL) (H : CHv Z EL vm0 h) (hs : ∀ x ∈ sf, Safe Z EL vm0 h x ∧ x < h.size) :
    BackS l R p e below (s.setVm vm0) args y len W (fun A a => a = as' ∧ A.U.heap = h ∧ A.cells + rm.cells ≤ R.cells ∧ A.slots + rm.slots ≤ R.slots)
      (fun A _ v B => ∃ L, Q v B.U.heap L ∧ B.locs = A.locs ++ L ∧ B.cells = A.cells + rm.cells ∧ B.slots = A.slots + rm.slots ∧ CHr Z EL vm0 h B.U.vm B.U.heap) := by
  refine BackS.of_freeW (bytes := bytes) (maxL := maxL) (ret := ret) (E := fun _ first o t L k n => k = rm.cells ∧ n = rm.slots ∧ (∃ v, o = .returned v ∧ Q v t.heap L) ∧ CHr Z EL first.vm first.heap t.vm t.heap) hM hf hl ?_ ?_ (fun _ _ _ _ _ _ _ _ _ => trivial) ?_ ?_
  · intro m meth c A a Y hp
    have hU : Z.Warmed39 A.U.vm := wtrans (s := s.setVm vm0) hZ Y.warmed
    exact ⟨by show (Cond.and _ .tt).before a A.U = true; rw [Cond.before_and, mv hU wc]; rfl, mv hU wc, mv hU wz, hp.2.2.1, hp.2.2.2⟩
  · intro m meth c A a g mk Y hp
    have q := CHv.at Y hZ hEL H
    exact ⟨hp.1, wtrans (s := s.setVm vm0) hZ Y.warmed, hp.2.1, q.1, fun x hx => q.safe (hs x hx).2 (hs x hx).1⟩
  · intro _ _ _ _ z
    obtain ⟨v, L, h1, h2, h3, h4⟩ := z
    exact ⟨L, _, _, h4, rfl, rfl, ⟨v, h1, h2⟩, h3⟩
  · intro m meth c A a g mk v t L k n Y hp _ _ z
    obtain ⟨e1, e2, ⟨v', e3, e4⟩, e5⟩ := z
    cases e3
    subst e1 e2
    refine ⟨L, e4, rfl, rfl, rfl, (CHv.at Y hZ hEL H).trans ?_⟩
    rw [← hp.2.1]
    exact e5
theorem own_since (s : State) (n : Nat) : s.Since s.vm n := (State.WarmedH.refl s).since n
theorem own_found {vm1 : Vm} {own : String} {k : ClassId} {n : Nat} (hS : (s.setVm vm0).Since vm1 n) (hown : (s.setVm vm0).vm.findClass own = some k) : (s.setVm vm1).vm.findClass own = some k := by
  show vm1.findClass own = some k
  rw [hS.1.alike.findClass]
  exact hown
end OwnW
abbrev own_EL : List (String × Nat) := [("com/example/known_paths/knownpaths/item/CodePointOrderComparePinLaw", 27)]
theorem own_atoms {a0 : Array Value} {Z : State} (hw : ∀ d ∈ tables_1, d.before a0 Z = true) : ∀ a ∈ Bundle.stringAtoms, a.before a0 Z = true := by
  intro a ha
  simp only [Bundle.stringAtoms, Bundle.sN, List.mem_cons, List.not_mem_nil, or_false] at ha
  rcases ha with rfl | rfl | rfl | rfl | rfl | rfl | rfl
  · exact (wq hw 5 rfl)
  · exact (wq hw 6 rfl)
  · exact (wq hw 7 rfl)
  · exact (wq hw 8 rfl)
  · exact (wq hw 9 rfl)
  · exact (wq hw 10 rfl)
  · exact (wq hw 11 rfl)
theorem own_bb (x : Int32) : nar .byte x.toInt8.toInt32 = x.toInt8.toInt32 := by
  show x.toInt8.toInt32.toInt8.toInt32 = x.toInt8.toInt32
  rw [Int8.toInt8_toInt32]
def OwnCh (c : Int32) : Prop := 0 ≤ c.toInt ∧ c.toInt < 65536
def OwnStr (Z : State) (h : Heap) (r b : Addr) (kb : ClassId) (cs : List Int32) : Prop :=
  Exa Z h r "java/lang/String" ∧ Fld Z h r "java/lang/String" "value" "[B" (.ref b) ∧ (∀ c ∈ cs, OwnCh c) ∧
  ((Fld Z h r "java/lang/String" "coder" "B" (.int (0 : Int32)) ∧ Arv Z h b kb .byte (Int32.ofNat cs.length) (cs.map fun c => .int c.toInt8.toInt32) (.int (0 : Int32)) ∧ ∀ c ∈ cs, ¬ ((255 : Int32) < c)) ∨
   (Fld Z h r "java/lang/String" "coder" "B" (.int (1 : Int32)) ∧ Arv Z h b kb .byte (Int32.ofNat (2 * cs.length)) (cs.flatMap fun c => [.int (c >>> ((0 : Int32) &&& 31)).toInt8.toInt32, .int (c >>> ((8 : Int32) &&& 31)).toInt8.toInt32]) (.int (0 : Int32)) ∧ ∃ c ∈ cs, (255 : Int32) < c))
theorem OwnStr.ext {Z : State} {h h' : Heap} {r b : Addr} {kb : ClassId} {cs : List Int32} (F : OwnStr Z h r b kb cs) (E : Ext h h') : OwnStr Z h' r b kb cs := by
  obtain ⟨e1, f1, g, q⟩ := F
  refine ⟨e1.ext E, f1.ext E, g, ?_⟩
  rcases q with ⟨q1, q2, q3⟩ | ⟨q1, q2, q3⟩
  · exact Or.inl ⟨q1.ext E, q2.ext E, q3⟩
  · exact Or.inr ⟨q1.ext E, q2.ext E, q3⟩
theorem OwnStr.keep {Z : State} {h h' : Heap} {r b : Addr} {kb : ClassId} {cs : List Int32} {ws : List Addr} (F : OwnStr Z h r b kb cs) (K : Keep h h' ws) (n1 : r ∉ ws) (n2 : b ∉ ws) : OwnStr Z h' r b kb cs := by
  obtain ⟨e1, f1, g, q⟩ := F
  refine ⟨e1.keep K, f1.keep K n1, g, ?_⟩
  rcases q with ⟨q1, q2, q3⟩ | ⟨q1, q2, q3⟩
  · exact Or.inl ⟨q1.keep K n1, q2.keep K n2, q3⟩
  · exact Or.inr ⟨q1.keep K n1, q2.keep K n2, q3⟩
theorem OwnStr.lt {Z : State} {h : Heap} {r b : Addr} {kb : ClassId} {cs : List Int32} (F : OwnStr Z h r b kb cs) : r < h.size := F.1.lt
theorem OwnStr.ltb {Z : State} {h : Heap} {r b : Addr} {kb : ClassId} {cs : List Int32} (F : OwnStr Z h r b kb cs) : b < h.size := by
  obtain ⟨e1, f1, g, q⟩ := F
  rcases q with ⟨q1, q2, q3⟩ | ⟨q1, q2, q3⟩ <;> exact q2.lt
theorem own_l1 (c : Int32) (h0 : OwnCh c) (h1 : ¬ ((255 : Int32) < c)) : nar .char (c.toInt8.toInt32 &&& (255 : Int32)).toUInt32.toUInt16.toUInt32.toInt32 = c := by
  have k : (255 : Int32).toInt = 255 := by decide
  rw [Int32.lt_iff_toInt_lt, k] at h1
  obtain ⟨h0, -⟩ := h0
  have a1 := c_i2b c
  have a2 := c_mask c.toInt8.toInt32 255 8 (by decide) (by decide)
  have a3 := c_i2c (c.toInt8.toInt32 &&& 255)
  have a4 := c_i2c (c.toInt8.toInt32 &&& (255 : Int32)).toUInt32.toUInt16.toUInt32.toInt32
  apply Int32.toInt_inj.mp
  show ((c.toInt8.toInt32 &&& (255 : Int32)).toUInt32.toUInt16.toUInt32.toInt32.toUInt32.toUInt16.toUInt32.toInt32).toInt = c.toInt
  omega
theorem own_u16 (c : Int32) (h0 : OwnCh c) : nar .char ((((c >>> ((0 : Int32) &&& 31)).toInt8.toInt32 &&& (255 : Int32)) <<< ((0 : Int32) &&& 31)) ||| (((c >>> ((8 : Int32) &&& 31)).toInt8.toInt32 &&& (255 : Int32)) <<< ((8 : Int32) &&& 31))).toUInt32.toUInt16.toUInt32.toInt32 = c := by
  obtain ⟨h0, h1⟩ := h0
  have s0 := c_ishr c 0 0 (by decide)
  have s8 := c_ishr c 8 8 (by decide)
  generalize c >>> ((0 : Int32) &&& 31) = x at *
  generalize c >>> ((8 : Int32) &&& 31) = y at *
  have a1 := c_i2b x
  have b1 := c_i2b y
  have a2 := c_mask x.toInt8.toInt32 255 8 (by decide) (by decide)
  have b2 := c_mask y.toInt8.toInt32 255 8 (by decide) (by decide)
  generalize x.toInt8.toInt32 &&& (255 : Int32) = u at *
  generalize y.toInt8.toInt32 &&& (255 : Int32) = v at *
  have a3 := c_ishl u 0 0 (by decide)
  have b3 := c_ishl v 8 8 (by decide)
  have r1 := rng32 (u <<< ((0 : Int32) &&& 31))
  have r2 := rng32 (v <<< ((8 : Int32) &&& 31))
  generalize u <<< ((0 : Int32) &&& 31) = u' at *
  generalize v <<< ((8 : Int32) &&& 31) = v' at *
  have o := c_or' u' v' 8 (by decide) 256 (by decide) (by omega) (by omega) (by omega)
  have r3 := rng32 (u' ||| v')
  generalize u' ||| v' = t at *
  have a5 := c_i2c t
  have a6 := c_i2c t.toUInt32.toUInt16.toUInt32.toInt32
  apply Int32.toInt_inj.mp
  show (t.toUInt32.toUInt16.toUInt32.toInt32.toUInt32.toUInt16.toUInt32.toInt32).toInt = c.toInt
  omega
theorem own_chr (x : Int32) : nar .char x.toUInt32.toUInt16.toUInt32.toInt32 = x.toUInt32.toUInt16.toUInt32.toInt32 := by
  have a5 := c_i2c x
  have a6 := c_i2c x.toUInt32.toUInt16.toUInt32.toInt32
  apply Int32.toInt_inj.mp
  show (x.toUInt32.toUInt16.toUInt32.toInt32.toUInt32.toUInt16.toUInt32.toInt32).toInt = _
  omega
theorem own_nch (c : Int32) (h : OwnCh c) : nar .char c = c := by
  obtain ⟨h0, h1⟩ := h
  have a5 := c_i2c c
  apply Int32.toInt_inj.mp
  show (c.toUInt32.toUInt16.toUInt32.toInt32).toInt = c.toInt
  omega
theorem own_nat (i : Int32) (h : ¬ (i < (0 : Int32))) : (i.toNatClampNeg : Int) = i.toInt := (nat_of h).symm
theorem own_ofn (n : Nat) (h : n ≤ 8192) : (Int32.ofNat n).toInt = n := len_toInt (by omega)
theorem own_lt (cl : List Int32) (i : Int32) (h1 : ¬ (i < (0 : Int32))) (h2 : i < Int32.ofNat cl.length) (hl : cl.length ≤ 4096) : i.toNatClampNeg < cl.length := by
  have a := own_nat i h1
  have b := own_ofn cl.length (by omega)
  rw [Int32.lt_iff_toInt_lt] at h2
  omega
theorem own_len0 (cl : List Int32) (h : cl.length ≤ 4096) : Int32.ofNat cl.length = (Int32.ofNat cl.length) >>> ((0 : Int32) &&& 31) := by
  have a := c_ishr (Int32.ofNat cl.length) 0 0 (by decide)
  apply Int32.toInt_inj.mp
  omega
theorem own_len1 (cl : List Int32) (h : cl.length ≤ 4096) : Int32.ofNat cl.length = (Int32.ofNat (2 * cl.length)) >>> ((1 : Int32) &&& 31) := by
  have a := c_ishr (Int32.ofNat (2 * cl.length)) 1 1 (by decide)
  have b := own_ofn (2 * cl.length) (by omega)
  have d := own_ofn cl.length (by omega)
  apply Int32.toInt_inj.mp
  omega
theorem own_gD (cl : List Int32) (i : Int32) (h1 : ¬ (i < (0 : Int32))) (h2 : i < Int32.ofNat cl.length) (hl : cl.length ≤ 4096) : cl.getD i.toNatClampNeg 0 ∈ cl := by
  have a := own_lt cl i h1 h2 hl
  rw [List.getD_eq_getElem?_getD, List.getElem?_eq_getElem a]
  exact List.getElem_mem a
theorem own_gch (cl : List Int32) (i : Int32) (h1 : ¬ (i < (0 : Int32))) (h2 : i < Int32.ofNat cl.length) (hl : cl.length ≤ 4096) (hc : ∀ c ∈ cl, OwnCh c) : OwnCh (cl.getD i.toNatClampNeg 0) := hc _ (own_gD cl i h1 h2 hl)
theorem own_gle (cl : List Int32) (i : Int32) (h1 : ¬ (i < (0 : Int32))) (h2 : i < Int32.ofNat cl.length) (hl : cl.length ≤ 4096) (hc : ∀ c ∈ cl, ¬ ((255 : Int32) < c)) : ¬ ((255 : Int32) < cl.getD i.toNatClampNeg 0) := hc _ (own_gD cl i h1 h2 hl)
theorem own_atL (cl : List Int32) (i : Int32) (h1 : ¬ (i < (0 : Int32))) (h2 : i < Int32.ofNat cl.length) (hl : cl.length ≤ 4096) : (cl.map fun c => Value.int c.toInt8.toInt32).getD i.toNatClampNeg (.int (0 : Int32)) = .int (cl.getD i.toNatClampNeg 0).toInt8.toInt32 := by
  have a := own_lt cl i h1 h2 hl
  simp [List.getD_eq_getElem?_getD, a]
theorem own_fm (f g : Int32 → Value) (d : Value) : ∀ (cl : List Int32) (k : Nat), k < cl.length → (cl.flatMap fun c => [f c, g c]).getD (2 * k) d = f (cl.getD k 0) ∧ (cl.flatMap fun c => [f c, g c]).getD (2 * k + 1) d = g (cl.getD k 0)
  | [], k, h => absurd h (Nat.not_lt_zero k)
  | c :: r, 0, _ => ⟨rfl, rfl⟩
  | c :: r, k + 1, h => by
    have q := own_fm f g d r k (Nat.lt_of_succ_lt_succ h)
    have e1 : 2 * (k + 1) = (2 * k + 1) + 1 := by omega
    simp only [List.flatMap_cons, List.cons_append, List.nil_append, e1, List.getD_cons_succ]
    exact q
theorem own_sh2 (i : Int32) (n : Nat) (h1 : ¬ (i < (0 : Int32))) (h2 : i.toInt < n) (hn : n ≤ 4096) : (i <<< ((1 : Int32) &&& 31)).toInt = 2 * i.toInt ∧ ((i <<< ((1 : Int32) &&& 31)) + (1 : Int32)).toInt = 2 * i.toInt + 1 := by
  have a := own_nat i h1
  have b := c_ishl i 1 1 (by decide)
  have r := rng32 (i <<< ((1 : Int32) &&& 31))
  have d := c_iadd (i <<< ((1 : Int32) &&& 31)) 1
  have r2 := rng32 ((i <<< ((1 : Int32) &&& 31)) + (1 : Int32))
  have k : (1 : Int32).toInt = 1 := by decide
  omega
theorem own_in0 (cl : List Int32) (i : Int32) (h1 : ¬ (i < (0 : Int32))) (h2 : i < Int32.ofNat cl.length) (hl : cl.length ≤ 4096) : ¬ ((i <<< ((1 : Int32) &&& 31)) < 0) ∧ (i <<< ((1 : Int32) &&& 31)) < Int32.ofNat (2 * cl.length) := by
  have b := own_ofn cl.length (by omega)
  have b2 := own_ofn (2 * cl.length) (by omega)
  have a := own_nat i h1
  rw [Int32.lt_iff_toInt_lt] at h2
  have q := own_sh2 i cl.length h1 (by omega) hl
  have k0 : (0 : Int32).toInt = 0 := by decide
  rw [Int32.lt_iff_toInt_lt, Int32.lt_iff_toInt_lt]
  omega
theorem own_in1 (cl : List Int32) (i : Int32) (h1 : ¬ (i < (0 : Int32))) (h2 : i < Int32.ofNat cl.length) (hl : cl.length ≤ 4096) : ¬ (((i <<< ((1 : Int32) &&& 31)) + (1 : Int32)) < 0) ∧ ((i <<< ((1 : Int32) &&& 31)) + (1 : Int32)) < Int32.ofNat (2 * cl.length) := by
  have b := own_ofn cl.length (by omega)
  have b2 := own_ofn (2 * cl.length) (by omega)
  have a := own_nat i h1
  rw [Int32.lt_iff_toInt_lt] at h2
  have q := own_sh2 i cl.length h1 (by omega) hl
  have k0 : (0 : Int32).toInt = 0 := by decide
  rw [Int32.lt_iff_toInt_lt, Int32.lt_iff_toInt_lt]
  omega
theorem own_at0 (cl : List Int32) (i : Int32) (h1 : ¬ (i < (0 : Int32))) (h2 : i < Int32.ofNat cl.length) (hl : cl.length ≤ 4096) : (cl.flatMap fun c => [Value.int (c >>> ((0 : Int32) &&& 31)).toInt8.toInt32, Value.int (c >>> ((8 : Int32) &&& 31)).toInt8.toInt32]).getD (i <<< ((1 : Int32) &&& 31)).toNatClampNeg (.int (0 : Int32)) = .int ((cl.getD i.toNatClampNeg 0) >>> ((0 : Int32) &&& 31)).toInt8.toInt32 := by
  have w := own_lt cl i h1 h2 hl
  have q := own_in0 cl i h1 h2 hl
  have b := own_ofn cl.length (by omega)
  have h3 := h2
  rw [Int32.lt_iff_toInt_lt] at h3
  have q2 := own_sh2 i cl.length h1 (by omega) hl
  have e1 := own_nat _ q.1
  have e2 := own_nat i h1
  have e : (i <<< ((1 : Int32) &&& 31)).toNatClampNeg = 2 * i.toNatClampNeg := by omega
  rw [e]
  exact (own_fm (fun c => Value.int (c >>> ((0 : Int32) &&& 31)).toInt8.toInt32) (fun c => Value.int (c >>> ((8 : Int32) &&& 31)).toInt8.toInt32) _ cl _ w).1
theorem own_at1 (cl : List Int32) (i : Int32) (h1 : ¬ (i < (0 : Int32))) (h2 : i < Int32.ofNat cl.length) (hl : cl.length ≤ 4096) : (cl.flatMap fun c => [Value.int (c >>> ((0 : Int32) &&& 31)).toInt8.toInt32, Value.int (c >>> ((8 : Int32) &&& 31)).toInt8.toInt32]).getD ((i <<< ((1 : Int32) &&& 31)) + (1 : Int32)).toNatClampNeg (.int (0 : Int32)) = .int ((cl.getD i.toNatClampNeg 0) >>> ((8 : Int32) &&& 31)).toInt8.toInt32 := by
  have w := own_lt cl i h1 h2 hl
  have q := own_in1 cl i h1 h2 hl
  have b := own_ofn cl.length (by omega)
  have h3 := h2
  rw [Int32.lt_iff_toInt_lt] at h3
  have q2 := own_sh2 i cl.length h1 (by omega) hl
  have e1 := own_nat _ q.1
  have e2 := own_nat i h1
  have e : ((i <<< ((1 : Int32) &&& 31)) + (1 : Int32)).toNatClampNeg = 2 * i.toNatClampNeg + 1 := by omega
  rw [e]
  exact (own_fm (fun c => Value.int (c >>> ((0 : Int32) &&& 31)).toInt8.toInt32) (fun c => Value.int (c >>> ((8 : Int32) &&& 31)).toInt8.toInt32) _ cl _ w).2
theorem own_isch (x : Int32) : OwnCh x.toUInt32.toUInt16.toUInt32.toInt32 := (c_i2c x).2
theorem ef_rm_pcIdx (m : MethodId) (x0 : Int32) (x1 : Int32) (x2 : Value) (hx2 : x2.isRef = true) : entryFrame m #[(.int x0), (.int x1), x2] 3 = mkF m 0 #[.val (.int x0), .val (.int x1), .val x2] [] := by rcases ref_cases hx2 with rfl | ⟨_, rfl⟩ <;> first | (simp [entryFrame, mkF, argsToLocals, Value.category]; done) | rfl
theorem pn_jdk_internal_util_Preconditions : plainName "jdk/internal/util/Preconditions" = true := by first | (simp [plainName, overriddenIn]; done) | decide +kernel
abbrev M20 : MethodName := ⟨"jdk/internal/util/Preconditions", "checkIndex", "(IILjava/util/function/BiFunction;)I"⟩
theorem d20_0 : decode jdk_41_method_11_code 0 = .ok (.iload_n 0, 1) := by decide +kernel
theorem d20_1 : decode jdk_41_method_11_code 1 = .ok (.ifCond .lt 8, 3) := by decide +kernel
theorem d20_4 : decode jdk_41_method_11_code 4 = .ok (.iload_n 0, 1) := by decide +kernel
theorem d20_5 : decode jdk_41_method_11_code 5 = .ok (.iload_n 1, 1) := by decide +kernel
theorem d20_6 : decode jdk_41_method_11_code 6 = .ok (.if_icmp .lt 10, 3) := by decide +kernel
theorem d20_16 : decode jdk_41_method_11_code 16 = .ok (.iload_n 0, 1) := by decide +kernel
theorem d20_17 : decode jdk_41_method_11_code 17 = .ok (.ireturn, 1) := by decide +kernel
def Q_rm_pcIdx (Z : State) (i : Int32) (n : Int32) (sf : Value) (h0 : Heap) (n0 : Nat) (v : Option Value) (h : Heap) (L : List Loc) : Prop := v = some (.int i) ∧ Fr n0 L ∧ h = h0
set_option maxRecDepth 65536 in
set_option maxHeartbeats 40000000 in
theorem rm_pcIdx (l : Launch) (Z : State) (a0 : Array Value) (hw : ∀ d ∈ tables_1, d.before a0 Z = true) (ws : List Jvm.Cond) (i : Int32) (n : Int32) (sf : Value) (h0 : Heap) (n0 : Nat) (Z0 : n0 ≤ h0.size)  (h1 : ¬ (i < (0 : Int32))) (h2 : i < n) (hsf : sf.isRef = true) :
    Met l Z M20 jdk_41_method_11_code 3 (some .int) ws (Rm 0 0 0 0) #[(.int i), (.int n), sf] h0 (Q_rm_pcIdx Z i n sf h0 n0) := by
  refine met_of (plainFor_of_name pn_jdk_internal_util_Preconditions) (own := "jdk/internal/util/Preconditions") rfl (fun m => ef_rm_pcIdx m i n sf hsf) ?_
  intro p e s m below meth c s₁ hx hby hml hown hnm hZ X0 e0 hret hlk
  have N0 := Fr.nil n0
  show Goes p e below s _ _ _ (s₁.setTop (mkF m 0 #[.val (.int i), .val (.int n), .val sf] []))
  refine Goes.pre (U' := s₁.setTop (mkF m 1 #[.val (.int i), .val (.int n), .val sf] [(.int i)])) (fun t k => XS.iloadN X0.here hx rfl (hb hby d20_0) rfl k) ?_
  have hc1 : ¬ (i < (0 : Int32)) := h1
  refine Goes.pre (U' := s₁.setTop (mkF m 6 #[.val (.int i), .val (.int n), .val sf] [(.int n), (.int i)])) (fun t k => XS.ifNo X0.here hx rfl (hb hby d20_1) rfl ((if0 _ _).trans (flt hc1).1) (XS.iloadN X0.here hx rfl (hb hby d20_4) rfl (XS.iloadN X0.here hx rfl (hb hby d20_5) rfl k))) ?_
  have hc6 : i < n := h2
  refine Goes.pre (U' := s₁.setTop (mkF m 17 #[.val (.int i), .val (.int n), .val sf] [(.int i)])) (fun t k => XS.icmpYes X0.here hx rfl (pc0 := 6) (pc' := 16) rfl (hb hby d20_6) rfl (tlt hc6).1 (by decide) (by decide) (XS.iloadN X0.here hx rfl (hb hby d20_16) rfl k)) ?_
  refine Goes.ret X0 (v := (some (.int i))) (fun h => by rw [hret] at h; cases h) hlk (by decide) (by decide) e0 (fun fs hr => retI X0 hx hret (hb hby d20_17) hr) ?_
  exact ⟨rfl, N0, rfl⟩
theorem ef_rm_sIdx (m : MethodId) (x0 : Int32) (x1 : Int32) : entryFrame m #[(.int x0), (.int x1)] 2 = mkF m 0 #[.val (.int x0), .val (.int x1)] [] := by first | (simp [entryFrame, mkF, argsToLocals, Value.category]; done) | rfl
theorem pn_java_lang_String : plainName "java/lang/String" = true := by first | (simp [plainName, overriddenIn]; done) | decide +kernel
abbrev M19 : MethodName := ⟨"java/lang/String", "checkIndex", "(II)V"⟩
theorem d19_0 : decode jdk_42_method_155_code 0 = .ok (.iload_n 0, 1) := by decide +kernel
theorem d19_1 : decode jdk_42_method_155_code 1 = .ok (.iload_n 1, 1) := by decide +kernel
theorem d19_2 : decode jdk_42_method_155_code 2 = .ok (.getstatic 1053, 3) := by decide +kernel
theorem d19_5 : decode jdk_42_method_155_code 5 = .ok (.invokestatic 1059, 3) := by decide +kernel
theorem pd__28IILjava_2futil_2ffunction_2fBiFunction_3b_29I : parseMethodDescriptor "(IILjava/util/function/BiFunction;)I" = some ⟨[.int, .int, (.object "java/util/function/BiFunction")], some .int⟩ := by decide +kernel
theorem d19_8 : decode jdk_42_method_155_code 8 = .ok (.pop, 1) := by decide +kernel
theorem d19_9 : decode jdk_42_method_155_code 9 = .ok (.return_, 1) := by decide +kernel
def Q_rm_sIdx (Z : State) (i : Int32) (n : Int32) (sf : Value) (h0 : Heap) (n0 : Nat) (v : Option Value) (h : Heap) (L : List Loc) : Prop := v = none ∧ Fr n0 L ∧ h = h0
set_option maxRecDepth 65536 in
set_option maxHeartbeats 40000000 in
theorem rm_sIdx (l : Launch) (Z : State) (a0 : Array Value) (hw : ∀ d ∈ tables_1, d.before a0 Z = true) (ws : List Jvm.Cond) (i : Int32) (n : Int32) (sf : Value) (h0 : Heap) (n0 : Nat) (Z0 : n0 ≤ h0.size) (S_SIOOBE_FORMATTER : Sta Z Z.heap "jdk/internal/util/Preconditions" "SIOOBE_FORMATTER" "Ljava/util/function/BiFunction;" sf) (h1 : ¬ (i < (0 : Int32))) (h2 : i < n) (hsf : sf.isRef = true) (O : Old Z n0 h0) :
    Met l Z M19 jdk_42_method_155_code 2 none ws (Rm 1 0 0 14) #[(.int i), (.int n)] h0 (Q_rm_sIdx Z i n sf h0 n0) := by
  refine met_of (plainFor_of_name pn_java_lang_String) (own := "java/lang/String") rfl (fun m => ef_rm_sIdx m i n) ?_
  intro p e s m below meth c s₁ hx hby hml hown hnm hZ X0 e0 hret hlk
  have N0 := Fr.nil n0
  show Goes p e below s _ _ _ (s₁.setTop (mkF m 0 #[.val (.int i), .val (.int n)] []))
  refine Goes.pre (U' := s₁.setTop (mkF m 2 #[.val (.int i), .val (.int n)] [(.int n), (.int i)])) (fun t k => XS.iloadN X0.here hx rfl (hb hby d19_0) rfl (XS.iloadN X0.here hx rfl (hb hby d19_1) rfl k)) ?_
  obtain ⟨T1, X1, e1, st1⟩ := getS2 X0 hx hZ hown (host := "") (Or.inl (wq hw 87 rfl)) Via.refl e0 (S_SIOOBE_FORMATTER.ext O.2) (g := (mkF m 2 #[.val (.int i), .val (.int n)] [(.int n), (.int i)])) rfl (hb hby d19_2)
  refine Goes.pre (U' := T1.setTop (mkF m 5 #[.val (.int i), .val (.int n)] [sf, (.int n), (.int i)])) (fun t k => st1 t k) ?_
  obtain ⟨_, _, ⟨T2, L2, k2, n2⟩, -, X2, ⟨Lc2, hQ2, l2, y2, z2⟩, st2⟩ := Jvm.LawKit.callS X1 hx (y := (⟨"jdk/internal/util/Preconditions", "checkIndex", "(IILjava/util/function/BiFunction;)I"⟩ : MethodName)) hown (mvT hZ (wq hw 89 rfl)) (mvT hZ (wq hw 90 rfl)) (mvT hZ (wq hw 88 rfl)) (mvT hZ (wq hw 91 rfl)) (by decide) (backOf (W := 0) (rm_pcIdx l Z a0 hw [] i n sf h0 n0 Z0  h1 h2 hsf) hZ (wq hw 91 rfl) (wq hw 88 rfl) (by decide) (by decide)) (g := (mkF m 5 #[.val (.int i), .val (.int n)] [sf, (.int n), (.int i)])) rfl (by rw [hml]; rfl) (argsL := [(.int i), (.int n), sf]) (rest := []) (lenOf pd__28IILjava_2futil_2ffunction_2fBiFunction_3b_29I rfl) rfl (by show 2 * 0 + _ ≤ _; exact Nat.le_of_eq rfl) (hb hby d19_5) (fun _ _ => ⟨rfl, e1, (by decide : 0 + 0 ≤ _), (by decide : 0 + 0 ≤ _)⟩)
  dsimp only [Pt.U, Pt.locs, Pt.cells, Pt.slots] at X2 l2 y2 z2 st2 hQ2
  subst l2 y2 z2
  obtain ⟨rfl, N2q, HQ2⟩ := hQ2
  have N2 := Fr.app N0 N2q
  refine Goes.pre (U' := T2.setTop (mkF m 9 #[.val (.int i), .val (.int n)] [])) (fun t k => st2 t (XS.pop X2.here hx rfl (hb hby d19_8) rfl rfl k)) ?_
  refine Goes.ret X2 (v := none) (fun _ => rfl) hlk (by decide) (by decide) HQ2 (fun fs hr => X2.returnOut hx hret (hb hby d19_9) hr) ?_
  exact ⟨rfl, N2, rfl⟩
theorem ef_rm_coder0 (m : MethodId) (x0 : Addr) : entryFrame m #[(.ref x0)] 1 = mkF m 0 #[.val (.ref x0)] [] := by first | (simp [entryFrame, mkF, argsToLocals, Value.category]; done) | rfl
abbrev M14 : MethodName := ⟨"java/lang/String", "coder", "()B"⟩
theorem d14_0 : decode jdk_42_method_152_code 0 = .ok (.getstatic 38, 3) := by decide +kernel
theorem d14_3 : decode jdk_42_method_152_code 3 = .ok (.ifCond .eq 10, 3) := by decide +kernel
theorem d14_6 : decode jdk_42_method_152_code 6 = .ok (.aload_n 0, 1) := by decide +kernel
theorem d14_7 : decode jdk_42_method_152_code 7 = .ok (.getfield 15, 3) := by decide +kernel
theorem d14_10 : decode jdk_42_method_152_code 10 = .ok (.goto 4, 3) := by decide +kernel
theorem d14_14 : decode jdk_42_method_152_code 14 = .ok (.ireturn, 1) := by decide +kernel
def Q_rm_coder0 (Z : State) (a : Addr) (cs : Int32) (h0 : Heap) (n0 : Nat) (v : Option Value) (h : Heap) (L : List Loc) : Prop := v = some (.int (0 : Int32)) ∧ Fr n0 L ∧ h = h0
set_option maxRecDepth 65536 in
set_option maxHeartbeats 40000000 in
theorem rm_coder0 (l : Launch) (Z : State) (a0 : Array Value) (hw : ∀ d ∈ tables_1, d.before a0 Z = true) (ws : List Jvm.Cond) (a : Addr) (cs : Int32) (h0 : Heap) (n0 : Nat) (Z0 : n0 ≤ h0.size) (S_COMPACT_STRINGS : Sta Z Z.heap "java/lang/String" "COMPACT_STRINGS" "Z" (.int cs)) (F_coder_a : Fld Z h0 a "java/lang/String" "coder" "B" (.int (0 : Int32))) (hcs : ¬ (cs = (0 : Int32))) (O : Old Z n0 h0) :
    Met l Z M14 jdk_42_method_152_code 1 (some .byte) ws (Rm 0 0 0 0) #[(.ref a)] h0 (Q_rm_coder0 Z a cs h0 n0) := by
  refine met_of (plainFor_of_name pn_java_lang_String) (own := "java/lang/String") rfl (fun m => ef_rm_coder0 m a) ?_
  intro p e s m below meth c s₁ hx hby hml hown hnm hZ X0 e0 hret hlk
  have N0 := Fr.nil n0
  show Goes p e below s _ _ _ (s₁.setTop (mkF m 0 #[.val (.ref a)] []))
  obtain ⟨T1, X1, e1, st1⟩ := getS2 X0 hx hZ hown (host := "") (Or.inl (wq hw 39 rfl)) Via.refl e0 (S_COMPACT_STRINGS.ext O.2) (g := (mkF m 0 #[.val (.ref a)] [])) rfl (hb hby d14_0)
  refine Goes.pre (U' := T1.setTop (mkF m 3 #[.val (.ref a)] [(.int cs)])) (fun t k => st1 t k) ?_
  have hc3 : ¬ (cs = (0 : Int32)) := hcs
  refine Goes.pre (U' := T1.setTop (mkF m 7 #[.val (.ref a)] [(.ref a)])) (fun t k => XS.ifNo X1.here hx rfl (hb hby d14_3) rfl ((if0 _ _).trans (feq hc3).1) (XS.aloadN X1.here hx rfl (hb hby d14_6) rfl rfl k)) ?_
  obtain ⟨T2, X2, e2, st2⟩ := getF X1 hx hZ hown (host := "") (Or.inl (wq hw 50 rfl)) Via.refl e1 F_coder_a (g := (mkF m 7 #[.val (.ref a)] [(.ref a)])) rfl rfl (hb hby d14_7)
  refine Goes.pre (U' := T2.setTop (mkF m 14 #[.val (.ref a)] [(.int (0 : Int32))])) (fun t k => st2 t (XS.goto X2.here hx rfl (pc0 := 10) (pc' := 14) rfl (hb hby d14_10) (by decide) (by decide) k)) ?_
  refine Goes.ret X2 (v := (some (.int (0 : Int32)))) (fun h => by rw [hret] at h; cases h) hlk (by decide) (by decide) e2 (fun fs hr => retN X2 hx (t := .byte) hret (by simp) (hb hby d14_14) hr) ?_
  exact ⟨rfl, N0, rfl⟩
theorem ef_rm_isL0 (m : MethodId) (x0 : Addr) : entryFrame m #[(.ref x0)] 1 = mkF m 0 #[.val (.ref x0)] [] := by first | (simp [entryFrame, mkF, argsToLocals, Value.category]; done) | rfl
abbrev M17 : MethodName := ⟨"java/lang/String", "isLatin1", "()Z"⟩
theorem d17_0 : decode jdk_42_method_154_code 0 = .ok (.getstatic 38, 3) := by decide +kernel
theorem d17_3 : decode jdk_42_method_154_code 3 = .ok (.ifCond .eq 14, 3) := by decide +kernel
theorem d17_6 : decode jdk_42_method_154_code 6 = .ok (.aload_n 0, 1) := by decide +kernel
theorem d17_7 : decode jdk_42_method_154_code 7 = .ok (.getfield 15, 3) := by decide +kernel
theorem d17_10 : decode jdk_42_method_154_code 10 = .ok (.ifCond .ne 7, 3) := by decide +kernel
theorem d17_13 : decode jdk_42_method_154_code 13 = .ok (.iconst 1, 1) := by decide +kernel
theorem d17_14 : decode jdk_42_method_154_code 14 = .ok (.goto 4, 3) := by decide +kernel
theorem d17_18 : decode jdk_42_method_154_code 18 = .ok (.ireturn, 1) := by decide +kernel
def Q_rm_isL0 (Z : State) (a : Addr) (cs : Int32) (h0 : Heap) (n0 : Nat) (v : Option Value) (h : Heap) (L : List Loc) : Prop := v = some (.int (1 : Int32)) ∧ Fr n0 L ∧ h = h0
set_option maxRecDepth 65536 in
set_option maxHeartbeats 40000000 in
theorem rm_isL0 (l : Launch) (Z : State) (a0 : Array Value) (hw : ∀ d ∈ tables_1, d.before a0 Z = true) (ws : List Jvm.Cond) (a : Addr) (cs : Int32) (h0 : Heap) (n0 : Nat) (Z0 : n0 ≤ h0.size) (S_COMPACT_STRINGS : Sta Z Z.heap "java/lang/String" "COMPACT_STRINGS" "Z" (.int cs)) (F_coder_a : Fld Z h0 a "java/lang/String" "coder" "B" (.int (0 : Int32))) (hcs : ¬ (cs = (0 : Int32))) (O : Old Z n0 h0) :
    Met l Z M17 jdk_42_method_154_code 1 (some .boolean) ws (Rm 0 0 0 0) #[(.ref a)] h0 (Q_rm_isL0 Z a cs h0 n0) := by
  refine met_of (plainFor_of_name pn_java_lang_String) (own := "java/lang/String") rfl (fun m => ef_rm_isL0 m a) ?_
  intro p e s m below meth c s₁ hx hby hml hown hnm hZ X0 e0 hret hlk
  have N0 := Fr.nil n0
  show Goes p e below s _ _ _ (s₁.setTop (mkF m 0 #[.val (.ref a)] []))
  obtain ⟨T1, X1, e1, st1⟩ := getS2 X0 hx hZ hown (host := "") (Or.inl (wq hw 39 rfl)) Via.refl e0 (S_COMPACT_STRINGS.ext O.2) (g := (mkF m 0 #[.val (.ref a)] [])) rfl (hb hby d17_0)
  refine Goes.pre (U' := T1.setTop (mkF m 3 #[.val (.ref a)] [(.int cs)])) (fun t k => st1 t k) ?_
  have hc3 : ¬ (cs = (0 : Int32)) := hcs
  refine Goes.pre (U' := T1.setTop (mkF m 7 #[.val (.ref a)] [(.ref a)])) (fun t k => XS.ifNo X1.here hx rfl (hb hby d17_3) rfl ((if0 _ _).trans (feq hc3).1) (XS.aloadN X1.here hx rfl (hb hby d17_6) rfl rfl k)) ?_
  obtain ⟨T2, X2, e2, st2⟩ := getF X1 hx hZ hown (host := "") (Or.inl (wq hw 50 rfl)) Via.refl e1 F_coder_a (g := (mkF m 7 #[.val (.ref a)] [(.ref a)])) rfl rfl (hb hby d17_7)
  refine Goes.pre (U' := T2.setTop (mkF m 10 #[.val (.ref a)] [(.int (0 : Int32))])) (fun t k => st2 t k) ?_
  have hc10 : (0 : Int32) = (0 : Int32) := rfl
  refine Goes.pre (U' := T2.setTop (mkF m 18 #[.val (.ref a)] [(.int (1 : Int32))])) (fun t k => XS.ifNo X2.here hx rfl (hb hby d17_10) rfl ((if0 _ _).trans (teq hc10).2) (XS.iconst X2.here hx rfl (hb hby d17_13) (XS.goto X2.here hx rfl (pc0 := 14) (pc' := 18) rfl (hb hby d17_14) (by decide) (by decide) k))) ?_
  refine Goes.ret X2 (v := (some (.int (1 : Int32)))) (fun h => by rw [hret] at h; cases h) hlk (by decide) (by decide) e2 (fun fs hr => retN X2 hx (t := .boolean) hret (by simp) (hb hby d17_18) hr) ?_
  exact ⟨rfl, N0, rfl⟩
theorem ef_rm_coder1 (m : MethodId) (x0 : Addr) : entryFrame m #[(.ref x0)] 1 = mkF m 0 #[.val (.ref x0)] [] := by first | (simp [entryFrame, mkF, argsToLocals, Value.category]; done) | rfl
def Q_rm_coder1 (Z : State) (a : Addr) (cs : Int32) (h0 : Heap) (n0 : Nat) (v : Option Value) (h : Heap) (L : List Loc) : Prop := v = some (.int (1 : Int32)) ∧ Fr n0 L ∧ h = h0
set_option maxRecDepth 65536 in
set_option maxHeartbeats 40000000 in
theorem rm_coder1 (l : Launch) (Z : State) (a0 : Array Value) (hw : ∀ d ∈ tables_1, d.before a0 Z = true) (ws : List Jvm.Cond) (a : Addr) (cs : Int32) (h0 : Heap) (n0 : Nat) (Z0 : n0 ≤ h0.size) (S_COMPACT_STRINGS : Sta Z Z.heap "java/lang/String" "COMPACT_STRINGS" "Z" (.int cs)) (F_coder_a : Fld Z h0 a "java/lang/String" "coder" "B" (.int (1 : Int32))) (hcs : ¬ (cs = (0 : Int32))) (O : Old Z n0 h0) :
    Met l Z M14 jdk_42_method_152_code 1 (some .byte) ws (Rm 0 0 0 0) #[(.ref a)] h0 (Q_rm_coder1 Z a cs h0 n0) := by
  refine met_of (plainFor_of_name pn_java_lang_String) (own := "java/lang/String") rfl (fun m => ef_rm_coder1 m a) ?_
  intro p e s m below meth c s₁ hx hby hml hown hnm hZ X0 e0 hret hlk
  have N0 := Fr.nil n0
  show Goes p e below s _ _ _ (s₁.setTop (mkF m 0 #[.val (.ref a)] []))
  obtain ⟨T1, X1, e1, st1⟩ := getS2 X0 hx hZ hown (host := "") (Or.inl (wq hw 39 rfl)) Via.refl e0 (S_COMPACT_STRINGS.ext O.2) (g := (mkF m 0 #[.val (.ref a)] [])) rfl (hb hby d14_0)
  refine Goes.pre (U' := T1.setTop (mkF m 3 #[.val (.ref a)] [(.int cs)])) (fun t k => st1 t k) ?_
  have hc3 : ¬ (cs = (0 : Int32)) := hcs
  refine Goes.pre (U' := T1.setTop (mkF m 7 #[.val (.ref a)] [(.ref a)])) (fun t k => XS.ifNo X1.here hx rfl (hb hby d14_3) rfl ((if0 _ _).trans (feq hc3).1) (XS.aloadN X1.here hx rfl (hb hby d14_6) rfl rfl k)) ?_
  obtain ⟨T2, X2, e2, st2⟩ := getF X1 hx hZ hown (host := "") (Or.inl (wq hw 50 rfl)) Via.refl e1 F_coder_a (g := (mkF m 7 #[.val (.ref a)] [(.ref a)])) rfl rfl (hb hby d14_7)
  refine Goes.pre (U' := T2.setTop (mkF m 14 #[.val (.ref a)] [(.int (1 : Int32))])) (fun t k => st2 t (XS.goto X2.here hx rfl (pc0 := 10) (pc' := 14) rfl (hb hby d14_10) (by decide) (by decide) k)) ?_
  refine Goes.ret X2 (v := (some (.int (1 : Int32)))) (fun h => by rw [hret] at h; cases h) hlk (by decide) (by decide) e2 (fun fs hr => retN X2 hx (t := .byte) hret (by simp) (hb hby d14_14) hr) ?_
  exact ⟨rfl, N0, rfl⟩
theorem ef_rm_isL1 (m : MethodId) (x0 : Addr) : entryFrame m #[(.ref x0)] 1 = mkF m 0 #[.val (.ref x0)] [] := by first | (simp [entryFrame, mkF, argsToLocals, Value.category]; done) | rfl
theorem d17_17 : decode jdk_42_method_154_code 17 = .ok (.iconst 0, 1) := by decide +kernel
def Q_rm_isL1 (Z : State) (a : Addr) (cs : Int32) (h0 : Heap) (n0 : Nat) (v : Option Value) (h : Heap) (L : List Loc) : Prop := v = some (.int (0 : Int32)) ∧ Fr n0 L ∧ h = h0
set_option maxRecDepth 65536 in
set_option maxHeartbeats 40000000 in
theorem rm_isL1 (l : Launch) (Z : State) (a0 : Array Value) (hw : ∀ d ∈ tables_1, d.before a0 Z = true) (ws : List Jvm.Cond) (a : Addr) (cs : Int32) (h0 : Heap) (n0 : Nat) (Z0 : n0 ≤ h0.size) (S_COMPACT_STRINGS : Sta Z Z.heap "java/lang/String" "COMPACT_STRINGS" "Z" (.int cs)) (F_coder_a : Fld Z h0 a "java/lang/String" "coder" "B" (.int (1 : Int32))) (hcs : ¬ (cs = (0 : Int32))) (O : Old Z n0 h0) :
    Met l Z M17 jdk_42_method_154_code 1 (some .boolean) ws (Rm 0 0 0 0) #[(.ref a)] h0 (Q_rm_isL1 Z a cs h0 n0) := by
  refine met_of (plainFor_of_name pn_java_lang_String) (own := "java/lang/String") rfl (fun m => ef_rm_isL1 m a) ?_
  intro p e s m below meth c s₁ hx hby hml hown hnm hZ X0 e0 hret hlk
  have N0 := Fr.nil n0
  show Goes p e below s _ _ _ (s₁.setTop (mkF m 0 #[.val (.ref a)] []))
  obtain ⟨T1, X1, e1, st1⟩ := getS2 X0 hx hZ hown (host := "") (Or.inl (wq hw 39 rfl)) Via.refl e0 (S_COMPACT_STRINGS.ext O.2) (g := (mkF m 0 #[.val (.ref a)] [])) rfl (hb hby d17_0)
  refine Goes.pre (U' := T1.setTop (mkF m 3 #[.val (.ref a)] [(.int cs)])) (fun t k => st1 t k) ?_
  have hc3 : ¬ (cs = (0 : Int32)) := hcs
  refine Goes.pre (U' := T1.setTop (mkF m 7 #[.val (.ref a)] [(.ref a)])) (fun t k => XS.ifNo X1.here hx rfl (hb hby d17_3) rfl ((if0 _ _).trans (feq hc3).1) (XS.aloadN X1.here hx rfl (hb hby d17_6) rfl rfl k)) ?_
  obtain ⟨T2, X2, e2, st2⟩ := getF X1 hx hZ hown (host := "") (Or.inl (wq hw 50 rfl)) Via.refl e1 F_coder_a (g := (mkF m 7 #[.val (.ref a)] [(.ref a)])) rfl rfl (hb hby d17_7)
  refine Goes.pre (U' := T2.setTop (mkF m 10 #[.val (.ref a)] [(.int (1 : Int32))])) (fun t k => st2 t k) ?_
  have hc10 : ¬ ((1 : Int32) = (0 : Int32)) := by decide
  refine Goes.pre (U' := T2.setTop (mkF m 18 #[.val (.ref a)] [(.int (0 : Int32))])) (fun t k => XS.ifYes X2.here hx rfl (pc0 := 10) (pc' := 17) rfl (hb hby d17_10) rfl ((if0 _ _).trans (feq hc10).2) (by decide) (by decide) (XS.iconst X2.here hx rfl (hb hby d17_17) k)) ?_
  refine Goes.ret X2 (v := (some (.int (0 : Int32)))) (fun h => by rw [hret] at h; cases h) hlk (by decide) (by decide) e2 (fun fs hr => retN X2 hx (t := .boolean) hret (by simp) (hb hby d17_18) hr) ?_
  exact ⟨rfl, N0, rfl⟩
theorem ef_rm_len (m : MethodId) (x0 : Addr) : entryFrame m #[(.ref x0)] 1 = mkF m 0 #[.val (.ref x0)] [] := by first | (simp [entryFrame, mkF, argsToLocals, Value.category]; done) | rfl
abbrev M13 : MethodName := ⟨"java/lang/String", "length", "()I"⟩
theorem d13_0 : decode jdk_42_method_54_code 0 = .ok (.aload_n 0, 1) := by decide +kernel
theorem d13_1 : decode jdk_42_method_54_code 1 = .ok (.getfield 9, 3) := by decide +kernel
theorem d13_4 : decode jdk_42_method_54_code 4 = .ok (.arraylength, 1) := by decide +kernel
theorem d13_5 : decode jdk_42_method_54_code 5 = .ok (.aload_n 0, 1) := by decide +kernel
theorem d13_6 : decode jdk_42_method_54_code 6 = .ok (.invokevirtual 335, 3) := by decide +kernel
theorem pd__28_29B : parseMethodDescriptor "()B" = some ⟨[], some .byte⟩ := by decide +kernel
theorem d13_9 : decode jdk_42_method_54_code 9 = .ok (.ishr, 1) := by decide +kernel
theorem d13_10 : decode jdk_42_method_54_code 10 = .ok (.ireturn, 1) := by decide +kernel
def Q_rm_len (Z : State) (a : Addr) (b : Addr) (kb : ClassId) (cl : List Int32) (cs : Int32) (h0 : Heap) (n0 : Nat) (v : Option Value) (h : Heap) (L : List Loc) : Prop := v = some (.int (Int32.ofNat cl.length)) ∧ Fr n0 L ∧ h = h0
set_option maxRecDepth 65536 in
set_option maxHeartbeats 40000000 in
theorem rm_len (l : Launch) (Z : State) (a0 : Array Value) (hw : ∀ d ∈ tables_1, d.before a0 Z = true) (ws : List Jvm.Cond) (a : Addr) (b : Addr) (kb : ClassId) (cl : List Int32) (cs : Int32) (h0 : Heap) (n0 : Nat) (Z0 : n0 ≤ h0.size) (S_a : OwnStr Z h0 a b kb cl) (S_COMPACT_STRINGS : Sta Z Z.heap "java/lang/String" "COMPACT_STRINGS" "Z" (.int cs)) (hcs : ¬ (cs = (0 : Int32))) (hlen : cl.length ≤ 4096) (O : Old Z n0 h0) :
    Met l Z M13 jdk_42_method_54_code 1 (some .int) ws (Rm 1 0 0 13) #[(.ref a)] h0 (Q_rm_len Z a b kb cl cs h0 n0) := by
  refine met_of (plainFor_of_name pn_java_lang_String) (own := "java/lang/String") rfl (fun m => ef_rm_len m a) ?_
  intro p e s m below meth c s₁ hx hby hml hown hnm hZ X0 e0 hret hlk
  have N0 := Fr.nil n0
  show Goes p e below s _ _ _ (s₁.setTop (mkF m 0 #[.val (.ref a)] []))
  obtain ⟨E_a, F_value_a, hcA, hSt⟩ := S_a
  rcases hSt with ⟨F_coder_a, V_b, hleA⟩ | ⟨F_coder_a, V_b, hexA⟩
  ·
    refine Goes.pre (U' := s₁.setTop (mkF m 1 #[.val (.ref a)] [(.ref a)])) (fun t k => XS.aloadN X0.here hx rfl (hb hby d13_0) rfl rfl k) ?_
    obtain ⟨T1, X1, e1, st1⟩ := getF X0 hx hZ hown (host := "") (Or.inl (wq hw 51 rfl)) Via.refl e0 F_value_a (g := (mkF m 1 #[.val (.ref a)] [(.ref a)])) rfl rfl (hb hby d13_1)
    refine Goes.pre (U' := T1.setTop (mkF m 4 #[.val (.ref a)] [(.ref b)])) (fun t k => st1 t k) ?_
    obtain ⟨cl2, Ar2, q2, Sz2, Ng2, -, -⟩ := id V_b
    have ln2 := len_of Sz2 Ng2
    refine Goes.pre (U' := T1.setTop (mkF m 6 #[.val (.ref a)] [(.ref a), (.int (Int32.ofNat cl.length))])) (fun t k => X1.arraylength hx (by rw [e1]; exact Ar2.1) (State.isArrayOf_alike hZ.alike Ar2.2.1) (g := (mkF m 4 #[.val (.ref a)] [(.ref b)])) rfl rfl (hb hby d13_4) _ (by rw [ln2]; exact (XS.aloadN X1.here hx rfl (hb hby d13_5) rfl rfl k))) ?_
    obtain ⟨cq3, kq3, q3a, q3b, q3c⟩ := isOf hZ e1 E_a
    obtain ⟨_, _, ⟨T3, L3, k3, n3⟩, -, X3, ⟨Lc3, hQ3, l3, y3, z3⟩, st3⟩ := X1.virtualBack hx (y := (⟨"java/lang/String", "coder", "()B"⟩ : MethodName)) (z := (⟨"java/lang/String", "coder", "()B"⟩ : MethodName)) hown (mvT hZ (wq hw 62 rfl)) (mvT hZ (wq hw 63 rfl)) (notFace_of_selects (args := #[]) (mvT hZ (wq hw 65 rfl))) (mvT hZ (wq hw 65 rfl)) (mvT hZ (wq hw 64 rfl)) (by decide) (backOf (W := 1) (rm_coder0 l Z a0 hw [] a cs h0 n0 Z0 S_COMPACT_STRINGS F_coder_a hcs O) hZ (wq hw 66 rfl) (wq hw 5 rfl) (by decide) (by decide)) q3a q3c (g := (mkF m 6 #[.val (.ref a)] [(.ref a), (.int (Int32.ofNat cl.length))])) rfl (by rw [hml]; rfl) (Steps.refl _) (argsL := []) (rest := [(.int (Int32.ofNat cl.length))]) (lenOf pd__28_29B rfl) rfl (by show 2 * 0 + _ ≤ _; exact Nat.le_of_eq rfl) (hb hby d13_6) (fun _ _ => ⟨rfl, e1, (by decide : 0 + 0 ≤ _), (by decide : 0 + 0 ≤ _)⟩)
    dsimp only [Pt.U, Pt.locs, Pt.cells, Pt.slots] at X3 l3 y3 z3 st3 hQ3
    subst l3 y3 z3
    obtain ⟨rfl, N3q, HQ3⟩ := hQ3
    have N3 := Fr.app N0 N3q
    refine Goes.pre (U' := T3.setTop (mkF m 10 #[.val (.ref a)] [(.int ((Int32.ofNat cl.length) >>> ((0 : Int32) &&& 31)))])) (fun t k => st3.trans (XS.ishr X3.here hx rfl (hb hby d13_9) rfl k)) ?_
    refine Goes.ret X3 (v := (some (.int ((Int32.ofNat cl.length) >>> ((0 : Int32) &&& 31))))) (fun h => by rw [hret] at h; cases h) hlk (by decide) (by decide) HQ3 (fun fs hr => retI X3 hx hret (hb hby d13_10) hr) ?_
    exact ⟨congrArg (fun z => some (Value.int z)) (own_len0 cl hlen).symm, N3, rfl⟩
  ·
    refine Goes.pre (U' := s₁.setTop (mkF m 1 #[.val (.ref a)] [(.ref a)])) (fun t k => XS.aloadN X0.here hx rfl (hb hby d13_0) rfl rfl k) ?_
    obtain ⟨T4, X4, e4, st4⟩ := getF X0 hx hZ hown (host := "") (Or.inl (wq hw 51 rfl)) Via.refl e0 F_value_a (g := (mkF m 1 #[.val (.ref a)] [(.ref a)])) rfl rfl (hb hby d13_1)
    refine Goes.pre (U' := T4.setTop (mkF m 4 #[.val (.ref a)] [(.ref b)])) (fun t k => st4 t k) ?_
    obtain ⟨cl5, Ar5, q5, Sz5, Ng5, -, -⟩ := id V_b
    have ln5 := len_of Sz5 Ng5
    refine Goes.pre (U' := T4.setTop (mkF m 6 #[.val (.ref a)] [(.ref a), (.int (Int32.ofNat (2 * cl.length)))])) (fun t k => X4.arraylength hx (by rw [e4]; exact Ar5.1) (State.isArrayOf_alike hZ.alike Ar5.2.1) (g := (mkF m 4 #[.val (.ref a)] [(.ref b)])) rfl rfl (hb hby d13_4) _ (by rw [ln5]; exact (XS.aloadN X4.here hx rfl (hb hby d13_5) rfl rfl k))) ?_
    obtain ⟨cq6, kq6, q6a, q6b, q6c⟩ := isOf hZ e4 E_a
    obtain ⟨_, _, ⟨T6, L6, k6, n6⟩, -, X6, ⟨Lc6, hQ6, l6, y6, z6⟩, st6⟩ := X4.virtualBack hx (y := (⟨"java/lang/String", "coder", "()B"⟩ : MethodName)) (z := (⟨"java/lang/String", "coder", "()B"⟩ : MethodName)) hown (mvT hZ (wq hw 62 rfl)) (mvT hZ (wq hw 63 rfl)) (notFace_of_selects (args := #[]) (mvT hZ (wq hw 65 rfl))) (mvT hZ (wq hw 65 rfl)) (mvT hZ (wq hw 64 rfl)) (by decide) (backOf (W := 1) (rm_coder1 l Z a0 hw [] a cs h0 n0 Z0 S_COMPACT_STRINGS F_coder_a hcs O) hZ (wq hw 66 rfl) (wq hw 5 rfl) (by decide) (by decide)) q6a q6c (g := (mkF m 6 #[.val (.ref a)] [(.ref a), (.int (Int32.ofNat (2 * cl.length)))])) rfl (by rw [hml]; rfl) (Steps.refl _) (argsL := []) (rest := [(.int (Int32.ofNat (2 * cl.length)))]) (lenOf pd__28_29B rfl) rfl (by show 2 * 0 + _ ≤ _; exact Nat.le_of_eq rfl) (hb hby d13_6) (fun _ _ => ⟨rfl, e4, (by decide : 0 + 0 ≤ _), (by decide : 0 + 0 ≤ _)⟩)
    dsimp only [Pt.U, Pt.locs, Pt.cells, Pt.slots] at X6 l6 y6 z6 st6 hQ6
    subst l6 y6 z6
    obtain ⟨rfl, N6q, HQ6⟩ := hQ6
    have N6 := Fr.app N0 N6q
    refine Goes.pre (U' := T6.setTop (mkF m 10 #[.val (.ref a)] [(.int ((Int32.ofNat (2 * cl.length)) >>> ((1 : Int32) &&& 31)))])) (fun t k => st6.trans (XS.ishr X6.here hx rfl (hb hby d13_9) rfl k)) ?_
    refine Goes.ret X6 (v := (some (.int ((Int32.ofNat (2 * cl.length)) >>> ((1 : Int32) &&& 31))))) (fun h => by rw [hret] at h; cases h) hlk (by decide) (by decide) HQ6 (fun fs hr => retI X6 hx hret (hb hby d13_10) hr) ?_
    exact ⟨congrArg (fun z => some (Value.int z)) (own_len1 cl hlen).symm, N6, rfl⟩
theorem ef_rm_l1chG (m : MethodId) (x0 : Addr) (x1 : Int32) : entryFrame m #[(.ref x0), (.int x1)] 2 = mkF m 0 #[.val (.ref x0), .val (.int x1)] [] := by first | (simp [entryFrame, mkF, argsToLocals, Value.category]; done) | rfl
theorem pn_java_lang_StringLatin1 : plainName "java/lang/StringLatin1" = true := by first | (simp [plainName, overriddenIn]; done) | decide +kernel
abbrev M18 : MethodName := ⟨"java/lang/StringLatin1", "charAt", "([BI)C"⟩
theorem d18_0 : decode jdk_43_method_2_code 0 = .ok (.iload_n 1, 1) := by decide +kernel
theorem d18_1 : decode jdk_43_method_2_code 1 = .ok (.aload_n 0, 1) := by decide +kernel
theorem d18_2 : decode jdk_43_method_2_code 2 = .ok (.arraylength, 1) := by decide +kernel
theorem d18_3 : decode jdk_43_method_2_code 3 = .ok (.invokestatic 9, 3) := by decide +kernel
theorem pd__28II_29V : parseMethodDescriptor "(II)V" = some ⟨[.int, .int], none⟩ := by decide +kernel
theorem d18_6 : decode jdk_43_method_2_code 6 = .ok (.aload_n 0, 1) := by decide +kernel
theorem d18_7 : decode jdk_43_method_2_code 7 = .ok (.iload_n 1, 1) := by decide +kernel
theorem d18_8 : decode jdk_43_method_2_code 8 = .ok (.baload, 1) := by decide +kernel
theorem d18_9 : decode jdk_43_method_2_code 9 = .ok (.sipush 255, 3) := by decide +kernel
theorem d18_12 : decode jdk_43_method_2_code 12 = .ok (.iand, 1) := by decide +kernel
theorem d18_13 : decode jdk_43_method_2_code 13 = .ok (.i2c, 1) := by decide +kernel
theorem d18_14 : decode jdk_43_method_2_code 14 = .ok (.ireturn, 1) := by decide +kernel
def Q_rm_l1chG (Z : State) (b : Addr) (kb : ClassId) (cl : List Int32) (i : Int32) (sf : Value) (h0 : Heap) (n0 : Nat) (v : Option Value) (h : Heap) (L : List Loc) : Prop := v = some (.int (cl.getD i.toNatClampNeg 0)) ∧ Fr n0 L ∧ h = h0
set_option maxRecDepth 65536 in
set_option maxHeartbeats 40000000 in
theorem rm_l1chG (l : Launch) (Z : State) (a0 : Array Value) (hw : ∀ d ∈ tables_1, d.before a0 Z = true) (ws : List Jvm.Cond) (b : Addr) (kb : ClassId) (cl : List Int32) (i : Int32) (sf : Value) (h0 : Heap) (n0 : Nat) (Z0 : n0 ≤ h0.size) (V_b : Arv Z h0 b kb .byte (Int32.ofNat cl.length) (cl.map fun c => .int c.toInt8.toInt32) (.int (0 : Int32))) (S_SIOOBE_FORMATTER : Sta Z Z.heap "jdk/internal/util/Preconditions" "SIOOBE_FORMATTER" "Ljava/util/function/BiFunction;" sf) (h1 : ¬ (i < (0 : Int32))) (h2 : i < Int32.ofNat cl.length) (hlen : cl.length ≤ 4096) (hcA : ∀ c ∈ cl, OwnCh c) (hleA : ∀ c ∈ cl, ¬ ((255 : Int32) < c)) (hsf : sf.isRef = true) (O : Old Z n0 h0) :
    Met l Z M18 jdk_43_method_2_code 2 (some .char) ws (Rm 2 0 0 27) #[(.ref b), (.int i)] h0 (Q_rm_l1chG Z b kb cl i sf h0 n0) := by
  refine met_of (plainFor_of_name pn_java_lang_StringLatin1) (own := "java/lang/StringLatin1") rfl (fun m => ef_rm_l1chG m b i) ?_
  intro p e s m below meth c s₁ hx hby hml hown hnm hZ X0 e0 hret hlk
  have N0 := Fr.nil n0
  show Goes p e below s _ _ _ (s₁.setTop (mkF m 0 #[.val (.ref b), .val (.int i)] []))
  refine Goes.pre (U' := s₁.setTop (mkF m 2 #[.val (.ref b), .val (.int i)] [(.ref b), (.int i)])) (fun t k => XS.iloadN X0.here hx rfl (hb hby d18_0) rfl (XS.aloadN X0.here hx rfl (hb hby d18_1) rfl rfl k)) ?_
  obtain ⟨cl1, Ar1, q1, Sz1, Ng1, -, -⟩ := id V_b
  have ln1 := len_of Sz1 Ng1
  refine Goes.pre (U' := s₁.setTop (mkF m 3 #[.val (.ref b), .val (.int i)] [(.int (Int32.ofNat cl.length)), (.int i)])) (fun t k => X0.arraylength hx (by rw [e0]; exact Ar1.1) (State.isArrayOf_alike hZ.alike Ar1.2.1) (g := (mkF m 2 #[.val (.ref b), .val (.int i)] [(.ref b), (.int i)])) rfl rfl (hb hby d18_2) _ (by rw [ln1]; exact k)) ?_
  obtain ⟨_, _, ⟨T2, L2, k2, n2⟩, -, X2, ⟨Lc2, hQ2, l2, y2, z2⟩, st2⟩ := Jvm.LawKit.callS X0 hx (y := (⟨"java/lang/String", "checkIndex", "(II)V"⟩ : MethodName)) hown (mvT hZ (wq hw 84 rfl)) (mvT hZ (wq hw 85 rfl)) (mvT hZ (wq hw 5 rfl)) (mvT hZ (wq hw 86 rfl)) (by decide) (backOf (W := 0) (rm_sIdx l Z a0 hw [] i (Int32.ofNat cl.length) sf h0 n0 Z0 S_SIOOBE_FORMATTER h1 h2 hsf O) hZ (wq hw 86 rfl) (wq hw 5 rfl) (by decide) (by decide)) (g := (mkF m 3 #[.val (.ref b), .val (.int i)] [(.int (Int32.ofNat cl.length)), (.int i)])) rfl (by rw [hml]; rfl) (argsL := [(.int i), (.int (Int32.ofNat cl.length))]) (rest := []) (lenOf pd__28II_29V rfl) rfl (by show 2 * 0 + _ ≤ _; exact Nat.le_of_eq rfl) (hb hby d18_3) (fun _ _ => ⟨rfl, e0, (by decide : 0 + 0 ≤ _), (by decide : 0 + 0 ≤ _)⟩)
  dsimp only [Pt.U, Pt.locs, Pt.cells, Pt.slots] at X2 l2 y2 z2 st2 hQ2
  subst l2 y2 z2
  obtain ⟨rfl, N2q, HQ2⟩ := hQ2
  have N2 := Fr.app N0 N2q
  refine Goes.pre (U' := T2.setTop (mkF m 8 #[.val (.ref b), .val (.int i)] [(.int i), (.ref b)])) (fun t k => st2 t (XS.aloadN X2.here hx rfl (hb hby d18_6) rfl rfl (XS.iloadN X2.here hx rfl (hb hby d18_7) rfl k))) ?_
  obtain ⟨cl3, Ar3, q3, Sz3, Ng3, Hs3, Ft3⟩ := id V_b
  have hin3 := inb_of (j := i) Sz3 ⟨h1, h2⟩
  refine Goes.pre (U' := T2.setTop (mkF m 14 #[.val (.ref b), .val (.int i)] [(.int (((cl.getD i.toNatClampNeg 0).toInt8.toInt32 &&& (255 : Int32)).toUInt32.toUInt16.toUInt32.toInt32))])) (fun t k => X2.baloadBytes hx (j := i) (v := (.int (cl.getD i.toNatClampNeg 0).toInt8.toInt32)) (by rw [HQ2]; exact Ar3.1) (State.isArrayOf_alike hZ.alike Ar3.2.1) Ar3.2.2 hin3 (Has.at Hs3 hin3 (own_atL cl i h1 h2 hlen)) (g := (mkF m 8 #[.val (.ref b), .val (.int i)] [(.int i), (.ref b)])) rfl rfl (hb hby d18_8) _ (XS.sipush X2.here hx rfl (hb hby d18_9) (XS.iand X2.here hx rfl (hb hby d18_12) rfl (XS.i2c X2.here hx rfl (hb hby d18_13) rfl k)))) ?_
  refine Goes.ret X2 (v := (some (.int (cl.getD i.toNatClampNeg 0)))) (fun h => by rw [hret] at h; cases h) hlk (by decide) (by decide) HQ2 (fun fs hr => retN X2 hx (t := .char) hret (by simp) (hb hby d18_14) (by rw [show nar .char (((cl.getD i.toNatClampNeg 0).toInt8.toInt32 &&& (255 : Int32)).toUInt32.toUInt16.toUInt32.toInt32) = (cl.getD i.toNatClampNeg 0) from own_l1 _ (own_gch cl i h1 h2 hlen hcA) (own_gle cl i h1 h2 hlen hleA)]; exact hr)) ?_
  exact ⟨rfl, N2, rfl⟩
theorem ef_rm_ulenG (m : MethodId) (x0 : Addr) : entryFrame m #[(.ref x0)] 1 = mkF m 0 #[.val (.ref x0)] [] := by first | (simp [entryFrame, mkF, argsToLocals, Value.category]; done) | rfl
theorem pn_java_lang_StringUTF16 : plainName "java/lang/StringUTF16" = true := by first | (simp [plainName, overriddenIn]; done) | decide +kernel
abbrev M31 : MethodName := ⟨"java/lang/StringUTF16", "length", "([B)I"⟩
theorem d31_0 : decode jdk_52_method_6_code 0 = .ok (.aload_n 0, 1) := by decide +kernel
theorem d31_1 : decode jdk_52_method_6_code 1 = .ok (.arraylength, 1) := by decide +kernel
theorem d31_2 : decode jdk_52_method_6_code 2 = .ok (.iconst 1, 1) := by decide +kernel
theorem d31_3 : decode jdk_52_method_6_code 3 = .ok (.ishr, 1) := by decide +kernel
theorem d31_4 : decode jdk_52_method_6_code 4 = .ok (.ireturn, 1) := by decide +kernel
def Q_rm_ulenG (Z : State) (b : Addr) (kb : ClassId) (cl : List Int32) (h0 : Heap) (n0 : Nat) (v : Option Value) (h : Heap) (L : List Loc) : Prop := v = some (.int (Int32.ofNat cl.length)) ∧ Fr n0 L ∧ h = h0
set_option maxRecDepth 65536 in
set_option maxHeartbeats 40000000 in
theorem rm_ulenG (l : Launch) (Z : State) (a0 : Array Value) (hw : ∀ d ∈ tables_1, d.before a0 Z = true) (ws : List Jvm.Cond) (b : Addr) (kb : ClassId) (cl : List Int32) (h0 : Heap) (n0 : Nat) (Z0 : n0 ≤ h0.size) (V_b : Arv Z h0 b kb .byte (Int32.ofNat (2 * cl.length)) (cl.flatMap fun c => [.int (c >>> ((0 : Int32) &&& 31)).toInt8.toInt32, .int (c >>> ((8 : Int32) &&& 31)).toInt8.toInt32]) (.int (0 : Int32))) (hlen : cl.length ≤ 4096) :
    Met l Z M31 jdk_52_method_6_code 1 (some .int) ws (Rm 0 0 0 0) #[(.ref b)] h0 (Q_rm_ulenG Z b kb cl h0 n0) := by
  refine met_of (plainFor_of_name pn_java_lang_StringUTF16) (own := "java/lang/StringUTF16") rfl (fun m => ef_rm_ulenG m b) ?_
  intro p e s m below meth c s₁ hx hby hml hown hnm hZ X0 e0 hret hlk
  have N0 := Fr.nil n0
  show Goes p e below s _ _ _ (s₁.setTop (mkF m 0 #[.val (.ref b)] []))
  refine Goes.pre (U' := s₁.setTop (mkF m 1 #[.val (.ref b)] [(.ref b)])) (fun t k => XS.aloadN X0.here hx rfl (hb hby d31_0) rfl rfl k) ?_
  obtain ⟨cl1, Ar1, q1, Sz1, Ng1, -, -⟩ := id V_b
  have ln1 := len_of Sz1 Ng1
  refine Goes.pre (U' := s₁.setTop (mkF m 4 #[.val (.ref b)] [(.int ((Int32.ofNat (2 * cl.length)) >>> ((1 : Int32) &&& 31)))])) (fun t k => X0.arraylength hx (by rw [e0]; exact Ar1.1) (State.isArrayOf_alike hZ.alike Ar1.2.1) (g := (mkF m 1 #[.val (.ref b)] [(.ref b)])) rfl rfl (hb hby d31_1) _ (by rw [ln1]; exact (XS.iconst X0.here hx rfl (hb hby d31_2) (XS.ishr X0.here hx rfl (hb hby d31_3) rfl k)))) ?_
  refine Goes.ret X0 (v := (some (.int ((Int32.ofNat (2 * cl.length)) >>> ((1 : Int32) &&& 31))))) (fun h => by rw [hret] at h; cases h) hlk (by decide) (by decide) e0 (fun fs hr => retI X0 hx hret (hb hby d31_4) hr) ?_
  exact ⟨congrArg (fun z => some (Value.int z)) (own_len1 cl hlen).symm, N0, rfl⟩
theorem ef_rm_uIdxG (m : MethodId) (x0 : Int32) (x1 : Addr) : entryFrame m #[(.int x0), (.ref x1)] 2 = mkF m 0 #[.val (.int x0), .val (.ref x1)] [] := by first | (simp [entryFrame, mkF, argsToLocals, Value.category]; done) | rfl
abbrev M30 : MethodName := ⟨"java/lang/StringUTF16", "checkIndex", "(I[B)V"⟩
theorem d30_0 : decode jdk_52_method_91_code 0 = .ok (.iload_n 0, 1) := by decide +kernel
theorem d30_1 : decode jdk_52_method_91_code 1 = .ok (.aload_n 1, 1) := by decide +kernel
theorem d30_2 : decode jdk_52_method_91_code 2 = .ok (.invokestatic 48, 3) := by decide +kernel
theorem pd__28_5bB_29I : parseMethodDescriptor "([B)I" = some ⟨[(.array .byte)], some .int⟩ := by decide +kernel
theorem d30_5 : decode jdk_52_method_91_code 5 = .ok (.invokestatic 414, 3) := by decide +kernel
theorem d30_8 : decode jdk_52_method_91_code 8 = .ok (.return_, 1) := by decide +kernel
def Q_rm_uIdxG (Z : State) (b : Addr) (kb : ClassId) (cl : List Int32) (i : Int32) (sf : Value) (h0 : Heap) (n0 : Nat) (v : Option Value) (h : Heap) (L : List Loc) : Prop := v = none ∧ Fr n0 L ∧ h = h0
set_option maxRecDepth 65536 in
set_option maxHeartbeats 40000000 in
theorem rm_uIdxG (l : Launch) (Z : State) (a0 : Array Value) (hw : ∀ d ∈ tables_1, d.before a0 Z = true) (ws : List Jvm.Cond) (b : Addr) (kb : ClassId) (cl : List Int32) (i : Int32) (sf : Value) (h0 : Heap) (n0 : Nat) (Z0 : n0 ≤ h0.size) (V_b : Arv Z h0 b kb .byte (Int32.ofNat (2 * cl.length)) (cl.flatMap fun c => [.int (c >>> ((0 : Int32) &&& 31)).toInt8.toInt32, .int (c >>> ((8 : Int32) &&& 31)).toInt8.toInt32]) (.int (0 : Int32))) (S_SIOOBE_FORMATTER : Sta Z Z.heap "jdk/internal/util/Preconditions" "SIOOBE_FORMATTER" "Ljava/util/function/BiFunction;" sf) (h1 : ¬ (i < (0 : Int32))) (h2 : i < Int32.ofNat cl.length) (hlen : cl.length ≤ 4096) (hsf : sf.isRef = true) (O : Old Z n0 h0) :
    Met l Z M30 jdk_52_method_91_code 2 none ws (Rm 2 0 0 27) #[(.int i), (.ref b)] h0 (Q_rm_uIdxG Z b kb cl i sf h0 n0) := by
  refine met_of (plainFor_of_name pn_java_lang_StringUTF16) (own := "java/lang/StringUTF16") rfl (fun m => ef_rm_uIdxG m i b) ?_
  intro p e s m below meth c s₁ hx hby hml hown hnm hZ X0 e0 hret hlk
  have N0 := Fr.nil n0
  show Goes p e below s _ _ _ (s₁.setTop (mkF m 0 #[.val (.int i), .val (.ref b)] []))
  refine Goes.pre (U' := s₁.setTop (mkF m 2 #[.val (.int i), .val (.ref b)] [(.ref b), (.int i)])) (fun t k => XS.iloadN X0.here hx rfl (hb hby d30_0) rfl (XS.aloadN X0.here hx rfl (hb hby d30_1) rfl rfl k)) ?_
  obtain ⟨_, _, ⟨T1, L1, k1, n1⟩, -, X1, ⟨Lc1, hQ1, l1, y1, z1⟩, st1⟩ := Jvm.LawKit.callS X0 hx (y := (⟨"java/lang/StringUTF16", "length", "([B)I"⟩ : MethodName)) hown (mvT hZ (wq hw 130 rfl)) (mvT hZ (wq hw 131 rfl)) (mvT hZ (wq hw 42 rfl)) (mvT hZ (wq hw 132 rfl)) (by decide) (backOf (W := 1) (rm_ulenG l Z a0 hw [] b kb cl h0 n0 Z0 V_b hlen) hZ (wq hw 132 rfl) (wq hw 42 rfl) (by decide) (by decide)) (g := (mkF m 2 #[.val (.int i), .val (.ref b)] [(.ref b), (.int i)])) rfl (by rw [hml]; rfl) (argsL := [(.ref b)]) (rest := [(.int i)]) (lenOf pd__28_5bB_29I rfl) rfl (by show 2 * 0 + _ ≤ _; exact Nat.le_of_eq rfl) (hb hby d30_2) (fun _ _ => ⟨rfl, e0, (by decide : 0 + 0 ≤ _), (by decide : 0 + 0 ≤ _)⟩)
  dsimp only [Pt.U, Pt.locs, Pt.cells, Pt.slots] at X1 l1 y1 z1 st1 hQ1
  subst l1 y1 z1
  obtain ⟨rfl, N1q, HQ1⟩ := hQ1
  have N1 := Fr.app N0 N1q
  refine Goes.pre (U' := T1.setTop (mkF m 5 #[.val (.int i), .val (.ref b)] [(.int (Int32.ofNat cl.length)), (.int i)])) (fun t k => st1 t k) ?_
  obtain ⟨_, _, ⟨T2, L2, k2, n2⟩, -, X2, ⟨Lc2, hQ2, l2, y2, z2⟩, st2⟩ := Jvm.LawKit.callS X1 hx (y := (⟨"java/lang/String", "checkIndex", "(II)V"⟩ : MethodName)) hown (mvT hZ (wq hw 133 rfl)) (mvT hZ (wq hw 85 rfl)) (mvT hZ (wq hw 5 rfl)) (mvT hZ (wq hw 86 rfl)) (by decide) (backOf (W := 0) (rm_sIdx l Z a0 hw [] i (Int32.ofNat cl.length) sf h0 n0 Z0 S_SIOOBE_FORMATTER h1 h2 hsf O) hZ (wq hw 86 rfl) (wq hw 5 rfl) (by decide) (by decide)) (g := (mkF m 5 #[.val (.int i), .val (.ref b)] [(.int (Int32.ofNat cl.length)), (.int i)])) rfl (by rw [hml]; rfl) (argsL := [(.int i), (.int (Int32.ofNat cl.length))]) (rest := []) (lenOf pd__28II_29V rfl) rfl (by show 2 * 0 + _ ≤ _; exact Nat.le_of_eq rfl) (hb hby d30_5) (fun _ _ => ⟨rfl, HQ1, (by decide : 0 + 0 ≤ _), (by decide : 0 + 0 ≤ _)⟩)
  dsimp only [Pt.U, Pt.locs, Pt.cells, Pt.slots] at X2 l2 y2 z2 st2 hQ2
  subst l2 y2 z2
  obtain ⟨rfl, N2q, HQ2⟩ := hQ2
  have N2 := Fr.app N1 N2q
  refine Goes.pre (U' := T2.setTop (mkF m 8 #[.val (.int i), .val (.ref b)] [])) (fun t k => st2 t k) ?_
  refine Goes.ret X2 (v := none) (fun _ => rfl) hlk (by decide) (by decide) HQ2 (fun fs hr => X2.returnOut hx hret (hb hby d30_8) hr) ?_
  exact ⟨rfl, N2, rfl⟩
theorem ef_rm_getChG (m : MethodId) (x0 : Addr) (x1 : Int32) : entryFrame m #[(.ref x0), (.int x1)] 2 = mkF m 0 #[.val (.ref x0), .val (.int x1)] [] := by first | (simp [entryFrame, mkF, argsToLocals, Value.category]; done) | rfl
abbrev M28 : MethodName := ⟨"java/lang/StringUTF16", "getChar", "([BI)C"⟩
theorem d28_0 : decode jdk_52_method_5_code 0 = .ok (.getstatic 44, 3) := by decide +kernel
theorem d28_3 : decode jdk_52_method_5_code 3 = .ok (.ifCond .ne 25, 3) := by decide +kernel
theorem d28_28 : decode jdk_52_method_5_code 28 = .ok (.iload_n 1, 1) := by decide +kernel
theorem d28_29 : decode jdk_52_method_5_code 29 = .ok (.iconst 1, 1) := by decide +kernel
theorem d28_30 : decode jdk_52_method_5_code 30 = .ok (.ishl, 1) := by decide +kernel
theorem d28_31 : decode jdk_52_method_5_code 31 = .ok (.istore_n 1, 1) := by decide +kernel
theorem d28_32 : decode jdk_52_method_5_code 32 = .ok (.aload_n 0, 1) := by decide +kernel
theorem d28_33 : decode jdk_52_method_5_code 33 = .ok (.iload_n 1, 1) := by decide +kernel
theorem d28_34 : decode jdk_52_method_5_code 34 = .ok (.iinc 1 1, 3) := by decide +kernel
theorem d28_37 : decode jdk_52_method_5_code 37 = .ok (.baload, 1) := by decide +kernel
theorem d28_38 : decode jdk_52_method_5_code 38 = .ok (.sipush 255, 3) := by decide +kernel
theorem d28_41 : decode jdk_52_method_5_code 41 = .ok (.iand, 1) := by decide +kernel
theorem d28_42 : decode jdk_52_method_5_code 42 = .ok (.getstatic 59, 3) := by decide +kernel
theorem d28_45 : decode jdk_52_method_5_code 45 = .ok (.ishl, 1) := by decide +kernel
theorem d28_46 : decode jdk_52_method_5_code 46 = .ok (.aload_n 0, 1) := by decide +kernel
theorem d28_47 : decode jdk_52_method_5_code 47 = .ok (.iload_n 1, 1) := by decide +kernel
theorem d28_48 : decode jdk_52_method_5_code 48 = .ok (.baload, 1) := by decide +kernel
theorem d28_49 : decode jdk_52_method_5_code 49 = .ok (.sipush 255, 3) := by decide +kernel
theorem d28_52 : decode jdk_52_method_5_code 52 = .ok (.iand, 1) := by decide +kernel
theorem d28_53 : decode jdk_52_method_5_code 53 = .ok (.getstatic 63, 3) := by decide +kernel
theorem d28_56 : decode jdk_52_method_5_code 56 = .ok (.ishl, 1) := by decide +kernel
theorem d28_57 : decode jdk_52_method_5_code 57 = .ok (.ior, 1) := by decide +kernel
theorem d28_58 : decode jdk_52_method_5_code 58 = .ok (.i2c, 1) := by decide +kernel
theorem d28_59 : decode jdk_52_method_5_code 59 = .ok (.ireturn, 1) := by decide +kernel
def Q_rm_getChG (Z : State) (b : Addr) (kb : ClassId) (cl : List Int32) (i : Int32) (h0 : Heap) (n0 : Nat) (v : Option Value) (h : Heap) (L : List Loc) : Prop := v = some (.int (cl.getD i.toNatClampNeg 0)) ∧ Fr n0 L ∧ h = h0
set_option maxRecDepth 65536 in
set_option maxHeartbeats 40000000 in
theorem rm_getChG (l : Launch) (Z : State) (a0 : Array Value) (hw : ∀ d ∈ tables_1, d.before a0 Z = true) (ws : List Jvm.Cond) (b : Addr) (kb : ClassId) (cl : List Int32) (i : Int32) (h0 : Heap) (n0 : Nat) (Z0 : n0 ≤ h0.size) (V_b : Arv Z h0 b kb .byte (Int32.ofNat (2 * cl.length)) (cl.flatMap fun c => [.int (c >>> ((0 : Int32) &&& 31)).toInt8.toInt32, .int (c >>> ((8 : Int32) &&& 31)).toInt8.toInt32]) (.int (0 : Int32))) (S__assertionsDisabled : Sta Z Z.heap "java/lang/StringUTF16" "$assertionsDisabled" "Z" (.int (1 : Int32))) (S_HI_BYTE_SHIFT : Sta Z Z.heap "java/lang/StringUTF16" "HI_BYTE_SHIFT" "I" (.int (0 : Int32))) (S_LO_BYTE_SHIFT : Sta Z Z.heap "java/lang/StringUTF16" "LO_BYTE_SHIFT" "I" (.int (8 : Int32))) (h1 : ¬ (i < (0 : Int32))) (h2 : i < Int32.ofNat cl.length) (hlen : cl.length ≤ 4096) (hcA : ∀ c ∈ cl, OwnCh c) (O : Old Z n0 h0) :
    Met l Z M28 jdk_52_method_5_code 2 (some .char) ws (Rm 0 0 0 0) #[(.ref b), (.int i)] h0 (Q_rm_getChG Z b kb cl i h0 n0) := by
  refine met_of (plainFor_of_name pn_java_lang_StringUTF16) (own := "java/lang/StringUTF16") rfl (fun m => ef_rm_getChG m b i) ?_
  intro p e s m below meth c s₁ hx hby hml hown hnm hZ X0 e0 hret hlk
  have N0 := Fr.nil n0
  show Goes p e below s _ _ _ (s₁.setTop (mkF m 0 #[.val (.ref b), .val (.int i)] []))
  obtain ⟨T1, X1, e1, st1⟩ := getS2 X0 hx hZ hown (host := "") (Or.inl (wq hw 118 rfl)) Via.refl e0 (S__assertionsDisabled.ext O.2) (g := (mkF m 0 #[.val (.ref b), .val (.int i)] [])) rfl (hb hby d28_0)
  refine Goes.pre (U' := T1.setTop (mkF m 3 #[.val (.ref b), .val (.int i)] [(.int (1 : Int32))])) (fun t k => st1 t k) ?_
  have hc3 : ¬ ((1 : Int32) = (0 : Int32)) := by decide
  refine Goes.pre (U' := T1.setTop (mkF m 37 #[.val (.ref b), .val (.int ((i <<< ((1 : Int32) &&& 31)) + (1 : Int32)))] [(.int (i <<< ((1 : Int32) &&& 31))), (.ref b)])) (fun t k => XS.ifYes X1.here hx rfl (pc0 := 3) (pc' := 28) rfl (hb hby d28_3) rfl ((if0 _ _).trans (feq hc3).2) (by decide) (by decide) (XS.iloadN X1.here hx rfl (hb hby d28_28) rfl (XS.iconst X1.here hx rfl (hb hby d28_29) (XS.ishl X1.here hx rfl (hb hby d28_30) rfl (XS.istoreN X1.here hx rfl (hb hby d28_31) rfl (l' := #[.val (.ref b), .val (.int (i <<< ((1 : Int32) &&& 31)))]) rfl (XS.aloadN X1.here hx rfl (hb hby d28_32) rfl rfl (XS.iloadN X1.here hx rfl (hb hby d28_33) rfl (XT.iincV X1.here hx rfl (1 : Int32) (hb hby d28_34) (by decide) rfl (l' := #[.val (.ref b), .val (.int ((i <<< ((1 : Int32) &&& 31)) + (1 : Int32)))]) rfl k)))))))) ?_
  obtain ⟨cl2, Ar2, q2, Sz2, Ng2, Hs2, Ft2⟩ := id V_b
  have hin2 := inb_of (j := (i <<< ((1 : Int32) &&& 31))) Sz2 (own_in0 cl i h1 h2 hlen)
  refine Goes.pre (U' := T1.setTop (mkF m 42 #[.val (.ref b), .val (.int ((i <<< ((1 : Int32) &&& 31)) + (1 : Int32)))] [(.int (((cl.getD i.toNatClampNeg 0) >>> ((0 : Int32) &&& 31)).toInt8.toInt32 &&& (255 : Int32)))])) (fun t k => X1.baloadBytes hx (j := (i <<< ((1 : Int32) &&& 31))) (v := (.int ((cl.getD i.toNatClampNeg 0) >>> ((0 : Int32) &&& 31)).toInt8.toInt32)) (by rw [e1]; exact Ar2.1) (State.isArrayOf_alike hZ.alike Ar2.2.1) Ar2.2.2 hin2 (Has.at Hs2 hin2 (own_at0 cl i h1 h2 hlen)) (g := (mkF m 37 #[.val (.ref b), .val (.int ((i <<< ((1 : Int32) &&& 31)) + (1 : Int32)))] [(.int (i <<< ((1 : Int32) &&& 31))), (.ref b)])) rfl rfl (hb hby d28_37) _ (XS.sipush X1.here hx rfl (hb hby d28_38) (XS.iand X1.here hx rfl (hb hby d28_41) rfl k))) ?_
  obtain ⟨T3, X3, e3, st3⟩ := getS2 X1 hx hZ hown (host := "") (Or.inl (wq hw 119 rfl)) Via.refl e1 (S_HI_BYTE_SHIFT.ext O.2) (g := (mkF m 42 #[.val (.ref b), .val (.int ((i <<< ((1 : Int32) &&& 31)) + (1 : Int32)))] [(.int (((cl.getD i.toNatClampNeg 0) >>> ((0 : Int32) &&& 31)).toInt8.toInt32 &&& (255 : Int32)))])) rfl (hb hby d28_42)
  refine Goes.pre (U' := T3.setTop (mkF m 48 #[.val (.ref b), .val (.int ((i <<< ((1 : Int32) &&& 31)) + (1 : Int32)))] [(.int ((i <<< ((1 : Int32) &&& 31)) + (1 : Int32))), (.ref b), (.int ((((cl.getD i.toNatClampNeg 0) >>> ((0 : Int32) &&& 31)).toInt8.toInt32 &&& (255 : Int32)) <<< ((0 : Int32) &&& 31)))])) (fun t k => st3 t (XS.ishl X3.here hx rfl (hb hby d28_45) rfl (XS.aloadN X3.here hx rfl (hb hby d28_46) rfl rfl (XS.iloadN X3.here hx rfl (hb hby d28_47) rfl k)))) ?_
  obtain ⟨cl4, Ar4, q4, Sz4, Ng4, Hs4, Ft4⟩ := id V_b
  have hin4 := inb_of (j := ((i <<< ((1 : Int32) &&& 31)) + (1 : Int32))) Sz4 (own_in1 cl i h1 h2 hlen)
  refine Goes.pre (U' := T3.setTop (mkF m 53 #[.val (.ref b), .val (.int ((i <<< ((1 : Int32) &&& 31)) + (1 : Int32)))] [(.int (((cl.getD i.toNatClampNeg 0) >>> ((8 : Int32) &&& 31)).toInt8.toInt32 &&& (255 : Int32))), (.int ((((cl.getD i.toNatClampNeg 0) >>> ((0 : Int32) &&& 31)).toInt8.toInt32 &&& (255 : Int32)) <<< ((0 : Int32) &&& 31)))])) (fun t k => X3.baloadBytes hx (j := ((i <<< ((1 : Int32) &&& 31)) + (1 : Int32))) (v := (.int ((cl.getD i.toNatClampNeg 0) >>> ((8 : Int32) &&& 31)).toInt8.toInt32)) (by rw [e3]; exact Ar4.1) (State.isArrayOf_alike hZ.alike Ar4.2.1) Ar4.2.2 hin4 (Has.at Hs4 hin4 (own_at1 cl i h1 h2 hlen)) (g := (mkF m 48 #[.val (.ref b), .val (.int ((i <<< ((1 : Int32) &&& 31)) + (1 : Int32)))] [(.int ((i <<< ((1 : Int32) &&& 31)) + (1 : Int32))), (.ref b), (.int ((((cl.getD i.toNatClampNeg 0) >>> ((0 : Int32) &&& 31)).toInt8.toInt32 &&& (255 : Int32)) <<< ((0 : Int32) &&& 31)))])) rfl rfl (hb hby d28_48) _ (XS.sipush X3.here hx rfl (hb hby d28_49) (XS.iand X3.here hx rfl (hb hby d28_52) rfl k))) ?_
  obtain ⟨T5, X5, e5, st5⟩ := getS2 X3 hx hZ hown (host := "") (Or.inl (wq hw 120 rfl)) Via.refl e3 (S_LO_BYTE_SHIFT.ext O.2) (g := (mkF m 53 #[.val (.ref b), .val (.int ((i <<< ((1 : Int32) &&& 31)) + (1 : Int32)))] [(.int (((cl.getD i.toNatClampNeg 0) >>> ((8 : Int32) &&& 31)).toInt8.toInt32 &&& (255 : Int32))), (.int ((((cl.getD i.toNatClampNeg 0) >>> ((0 : Int32) &&& 31)).toInt8.toInt32 &&& (255 : Int32)) <<< ((0 : Int32) &&& 31)))])) rfl (hb hby d28_53)
  refine Goes.pre (U' := T5.setTop (mkF m 59 #[.val (.ref b), .val (.int ((i <<< ((1 : Int32) &&& 31)) + (1 : Int32)))] [(.int ((((((cl.getD i.toNatClampNeg 0) >>> ((0 : Int32) &&& 31)).toInt8.toInt32 &&& (255 : Int32)) <<< ((0 : Int32) &&& 31)) ||| ((((cl.getD i.toNatClampNeg 0) >>> ((8 : Int32) &&& 31)).toInt8.toInt32 &&& (255 : Int32)) <<< ((8 : Int32) &&& 31))).toUInt32.toUInt16.toUInt32.toInt32))])) (fun t k => st5 t (XS.ishl X5.here hx rfl (hb hby d28_56) rfl (XS.ior X5.here hx rfl (hb hby d28_57) rfl (XS.i2c X5.here hx rfl (hb hby d28_58) rfl k)))) ?_
  refine Goes.ret X5 (v := (some (.int (cl.getD i.toNatClampNeg 0)))) (fun h => by rw [hret] at h; cases h) hlk (by decide) (by decide) e5 (fun fs hr => retN X5 hx (t := .char) hret (by simp) (hb hby d28_59) (by rw [show nar .char ((((((cl.getD i.toNatClampNeg 0) >>> ((0 : Int32) &&& 31)).toInt8.toInt32 &&& (255 : Int32)) <<< ((0 : Int32) &&& 31)) ||| ((((cl.getD i.toNatClampNeg 0) >>> ((8 : Int32) &&& 31)).toInt8.toInt32 &&& (255 : Int32)) <<< ((8 : Int32) &&& 31))).toUInt32.toUInt16.toUInt32.toInt32) = (cl.getD i.toNatClampNeg 0) from own_u16 _ (own_gch cl i h1 h2 hlen hcA)]; exact hr)) ?_
  exact ⟨rfl, N0, rfl⟩
theorem ef_rm_uchG (m : MethodId) (x0 : Addr) (x1 : Int32) : entryFrame m #[(.ref x0), (.int x1)] 2 = mkF m 0 #[.val (.ref x0), .val (.int x1)] [] := by first | (simp [entryFrame, mkF, argsToLocals, Value.category]; done) | rfl
abbrev M29 : MethodName := ⟨"java/lang/StringUTF16", "charAt", "([BI)C"⟩
theorem d29_0 : decode jdk_52_method_83_code 0 = .ok (.iload_n 1, 1) := by decide +kernel
theorem d29_1 : decode jdk_52_method_83_code 1 = .ok (.aload_n 0, 1) := by decide +kernel
theorem d29_2 : decode jdk_52_method_83_code 2 = .ok (.invokestatic 67, 3) := by decide +kernel
theorem pd__28I_5bB_29V : parseMethodDescriptor "(I[B)V" = some ⟨[.int, (.array .byte)], none⟩ := by decide +kernel
theorem d29_5 : decode jdk_52_method_83_code 5 = .ok (.aload_n 0, 1) := by decide +kernel
theorem d29_6 : decode jdk_52_method_83_code 6 = .ok (.iload_n 1, 1) := by decide +kernel
theorem d29_7 : decode jdk_52_method_83_code 7 = .ok (.invokestatic 71, 3) := by decide +kernel
theorem pd__28_5bBI_29C : parseMethodDescriptor "([BI)C" = some ⟨[(.array .byte), .int], some .char⟩ := by decide +kernel
theorem d29_10 : decode jdk_52_method_83_code 10 = .ok (.ireturn, 1) := by decide +kernel
def Q_rm_uchG (Z : State) (b : Addr) (kb : ClassId) (cl : List Int32) (i : Int32) (sf : Value) (h0 : Heap) (n0 : Nat) (v : Option Value) (h : Heap) (L : List Loc) : Prop := v = some (.int (cl.getD i.toNatClampNeg 0)) ∧ Fr n0 L ∧ h = h0
set_option maxRecDepth 65536 in
set_option maxHeartbeats 40000000 in
theorem rm_uchG (l : Launch) (Z : State) (a0 : Array Value) (hw : ∀ d ∈ tables_1, d.before a0 Z = true) (ws : List Jvm.Cond) (b : Addr) (kb : ClassId) (cl : List Int32) (i : Int32) (sf : Value) (h0 : Heap) (n0 : Nat) (Z0 : n0 ≤ h0.size) (V_b : Arv Z h0 b kb .byte (Int32.ofNat (2 * cl.length)) (cl.flatMap fun c => [.int (c >>> ((0 : Int32) &&& 31)).toInt8.toInt32, .int (c >>> ((8 : Int32) &&& 31)).toInt8.toInt32]) (.int (0 : Int32))) (S__assertionsDisabled : Sta Z Z.heap "java/lang/StringUTF16" "$assertionsDisabled" "Z" (.int (1 : Int32))) (S_HI_BYTE_SHIFT : Sta Z Z.heap "java/lang/StringUTF16" "HI_BYTE_SHIFT" "I" (.int (0 : Int32))) (S_LO_BYTE_SHIFT : Sta Z Z.heap "java/lang/StringUTF16" "LO_BYTE_SHIFT" "I" (.int (8 : Int32))) (S_SIOOBE_FORMATTER : Sta Z Z.heap "jdk/internal/util/Preconditions" "SIOOBE_FORMATTER" "Ljava/util/function/BiFunction;" sf) (h1 : ¬ (i < (0 : Int32))) (h2 : i < Int32.ofNat cl.length) (hlen : cl.length ≤ 4096) (hcA : ∀ c ∈ cl, OwnCh c) (hsf : sf.isRef = true) (O : Old Z n0 h0) :
    Met l Z M29 jdk_52_method_83_code 2 (some .char) ws (Rm 3 0 0 40) #[(.ref b), (.int i)] h0 (Q_rm_uchG Z b kb cl i sf h0 n0) := by
  refine met_of (plainFor_of_name pn_java_lang_StringUTF16) (own := "java/lang/StringUTF16") rfl (fun m => ef_rm_uchG m b i) ?_
  intro p e s m below meth c s₁ hx hby hml hown hnm hZ X0 e0 hret hlk
  have N0 := Fr.nil n0
  show Goes p e below s _ _ _ (s₁.setTop (mkF m 0 #[.val (.ref b), .val (.int i)] []))
  refine Goes.pre (U' := s₁.setTop (mkF m 2 #[.val (.ref b), .val (.int i)] [(.ref b), (.int i)])) (fun t k => XS.iloadN X0.here hx rfl (hb hby d29_0) rfl (XS.aloadN X0.here hx rfl (hb hby d29_1) rfl rfl k)) ?_
  obtain ⟨_, _, ⟨T1, L1, k1, n1⟩, -, X1, ⟨Lc1, hQ1, l1, y1, z1⟩, st1⟩ := Jvm.LawKit.callS X0 hx (y := (⟨"java/lang/StringUTF16", "checkIndex", "(I[B)V"⟩ : MethodName)) hown (mvT hZ (wq hw 127 rfl)) (mvT hZ (wq hw 128 rfl)) (mvT hZ (wq hw 42 rfl)) (mvT hZ (wq hw 129 rfl)) (by decide) (backOf (W := 0) (rm_uIdxG l Z a0 hw [] b kb cl i sf h0 n0 Z0 V_b S_SIOOBE_FORMATTER h1 h2 hlen hsf O) hZ (wq hw 129 rfl) (wq hw 42 rfl) (by decide) (by decide)) (g := (mkF m 2 #[.val (.ref b), .val (.int i)] [(.ref b), (.int i)])) rfl (by rw [hml]; rfl) (argsL := [(.int i), (.ref b)]) (rest := []) (lenOf pd__28I_5bB_29V rfl) rfl (by show 2 * 0 + _ ≤ _; exact Nat.le_of_eq rfl) (hb hby d29_2) (fun _ _ => ⟨rfl, e0, (by decide : 0 + 0 ≤ _), (by decide : 0 + 0 ≤ _)⟩)
  dsimp only [Pt.U, Pt.locs, Pt.cells, Pt.slots] at X1 l1 y1 z1 st1 hQ1
  subst l1 y1 z1
  obtain ⟨rfl, N1q, HQ1⟩ := hQ1
  have N1 := Fr.app N0 N1q
  refine Goes.pre (U' := T1.setTop (mkF m 7 #[.val (.ref b), .val (.int i)] [(.int i), (.ref b)])) (fun t k => st1 t (XS.aloadN X1.here hx rfl (hb hby d29_5) rfl rfl (XS.iloadN X1.here hx rfl (hb hby d29_6) rfl k))) ?_
  obtain ⟨_, _, ⟨T2, L2, k2, n2⟩, -, X2, ⟨Lc2, hQ2, l2, y2, z2⟩, st2⟩ := Jvm.LawKit.callS X1 hx (y := (⟨"java/lang/StringUTF16", "getChar", "([BI)C"⟩ : MethodName)) hown (mvT hZ (wq hw 121 rfl)) (mvT hZ (wq hw 122 rfl)) (mvT hZ (wq hw 42 rfl)) (mvT hZ (wq hw 123 rfl)) (by decide) (backOf (W := 0) (rm_getChG l Z a0 hw [] b kb cl i h0 n0 Z0 V_b S__assertionsDisabled S_HI_BYTE_SHIFT S_LO_BYTE_SHIFT h1 h2 hlen hcA O) hZ (wq hw 123 rfl) (wq hw 42 rfl) (by decide) (by decide)) (g := (mkF m 7 #[.val (.ref b), .val (.int i)] [(.int i), (.ref b)])) rfl (by rw [hml]; rfl) (argsL := [(.ref b), (.int i)]) (rest := []) (lenOf pd__28_5bBI_29C rfl) rfl (by show 2 * 0 + _ ≤ _; exact Nat.le_of_eq rfl) (hb hby d29_7) (fun _ _ => ⟨rfl, HQ1, (by decide : 0 + 0 ≤ _), (by decide : 0 + 0 ≤ _)⟩)
  dsimp only [Pt.U, Pt.locs, Pt.cells, Pt.slots] at X2 l2 y2 z2 st2 hQ2
  subst l2 y2 z2
  obtain ⟨rfl, N2q, HQ2⟩ := hQ2
  have N2 := Fr.app N1 N2q
  refine Goes.pre (U' := T2.setTop (mkF m 10 #[.val (.ref b), .val (.int i)] [(.int (cl.getD i.toNatClampNeg 0))])) (fun t k => st2 t k) ?_
  refine Goes.ret X2 (v := (some (.int (cl.getD i.toNatClampNeg 0)))) (fun h => by rw [hret] at h; cases h) hlk (by decide) (by decide) HQ2 (fun fs hr => retN X2 hx (t := .char) hret (by simp) (hb hby d29_10) (by rw [show nar .char (cl.getD i.toNatClampNeg 0) = (cl.getD i.toNatClampNeg 0) from own_nch _ (own_gch cl i h1 h2 hlen hcA)]; exact hr)) ?_
  exact ⟨rfl, N2, rfl⟩
theorem ef_rm_chG (m : MethodId) (x0 : Addr) (x1 : Int32) : entryFrame m #[(.ref x0), (.int x1)] 2 = mkF m 0 #[.val (.ref x0), .val (.int x1)] [] := by first | (simp [entryFrame, mkF, argsToLocals, Value.category]; done) | rfl
abbrev M16 : MethodName := ⟨"java/lang/String", "charAt", "(I)C"⟩
theorem d16_0 : decode jdk_42_method_56_code 0 = .ok (.aload_n 0, 1) := by decide +kernel
theorem d16_1 : decode jdk_42_method_56_code 1 = .ok (.invokevirtual 492, 3) := by decide +kernel
theorem pd__28_29Z : parseMethodDescriptor "()Z" = some ⟨[], some .boolean⟩ := by decide +kernel
theorem d16_4 : decode jdk_42_method_56_code 4 = .ok (.ifCond .eq 12, 3) := by decide +kernel
theorem d16_7 : decode jdk_42_method_56_code 7 = .ok (.aload_n 0, 1) := by decide +kernel
theorem d16_8 : decode jdk_42_method_56_code 8 = .ok (.getfield 9, 3) := by decide +kernel
theorem d16_11 : decode jdk_42_method_56_code 11 = .ok (.iload_n 1, 1) := by decide +kernel
theorem d16_12 : decode jdk_42_method_56_code 12 = .ok (.invokestatic 495, 3) := by decide +kernel
theorem d16_15 : decode jdk_42_method_56_code 15 = .ok (.ireturn, 1) := by decide +kernel
theorem d16_16 : decode jdk_42_method_56_code 16 = .ok (.aload_n 0, 1) := by decide +kernel
theorem d16_17 : decode jdk_42_method_56_code 17 = .ok (.getfield 9, 3) := by decide +kernel
theorem d16_20 : decode jdk_42_method_56_code 20 = .ok (.iload_n 1, 1) := by decide +kernel
theorem d16_21 : decode jdk_42_method_56_code 21 = .ok (.invokestatic 498, 3) := by decide +kernel
theorem d16_24 : decode jdk_42_method_56_code 24 = .ok (.ireturn, 1) := by decide +kernel
def Q_rm_chG (Z : State) (a : Addr) (b : Addr) (kb : ClassId) (cl : List Int32) (i : Int32) (cs : Int32) (sf : Value) (h0 : Heap) (n0 : Nat) (v : Option Value) (h : Heap) (L : List Loc) : Prop := v = some (.int (cl.getD i.toNatClampNeg 0)) ∧ Fr n0 L ∧ h = h0
set_option maxRecDepth 65536 in
set_option maxHeartbeats 40000000 in
theorem rm_chG (l : Launch) (Z : State) (a0 : Array Value) (hw : ∀ d ∈ tables_1, d.before a0 Z = true) (ws : List Jvm.Cond) (a : Addr) (b : Addr) (kb : ClassId) (cl : List Int32) (i : Int32) (cs : Int32) (sf : Value) (h0 : Heap) (n0 : Nat) (Z0 : n0 ≤ h0.size) (S_a : OwnStr Z h0 a b kb cl) (S_COMPACT_STRINGS : Sta Z Z.heap "java/lang/String" "COMPACT_STRINGS" "Z" (.int cs)) (S__assertionsDisabled : Sta Z Z.heap "java/lang/StringUTF16" "$assertionsDisabled" "Z" (.int (1 : Int32))) (S_HI_BYTE_SHIFT : Sta Z Z.heap "java/lang/StringUTF16" "HI_BYTE_SHIFT" "I" (.int (0 : Int32))) (S_LO_BYTE_SHIFT : Sta Z Z.heap "java/lang/StringUTF16" "LO_BYTE_SHIFT" "I" (.int (8 : Int32))) (S_SIOOBE_FORMATTER : Sta Z Z.heap "jdk/internal/util/Preconditions" "SIOOBE_FORMATTER" "Ljava/util/function/BiFunction;" sf) (h1 : ¬ (i < (0 : Int32))) (h2 : i < Int32.ofNat cl.length) (hlen : cl.length ≤ 4096) (hcs : ¬ (cs = (0 : Int32))) (hsf : sf.isRef = true) (O : Old Z n0 h0) :
    Met l Z M16 jdk_42_method_56_code 2 (some .char) ws (Rm 4 0 0 53) #[(.ref a), (.int i)] h0 (Q_rm_chG Z a b kb cl i cs sf h0 n0) := by
  refine met_of (plainFor_of_name pn_java_lang_String) (own := "java/lang/String") rfl (fun m => ef_rm_chG m a i) ?_
  intro p e s m below meth c s₁ hx hby hml hown hnm hZ X0 e0 hret hlk
  have N0 := Fr.nil n0
  show Goes p e below s _ _ _ (s₁.setTop (mkF m 0 #[.val (.ref a), .val (.int i)] []))
  obtain ⟨E_a, F_value_a, hcA, hSt⟩ := S_a
  rcases hSt with ⟨F_coder_a, V_b, hleA⟩ | ⟨F_coder_a, V_b, hexA⟩
  ·
    refine Goes.pre (U' := s₁.setTop (mkF m 1 #[.val (.ref a), .val (.int i)] [(.ref a)])) (fun t k => XS.aloadN X0.here hx rfl (hb hby d16_0) rfl rfl k) ?_
    obtain ⟨cq1, kq1, q1a, q1b, q1c⟩ := isOf hZ e0 E_a
    obtain ⟨_, _, ⟨T1, L1, k1, n1⟩, -, X1, ⟨Lc1, hQ1, l1, y1, z1⟩, st1⟩ := X0.virtualBack hx (y := (⟨"java/lang/String", "isLatin1", "()Z"⟩ : MethodName)) (z := (⟨"java/lang/String", "isLatin1", "()Z"⟩ : MethodName)) hown (mvT hZ (wq hw 76 rfl)) (mvT hZ (wq hw 77 rfl)) (notFace_of_selects (args := #[]) (mvT hZ (wq hw 79 rfl))) (mvT hZ (wq hw 79 rfl)) (mvT hZ (wq hw 78 rfl)) (by decide) (backOf (W := 0) (rm_isL0 l Z a0 hw [] a cs h0 n0 Z0 S_COMPACT_STRINGS F_coder_a hcs O) hZ (wq hw 80 rfl) (wq hw 5 rfl) (by decide) (by decide)) q1a q1c (g := (mkF m 1 #[.val (.ref a), .val (.int i)] [(.ref a)])) rfl (by rw [hml]; rfl) (Steps.refl _) (argsL := []) (rest := []) (lenOf pd__28_29Z rfl) rfl (by show 2 * 0 + _ ≤ _; exact Nat.le_of_eq rfl) (hb hby d16_1) (fun _ _ => ⟨rfl, e0, (by decide : 0 + 0 ≤ _), (by decide : 0 + 0 ≤ _)⟩)
    dsimp only [Pt.U, Pt.locs, Pt.cells, Pt.slots] at X1 l1 y1 z1 st1 hQ1
    subst l1 y1 z1
    obtain ⟨rfl, N1q, HQ1⟩ := hQ1
    have N1 := Fr.app N0 N1q
    refine Goes.pre (U' := T1.setTop (mkF m 4 #[.val (.ref a), .val (.int i)] [(.int (1 : Int32))])) (fun t k => st1.trans k) ?_
    have hc4 : ¬ ((1 : Int32) = (0 : Int32)) := by decide
    refine Goes.pre (U' := T1.setTop (mkF m 8 #[.val (.ref a), .val (.int i)] [(.ref a)])) (fun t k => XS.ifNo X1.here hx rfl (hb hby d16_4) rfl ((if0 _ _).trans (feq hc4).1) (XS.aloadN X1.here hx rfl (hb hby d16_7) rfl rfl k)) ?_
    obtain ⟨T2, X2, e2, st2⟩ := getF X1 hx hZ hown (host := "") (Or.inl (wq hw 51 rfl)) Via.refl HQ1 F_value_a (g := (mkF m 8 #[.val (.ref a), .val (.int i)] [(.ref a)])) rfl rfl (hb hby d16_8)
    refine Goes.pre (U' := T2.setTop (mkF m 12 #[.val (.ref a), .val (.int i)] [(.int i), (.ref b)])) (fun t k => st2 t (XS.iloadN X2.here hx rfl (hb hby d16_11) rfl k)) ?_
    obtain ⟨_, _, ⟨T3, L3, k3, n3⟩, -, X3, ⟨Lc3, hQ3, l3, y3, z3⟩, st3⟩ := Jvm.LawKit.callS X2 hx (y := (⟨"java/lang/StringLatin1", "charAt", "([BI)C"⟩ : MethodName)) hown (mvT hZ (wq hw 81 rfl)) (mvT hZ (wq hw 82 rfl)) (mvT hZ (wq hw 55 rfl)) (mvT hZ (wq hw 83 rfl)) (by decide) (backOf (W := 0) (rm_l1chG l Z a0 hw [] b kb cl i sf h0 n0 Z0 V_b S_SIOOBE_FORMATTER h1 h2 hlen hcA hleA hsf O) hZ (wq hw 83 rfl) (wq hw 55 rfl) (by decide) (by decide)) (g := (mkF m 12 #[.val (.ref a), .val (.int i)] [(.int i), (.ref b)])) rfl (by rw [hml]; rfl) (argsL := [(.ref b), (.int i)]) (rest := []) (lenOf pd__28_5bBI_29C rfl) rfl (by show 2 * 0 + _ ≤ _; exact Nat.le_of_eq rfl) (hb hby d16_12) (fun _ _ => ⟨rfl, e2, (by decide : 0 + 0 ≤ _), (by decide : 0 + 0 ≤ _)⟩)
    dsimp only [Pt.U, Pt.locs, Pt.cells, Pt.slots] at X3 l3 y3 z3 st3 hQ3
    subst l3 y3 z3
    obtain ⟨rfl, N3q, HQ3⟩ := hQ3
    have N3 := Fr.app N1 N3q
    refine Goes.pre (U' := T3.setTop (mkF m 15 #[.val (.ref a), .val (.int i)] [(.int (cl.getD i.toNatClampNeg 0))])) (fun t k => st3 t k) ?_
    refine Goes.ret X3 (v := (some (.int (cl.getD i.toNatClampNeg 0)))) (fun h => by rw [hret] at h; cases h) hlk (by decide) (by decide) HQ3 (fun fs hr => retN X3 hx (t := .char) hret (by simp) (hb hby d16_15) (by rw [show nar .char (cl.getD i.toNatClampNeg 0) = (cl.getD i.toNatClampNeg 0) from own_nch _ (own_gch cl i h1 h2 hlen hcA)]; exact hr)) ?_
    exact ⟨rfl, N3, rfl⟩
  ·
    refine Goes.pre (U' := s₁.setTop (mkF m 1 #[.val (.ref a), .val (.int i)] [(.ref a)])) (fun t k => XS.aloadN X0.here hx rfl (hb hby d16_0) rfl rfl k) ?_
    obtain ⟨cq4, kq4, q4a, q4b, q4c⟩ := isOf hZ e0 E_a
    obtain ⟨_, _, ⟨T4, L4, k4, n4⟩, -, X4, ⟨Lc4, hQ4, l4, y4, z4⟩, st4⟩ := X0.virtualBack hx (y := (⟨"java/lang/String", "isLatin1", "()Z"⟩ : MethodName)) (z := (⟨"java/lang/String", "isLatin1", "()Z"⟩ : MethodName)) hown (mvT hZ (wq hw 76 rfl)) (mvT hZ (wq hw 77 rfl)) (notFace_of_selects (args := #[]) (mvT hZ (wq hw 79 rfl))) (mvT hZ (wq hw 79 rfl)) (mvT hZ (wq hw 78 rfl)) (by decide) (backOf (W := 0) (rm_isL1 l Z a0 hw [] a cs h0 n0 Z0 S_COMPACT_STRINGS F_coder_a hcs O) hZ (wq hw 80 rfl) (wq hw 5 rfl) (by decide) (by decide)) q4a q4c (g := (mkF m 1 #[.val (.ref a), .val (.int i)] [(.ref a)])) rfl (by rw [hml]; rfl) (Steps.refl _) (argsL := []) (rest := []) (lenOf pd__28_29Z rfl) rfl (by show 2 * 0 + _ ≤ _; exact Nat.le_of_eq rfl) (hb hby d16_1) (fun _ _ => ⟨rfl, e0, (by decide : 0 + 0 ≤ _), (by decide : 0 + 0 ≤ _)⟩)
    dsimp only [Pt.U, Pt.locs, Pt.cells, Pt.slots] at X4 l4 y4 z4 st4 hQ4
    subst l4 y4 z4
    obtain ⟨rfl, N4q, HQ4⟩ := hQ4
    have N4 := Fr.app N0 N4q
    refine Goes.pre (U' := T4.setTop (mkF m 4 #[.val (.ref a), .val (.int i)] [(.int (0 : Int32))])) (fun t k => st4.trans k) ?_
    have hc4 : (0 : Int32) = (0 : Int32) := rfl
    refine Goes.pre (U' := T4.setTop (mkF m 17 #[.val (.ref a), .val (.int i)] [(.ref a)])) (fun t k => XS.ifYes X4.here hx rfl (pc0 := 4) (pc' := 16) rfl (hb hby d16_4) rfl ((if0 _ _).trans (teq hc4).1) (by decide) (by decide) (XS.aloadN X4.here hx rfl (hb hby d16_16) rfl rfl k)) ?_
    obtain ⟨T5, X5, e5, st5⟩ := getF X4 hx hZ hown (host := "") (Or.inl (wq hw 51 rfl)) Via.refl HQ4 F_value_a (g := (mkF m 17 #[.val (.ref a), .val (.int i)] [(.ref a)])) rfl rfl (hb hby d16_17)
    refine Goes.pre (U' := T5.setTop (mkF m 21 #[.val (.ref a), .val (.int i)] [(.int i), (.ref b)])) (fun t k => st5 t (XS.iloadN X5.here hx rfl (hb hby d16_20) rfl k)) ?_
    obtain ⟨_, _, ⟨T6, L6, k6, n6⟩, -, X6, ⟨Lc6, hQ6, l6, y6, z6⟩, st6⟩ := Jvm.LawKit.callS X5 hx (y := (⟨"java/lang/StringUTF16", "charAt", "([BI)C"⟩ : MethodName)) hown (mvT hZ (wq hw 124 rfl)) (mvT hZ (wq hw 125 rfl)) (mvT hZ (wq hw 42 rfl)) (mvT hZ (wq hw 126 rfl)) (by decide) (backOf (W := 0) (rm_uchG l Z a0 hw [] b kb cl i sf h0 n0 Z0 V_b S__assertionsDisabled S_HI_BYTE_SHIFT S_LO_BYTE_SHIFT S_SIOOBE_FORMATTER h1 h2 hlen hcA hsf O) hZ (wq hw 126 rfl) (wq hw 42 rfl) (by decide) (by decide)) (g := (mkF m 21 #[.val (.ref a), .val (.int i)] [(.int i), (.ref b)])) rfl (by rw [hml]; rfl) (argsL := [(.ref b), (.int i)]) (rest := []) (lenOf pd__28_5bBI_29C rfl) rfl (by show 2 * 0 + _ ≤ _; exact Nat.le_of_eq rfl) (hb hby d16_21) (fun _ _ => ⟨rfl, e5, (by decide : 0 + 0 ≤ _), (by decide : 0 + 0 ≤ _)⟩)
    dsimp only [Pt.U, Pt.locs, Pt.cells, Pt.slots] at X6 l6 y6 z6 st6 hQ6
    subst l6 y6 z6
    obtain ⟨rfl, N6q, HQ6⟩ := hQ6
    have N6 := Fr.app N4 N6q
    refine Goes.pre (U' := T6.setTop (mkF m 24 #[.val (.ref a), .val (.int i)] [(.int (cl.getD i.toNatClampNeg 0))])) (fun t k => st6 t k) ?_
    refine Goes.ret X6 (v := (some (.int (cl.getD i.toNatClampNeg 0)))) (fun h => by rw [hret] at h; cases h) hlk (by decide) (by decide) HQ6 (fun fs hr => retN X6 hx (t := .char) hret (by simp) (hb hby d16_24) (by rw [show nar .char (cl.getD i.toNatClampNeg 0) = (cl.getD i.toNatClampNeg 0) from own_nch _ (own_gch cl i h1 h2 hlen hcA)]; exact hr)) ?_
    exact ⟨rfl, N6, rfl⟩
def OwnByt (Z : State) (h : Heap) (b : Addr) (kb : ClassId) (cl : List Int32) : Prop :=
  (Arv Z h b kb .byte (Int32.ofNat cl.length) (cl.map fun c => .int c.toInt8.toInt32) (.int (0 : Int32)) ∧ ∀ c ∈ cl, ¬ ((255 : Int32) < c)) ∨
  (Arv Z h b kb .byte (Int32.ofNat (2 * cl.length)) (cl.flatMap fun c => [.int (c >>> ((0 : Int32) &&& 31)).toInt8.toInt32, .int (c >>> ((8 : Int32) &&& 31)).toInt8.toInt32]) (.int (0 : Int32)) ∧ ∃ c ∈ cl, (255 : Int32) < c)
theorem OwnByt.ext {Z : State} {h h' : Heap} {b : Addr} {kb : ClassId} {cs : List Int32} (F : OwnByt Z h b kb cs) (E : Ext h h') : OwnByt Z h' b kb cs := by
  rcases F with ⟨q1, q2⟩ | ⟨q1, q2⟩
  · exact Or.inl ⟨q1.ext E, q2⟩
  · exact Or.inr ⟨q1.ext E, q2⟩
theorem OwnByt.keep {Z : State} {h h' : Heap} {b : Addr} {kb : ClassId} {cs : List Int32} {ws : List Addr} (F : OwnByt Z h b kb cs) (K : Keep h h' ws) (n1 : b ∉ ws) : OwnByt Z h' b kb cs := by
  rcases F with ⟨q1, q2⟩ | ⟨q1, q2⟩
  · exact Or.inl ⟨q1.keep K n1, q2⟩
  · exact Or.inr ⟨q1.keep K n1, q2⟩
theorem OwnByt.lt {Z : State} {h : Heap} {b : Addr} {kb : ClassId} {cs : List Int32} (F : OwnByt Z h b kb cs) : b < h.size := by
  rcases F with ⟨q1, q2⟩ | ⟨q1, q2⟩ <;> exact q1.lt
theorem own_push {Z : State} {h h' : Heap} {a : Addr} {k : ClassId} {ty : FieldType} {z j : Int32} {vs : List Value} {v dv : Value} {c : Cell} (A : Arr Z h a c ty) (q1 : c.cls = k) (S : c.slots.size = z.toNatClampNeg) (q3 : ¬ z < 0) (H : Has c vs dv) (G : ∀ i, i < c.slots.size → fits ty (vs.getD i dv) = true) (hv : fits ty v = true) (W : Wr h h' a j.toNatClampNeg v) (hj : j.toNatClampNeg = vs.length) : Arv Z h' a k ty z (vs ++ [v]) dv := by
  obtain ⟨c', A', p1, p2, p3, p4, p5⟩ := (show Arv Z h a k ty z vs dv from ⟨c, A, q1, S, q3, H, G⟩).pad (pad_rep vs dv 1)
  obtain rfl : c = c' := Option.some.inj (A.1.symm.trans A'.1)
  have q := Arv.set A' p1 p2 p3 p4 p5 hv W vs.length hj (by simp)
  have e : (vs ++ List.replicate 1 dv).set vs.length v = vs ++ [v] := by simp
  rw [e] at q
  exact q
theorem own_inc (i : Nat) : Int32.ofNat i + (1 : Int32) = Int32.ofNat (i + 1) := (Int32.ofNat_add i 1).symm
theorem own_ixn (i : Nat) (h : i ≤ 8192) : (Int32.ofNat i).toNatClampNeg = i := by
  have a := own_ofn i h
  have b := nat_of (j := Int32.ofNat i) (by rw [Int32.lt_iff_toInt_lt, a, show (0 : Int32).toInt = 0 from by decide]; omega)
  omega
theorem own_ix (i n : Nat) (h : i < n) (hn : n ≤ 8192) : ¬ (Int32.ofNat i < (0 : Int32)) ∧ Int32.ofNat i < Int32.ofNat n := by
  have a := own_ofn i (by omega)
  have b := own_ofn n hn
  rw [Int32.lt_iff_toInt_lt, Int32.lt_iff_toInt_lt, a, b, show (0 : Int32).toInt = 0 from by decide]
  omega
theorem own_neg (n : Nat) (hn : n ≤ 8192) : ¬ (Int32.ofNat n < (0 : Int32)) := by
  have b := own_ofn n hn
  rw [Int32.lt_iff_toInt_lt, b, show (0 : Int32).toInt = 0 from by decide]
  omega
theorem own_lti (i n : Nat) (h : Int32.ofNat i < Int32.ofNat n) (hi : i ≤ n) (hn : n ≤ 8192) : i < n := by
  have a := own_ofn i (by omega)
  have b := own_ofn n hn
  rw [Int32.lt_iff_toInt_lt, a, b] at h
  omega
theorem own_nlti (i n : Nat) (h : ¬ (Int32.ofNat i < Int32.ofNat n)) (hi : i ≤ n) (hn : n ≤ 8192) : i = n := by
  have a := own_ofn i (by omega)
  have b := own_ofn n hn
  rw [Int32.lt_iff_toInt_lt, a, b] at h
  omega
theorem own_nei (i n : Nat) (h : i < n) (hn : n ≤ 8192) : ¬ (Int32.ofNat i = Int32.ofNat n) := fun q => by
  have a := own_ofn i (by omega)
  have b := own_ofn n hn
  rw [q] at a
  omega
theorem own_ne0 (cl : List Int32) (h : cl ≠ []) (hn : cl.length ≤ 8192) : ¬ (Int32.ofNat cl.length = (0 : Int32)) := fun q => by
  have b := own_ofn cl.length hn
  rw [q, show (0 : Int32).toInt = 0 from by decide] at b
  exact h (List.length_eq_zero_iff.mp (by omega))
theorem own_getm (cl : List Int32) (i : Nat) (h : i < cl.length) (hn : cl.length ≤ 8192) : (cl.map Value.int).getD (Int32.ofNat i).toNatClampNeg (.int (0 : Int32)) = .int (cl.getD i 0) := by
  rw [own_ixn i (by omega)]
  simp [List.getD_eq_getElem?_getD, h]
theorem own_tks (cl : List Int32) (i : Nat) (h : i < cl.length) : cl.take i ++ [cl.getD i 0] = cl.take (i + 1) := by
  rw [List.take_add_one, List.getD_eq_getElem?_getD, List.getElem?_eq_getElem h]
  rfl
theorem own_tkm (f : Int32 → Value) (cl : List Int32) (i : Nat) (h : i < cl.length) : (cl.take i).map f ++ [f (cl.getD i 0)] = (cl.take (i + 1)).map f := by
  rw [← own_tks cl i h, List.map_append]
  rfl
theorem own_tkf (f g : Int32 → Value) (cl : List Int32) (i : Nat) (h : i < cl.length) : ((cl.take i).flatMap fun c => [f c, g c]) ++ [f (cl.getD i 0)] ++ [g (cl.getD i 0)] = (cl.take (i + 1)).flatMap fun c => [f c, g c] := by
  rw [← own_tks cl i h, List.flatMap_append]
  simp
theorem own_fml (f g : Int32 → Value) (cl : List Int32) (i : Nat) (h : i ≤ cl.length) : ((cl.take i).flatMap fun c => [f c, g c]).length = 2 * i := by
  have q : ∀ l : List Int32, (l.flatMap fun c => [f c, g c]).length = 2 * l.length := fun l => by
    induction l with
    | nil => rfl
    | cons a l ih => simp only [List.flatMap_cons, List.length_append, ih, List.length_cons, List.length_nil]; omega
  rw [q, List.length_take]
  omega
theorem own_tkl (cl : List Int32) (i : Nat) (h : i < cl.length) (q : ∀ c ∈ cl.take i, ¬ ((255 : Int32) < c)) (r : ¬ ((255 : Int32) < cl.getD i 0)) : ∀ c ∈ cl.take (i + 1), ¬ ((255 : Int32) < c) := by
  rw [← own_tks cl i h]
  intro c hc
  rcases List.mem_append.mp hc with k | k
  · exact q c k
  · rw [List.mem_singleton.mp k]
    exact r
theorem own_gmem (cl : List Int32) (i : Nat) (h : i < cl.length) : cl.getD i 0 ∈ cl := by
  rw [List.getD_eq_getElem?_getD, List.getElem?_eq_getElem h]
  exact List.getElem_mem h
theorem own_shl (n : Nat) (hn : n ≤ 4096) : Int32.ofNat (2 * n) = Int32.ofNat n <<< ((1 : Int32) &&& 31) := by
  have a := c_ishl (Int32.ofNat n) 1 1 (by decide)
  have b := own_ofn n (by omega)
  have d := own_ofn (2 * n) (by omega)
  have r := rng32 (Int32.ofNat n <<< ((1 : Int32) &&& 31))
  apply Int32.toInt_inj.mp
  omega
theorem own_sh1 (i : Nat) (hi : i ≤ 4095) : (Int32.ofNat i <<< ((1 : Int32) &&& 31)) = Int32.ofNat (2 * i) ∧ (Int32.ofNat i <<< ((1 : Int32) &&& 31)) + (1 : Int32) = Int32.ofNat (2 * i + 1) := by
  rw [← own_shl i (by omega)]
  exact ⟨rfl, own_inc _⟩
theorem own_p0 (i n : Nat) (h : 2 * i + 1 < n) (hn : n ≤ 8192) : ¬ ((Int32.ofNat i <<< ((1 : Int32) &&& 31)) < 0) ∧ (Int32.ofNat i <<< ((1 : Int32) &&& 31)) < Int32.ofNat n := by
  rw [(own_sh1 i (by omega)).1]
  exact own_ix _ _ (by omega) hn
theorem own_p1 (i n : Nat) (h : 2 * i + 1 < n) (hn : n ≤ 8192) : ¬ (((Int32.ofNat i <<< ((1 : Int32) &&& 31)) + (1 : Int32)) < 0) ∧ ((Int32.ofNat i <<< ((1 : Int32) &&& 31)) + (1 : Int32)) < Int32.ofNat n := by
  rw [(own_sh1 i (by omega)).2]
  exact own_ix _ _ (by omega) hn
theorem own_c0 : nar .byte ((((Int32.ofNat n - Int32.ofNat n).toUInt32 >>> ((31 : Int32) &&& 31).toUInt32).toInt32).toInt8.toInt32) = (0 : Int32) := by
  rw [Int32.sub_self]
  decide
theorem own_c1 (n : Nat) (h : 0 < n) (hn : n ≤ 4096) : nar .byte ((((Int32.ofNat n - Int32.ofNat (2 * n)).toUInt32 >>> ((31 : Int32) &&& 31).toUInt32).toInt32).toInt8.toInt32) = (1 : Int32) := by
  have a := c_isub (Int32.ofNat n) (Int32.ofNat (2 * n))
  have b := own_ofn n (by omega)
  have d := own_ofn (2 * n) (by omega)
  have r := rng32 (Int32.ofNat n - Int32.ofNat (2 * n))
  have q := c_iushr (Int32.ofNat n - Int32.ofNat (2 * n)) 31 31 (by decide) (by decide)
  have e : ((Int32.ofNat n - Int32.ofNat (2 * n)).toUInt32 >>> ((31 : Int32) &&& 31).toUInt32).toInt32 = (1 : Int32) := by
    apply Int32.toInt_inj.mp
    have k : (1 : Int32).toInt = 1 := by decide
    omega
  rw [e]
  decide
theorem own_cA {c : Int32} {cs : List Int32} (h : OwnCh c) (hs : ∀ x ∈ cs, OwnCh x) : ∀ x ∈ c :: cs, OwnCh x := by
  intro x hx
  rcases List.mem_cons.mp hx with q | q
  · rw [q]; exact h
  · exact hs x q
theorem own_cN : ∀ x ∈ ([] : List Int32), OwnCh x := fun x hx => by cases hx
theorem ef_rm_cmpIG (m : MethodId) (x0 : Addr) (x1 : Int32) (x2 : Addr) (x3 : Int32) (x4 : Int32) : entryFrame m #[(.ref x0), (.int x1), (.ref x2), (.int x3), (.int x4)] 7 = mkF m 0 #[.val (.ref x0), .val (.int x1), .val (.ref x2), .val (.int x3), .val (.int x4), .unset, .unset] [] := by first | (simp [entryFrame, mkF, argsToLocals, Value.category]; done) | rfl
abbrev M10 : MethodName := ⟨"java/lang/StringUTF16", "compress", "([CI[BII)I"⟩
theorem d10_0 : decode jdk_52_method_21_code 0 = .ok (.iconst 0, 1) := by decide +kernel
theorem d10_1 : decode jdk_52_method_21_code 1 = .ok (.istore 5, 2) := by decide +kernel
theorem d10_3 : decode jdk_52_method_21_code 3 = .ok (.iload 5, 2) := by decide +kernel
theorem d10_5 : decode jdk_52_method_21_code 5 = .ok (.iload 4, 2) := by decide +kernel
theorem d10_7 : decode jdk_52_method_21_code 7 = .ok (.if_icmp .ge 37, 3) := by decide +kernel
theorem d10_10 : decode jdk_52_method_21_code 10 = .ok (.aload_n 0, 1) := by decide +kernel
theorem d10_11 : decode jdk_52_method_21_code 11 = .ok (.iload_n 1, 1) := by decide +kernel
theorem d10_12 : decode jdk_52_method_21_code 12 = .ok (.caload, 1) := by decide +kernel
theorem d10_13 : decode jdk_52_method_21_code 13 = .ok (.istore 6, 2) := by decide +kernel
theorem d10_15 : decode jdk_52_method_21_code 15 = .ok (.iload 6, 2) := by decide +kernel
theorem d10_17 : decode jdk_52_method_21_code 17 = .ok (.sipush 255, 3) := by decide +kernel
theorem d10_20 : decode jdk_52_method_21_code 20 = .ok (.if_icmp .le 6, 3) := by decide +kernel
theorem d10_23 : decode jdk_52_method_21_code 23 = .ok (.iload 5, 2) := by decide +kernel
theorem d10_25 : decode jdk_52_method_21_code 25 = .ok (.ireturn, 1) := by decide +kernel
theorem d10_26 : decode jdk_52_method_21_code 26 = .ok (.aload_n 2, 1) := by decide +kernel
theorem d10_27 : decode jdk_52_method_21_code 27 = .ok (.iload_n 3, 1) := by decide +kernel
theorem d10_28 : decode jdk_52_method_21_code 28 = .ok (.iload 6, 2) := by decide +kernel
theorem d10_30 : decode jdk_52_method_21_code 30 = .ok (.i2b, 1) := by decide +kernel
theorem d10_31 : decode jdk_52_method_21_code 31 = .ok (.bastore, 1) := by decide +kernel
theorem d10_32 : decode jdk_52_method_21_code 32 = .ok (.iinc 1 1, 3) := by decide +kernel
theorem d10_35 : decode jdk_52_method_21_code 35 = .ok (.iinc 3 1, 3) := by decide +kernel
theorem d10_38 : decode jdk_52_method_21_code 38 = .ok (.iinc 5 1, 3) := by decide +kernel
theorem d10_41 : decode jdk_52_method_21_code 41 = .ok (.goto (-38), 3) := by decide +kernel
theorem d10_44 : decode jdk_52_method_21_code 44 = .ok (.iload 4, 2) := by decide +kernel
theorem d10_46 : decode jdk_52_method_21_code 46 = .ok (.ireturn, 1) := by decide +kernel
def Q_rm_cmpIG (Z : State) (d : Addr) (kd : ClassId) (b : Addr) (kb : ClassId) (cl : List Int32) (h0 : Heap) (n0 : Nat) (v : Option Value) (h : Heap) (L : List Loc) : Prop := ∃ (j : Nat) (vs : List Value), v = some (.int (Int32.ofNat j)) ∧ Fr n0 L ∧ Keep h0 h [b] ∧ Arv Z h b kb .byte (Int32.ofNat cl.length) vs (.int (0 : Int32)) ∧ ((j = cl.length ∧ vs = (cl.map fun c => .int c.toInt8.toInt32) ∧ ∀ c ∈ cl, ¬ ((255 : Int32) < c)) ∨ (j < cl.length ∧ (255 : Int32) < cl.getD j 0))
set_option maxRecDepth 65536 in
set_option maxHeartbeats 40000000 in
theorem rm_cmpIG (l : Launch) (Z : State) (a0 : Array Value) (hw : ∀ d ∈ tables_1, d.before a0 Z = true) (ws : List Jvm.Cond) (d : Addr) (kd : ClassId) (b : Addr) (kb : ClassId) (cl : List Int32) (h0 : Heap) (n0 : Nat) (Z0 : n0 ≤ h0.size) (V_d : Arv Z h0 d kd .char (Int32.ofNat cl.length) (cl.map Value.int) (.int (0 : Int32))) (V_b : Arv Z h0 b kb .byte (Int32.ofNat cl.length) [] (.int (0 : Int32))) (hlen : cl.length ≤ 3) (ne_d_b : d ≠ b) (g_b : n0 ≤ b) :
    Met l Z M10 jdk_52_method_21_code 7 (some .int) ws (Rm 0 0 0 0) #[(.ref d), (.int (0 : Int32)), (.ref b), (.int (0 : Int32)), (.int (Int32.ofNat cl.length))] h0 (Q_rm_cmpIG Z d kd b kb cl h0 n0) := by
  refine met_of (plainFor_of_name pn_java_lang_StringUTF16) (own := "java/lang/StringUTF16") rfl (fun m => ef_rm_cmpIG m d (0 : Int32) b (0 : Int32) (Int32.ofNat cl.length)) ?_
  intro p e s m below meth c s₁ hx hby hml hown hnm hZ X0 e0 hret hlk
  have N0 := Fr.nil n0
  have K0 := Keep.refl h0 [b]
  show Goes p e below s _ _ _ (s₁.setTop (mkF m 0 #[.val (.ref d), .val (.int (0 : Int32)), .val (.ref b), .val (.int (0 : Int32)), .val (.int (Int32.ofNat cl.length)), .unset, .unset] []))
  refine Goes.pre (U' := s₁.setTop (mkF m 3 #[.val (.ref d), .val (.int (0 : Int32)), .val (.ref b), .val (.int (0 : Int32)), .val (.int (Int32.ofNat cl.length)), .val (.int (0 : Int32)), .unset] [])) (fun t k => XS.iconst X0.here hx rfl (hb hby d10_0) (XS.istore X0.here hx rfl (hb hby d10_1) rfl (l' := #[.val (.ref d), .val (.int (0 : Int32)), .val (.ref b), .val (.int (0 : Int32)), .val (.int (Int32.ofNat cl.length)), .val (.int (0 : Int32)), .unset]) rfl k)) ?_
  have J3_1 : ∀ (kk : Nat) (i : Nat) (sl : Slot) (hs : sl = .unset ∨ ∃ z, sl = .val (.int z)) (hi : i ≤ cl.length) (hl : ∀ c ∈ cl.take i, ¬ ((255 : Int32) < c)) (hm : cl.length - i = kk) (T1 : State) (h1 : Heap) (lc1 : List Loc), Stand p l e (Rm 0 0 0 0) s m #[(.ref d), (.int (0 : Int32)), (.ref b), (.int (0 : Int32)), (.int (Int32.ofNat cl.length))] below meth c T1 lc1 0 0 → T1.heap = h1 → Fr n0 lc1 → n0 ≤ h1.size → Keep h0 h1 [b] → Arv Z h1 d kd .char (Int32.ofNat cl.length) (cl.map Value.int) (.int (0 : Int32)) → Arv Z h1 b kb .byte (Int32.ofNat cl.length) ((cl.take i).map fun c => .int c.toInt8.toInt32) (.int (0 : Int32)) → Goes p e below s (Q_rm_cmpIG Z d kd b kb cl h0 n0) (Rm 0 0 0 0).cells (Rm 0 0 0 0).slots (T1.setTop (mkF m 3 #[.val (.ref d), .val (.int (Int32.ofNat i)), .val (.ref b), .val (.int (Int32.ofNat i)), .val (.int (Int32.ofNat cl.length)), .val (.int (Int32.ofNat i)), sl] [])) := by
    intro kk
    induction kk using Nat.strongRecOn with
    | ind kk ih =>
      intro i sl hs hi hl hm T1 h1 lc1 X1 e1 N1 Z1 K1 V_d V_b
      rcases hs with rfl | ⟨z6, rfl⟩
      ·
        refine Goes.pre (U' := T1.setTop (mkF m 7 #[.val (.ref d), .val (.int (Int32.ofNat i)), .val (.ref b), .val (.int (Int32.ofNat i)), .val (.int (Int32.ofNat cl.length)), .val (.int (Int32.ofNat i)), .unset] [(.int (Int32.ofNat cl.length)), (.int (Int32.ofNat i))])) (fun t k => XS.iload X1.here hx rfl (hb hby d10_3) rfl (XS.iload X1.here hx rfl (hb hby d10_5) rfl k)) ?_
        by_cases hc7 : (Int32.ofNat i) < (Int32.ofNat cl.length)
        ·
          refine Goes.pre (U' := T1.setTop (mkF m 12 #[.val (.ref d), .val (.int (Int32.ofNat i)), .val (.ref b), .val (.int (Int32.ofNat i)), .val (.int (Int32.ofNat cl.length)), .val (.int (Int32.ofNat i)), .unset] [(.int (Int32.ofNat i)), (.ref d)])) (fun t k => XS.icmpNo X1.here hx rfl (hb hby d10_7) rfl (tlt hc7).2.1 (XS.aloadN X1.here hx rfl (hb hby d10_10) rfl rfl (XS.iloadN X1.here hx rfl (hb hby d10_11) rfl k))) ?_
          obtain ⟨cl2, Ar2, q2, Sz2, Ng2, Hs2, Ft2⟩ := id V_d
          have hin2 := inb_of (j := (Int32.ofNat i)) Sz2 (own_ix i _ (own_lti _ _ hc7 hi (Nat.le_trans hlen (by decide))) (Nat.le_trans hlen (by decide)))
          refine Goes.pre (U' := T1.setTop (mkF m 20 #[.val (.ref d), .val (.int (Int32.ofNat i)), .val (.ref b), .val (.int (Int32.ofNat i)), .val (.int (Int32.ofNat cl.length)), .val (.int (Int32.ofNat i)), .val (.int (cl.getD i 0))] [(.int (255 : Int32)), (.int (cl.getD i 0))])) (fun t k => X1.caload hx (j := (Int32.ofNat i)) (v := (.int (cl.getD i 0))) (by rw [e1]; exact Ar2.1) (State.isArrayOf_alike hZ.alike Ar2.2.1) Ar2.2.2 hin2 (Has.at Hs2 hin2 (own_getm cl i (own_lti _ _ hc7 hi (Nat.le_trans hlen (by decide))) (Nat.le_trans hlen (by decide)))) (g := (mkF m 12 #[.val (.ref d), .val (.int (Int32.ofNat i)), .val (.ref b), .val (.int (Int32.ofNat i)), .val (.int (Int32.ofNat cl.length)), .val (.int (Int32.ofNat i)), .unset] [(.int (Int32.ofNat i)), (.ref d)])) rfl rfl (hb hby d10_12) _ (XS.istore X1.here hx rfl (hb hby d10_13) rfl (l' := #[.val (.ref d), .val (.int (Int32.ofNat i)), .val (.ref b), .val (.int (Int32.ofNat i)), .val (.int (Int32.ofNat cl.length)), .val (.int (Int32.ofNat i)), .val (.int (cl.getD i 0))]) rfl (XS.iload X1.here hx rfl (hb hby d10_15) rfl (XS.sipush X1.here hx rfl (hb hby d10_17) k)))) ?_
          by_cases hc20 : (255 : Int32) < (cl.getD i 0)
          ·
            refine Goes.pre (U' := T1.setTop (mkF m 25 #[.val (.ref d), .val (.int (Int32.ofNat i)), .val (.ref b), .val (.int (Int32.ofNat i)), .val (.int (Int32.ofNat cl.length)), .val (.int (Int32.ofNat i)), .val (.int (cl.getD i 0))] [(.int (Int32.ofNat i))])) (fun t k => XS.icmpNo X1.here hx rfl (hb hby d10_20) rfl (tlt hc20).2.2.2 (XS.iload X1.here hx rfl (hb hby d10_23) rfl k)) ?_
            refine Goes.ret X1 (v := (some (.int (Int32.ofNat i)))) (fun h => by rw [hret] at h; cases h) hlk (by decide) (by decide) e1 (fun fs hr => retI X1 hx hret (hb hby d10_25) hr) ?_
            exact ⟨i, _, rfl, N1, K1, V_b, Or.inr ⟨own_lti _ _ hc7 hi (Nat.le_trans hlen (by decide)), hc20⟩⟩
          ·
            refine Goes.pre (U' := T1.setTop (mkF m 31 #[.val (.ref d), .val (.int (Int32.ofNat i)), .val (.ref b), .val (.int (Int32.ofNat i)), .val (.int (Int32.ofNat cl.length)), .val (.int (Int32.ofNat i)), .val (.int (cl.getD i 0))] [(.int ((cl.getD i 0).toInt8.toInt32)), (.int (Int32.ofNat i)), (.ref b)])) (fun t k => XS.icmpYes X1.here hx rfl (pc0 := 20) (pc' := 26) rfl (hb hby d10_20) rfl (flt hc20).2.2.2 (by decide) (by decide) (XS.aloadN X1.here hx rfl (hb hby d10_26) rfl rfl (XS.iloadN X1.here hx rfl (hb hby d10_27) rfl (XS.iload X1.here hx rfl (hb hby d10_28) rfl (XS.i2b X1.here hx rfl (hb hby d10_30) rfl k))))) ?_
            obtain ⟨cl3, Ar3, q3, Sz3, Ng3, Hs3, Ft3⟩ := id V_b
            obtain ⟨T3, h3, X3, e3, W3, st3⟩ := stB X1 hx hZ e1 Ar3 (j := (Int32.ofNat i)) (inb_of Sz3 (own_ix i _ (own_lti _ _ hc7 hi (Nat.le_trans hlen (by decide))) (Nat.le_trans hlen (by decide)))) (g := (mkF m 31 #[.val (.ref d), .val (.int (Int32.ofNat i)), .val (.ref b), .val (.int (Int32.ofNat i)), .val (.int (Int32.ofNat cl.length)), .val (.int (Int32.ofNat i)), .val (.int (cl.getD i 0))] [(.int ((cl.getD i 0).toInt8.toInt32)), (.int (Int32.ofNat i)), (.ref b)])) rfl rfl (hb hby d10_31)
            have nr3 : nar .byte ((cl.getD i 0).toInt8.toInt32) = ((cl.getD i 0).toInt8.toInt32) := own_bb _
            have ft3 : fits .byte (.int ((cl.getD i 0).toInt8.toInt32)) = true := nr3 ▸ (fits_nar_byte ((cl.getD i 0).toInt8.toInt32) : fits .byte (.int (nar .byte ((cl.getD i 0).toInt8.toInt32))) = true)
            rw [nr3] at W3
            have V_d := V_d.other W3 ne_d_b
            have Z3 : n0 ≤ h3.size := Nat.le_trans Z1 (Keep.of_wr W3).1
            have V_b : Arv Z h3 b kb .byte (Int32.ofNat cl.length) (((cl.take i).map fun c => .int c.toInt8.toInt32) ++ [.int ((cl.getD i 0).toInt8.toInt32)]) (.int (0 : Int32)) := own_push Ar3 q3 Sz3 Ng3 Hs3 Ft3 ft3 W3 (by rw [own_ixn i (Nat.le_trans hi (Nat.le_trans hlen (by decide))), List.length_map, List.length_take, Nat.min_eq_left hi])
            have K3 := K1.wr W3 (Or.inl (List.mem_of_getElem? (i := 0) rfl))
            have N3 := Fr.snoc X3 N1 g_b
            refine Goes.pre (U' := T3.setTop (mkF m 41 #[.val (.ref d), .val (.int ((Int32.ofNat i) + (1 : Int32))), .val (.ref b), .val (.int ((Int32.ofNat i) + (1 : Int32))), .val (.int (Int32.ofNat cl.length)), .val (.int ((Int32.ofNat i) + (1 : Int32))), .val (.int (cl.getD i 0))] [])) (fun t k => st3 t (XT.iincV X3.here hx rfl (1 : Int32) (hb hby d10_32) (by decide) rfl (l' := #[.val (.ref d), .val (.int ((Int32.ofNat i) + (1 : Int32))), .val (.ref b), .val (.int (Int32.ofNat i)), .val (.int (Int32.ofNat cl.length)), .val (.int (Int32.ofNat i)), .val (.int (cl.getD i 0))]) rfl (XT.iincV X3.here hx rfl (1 : Int32) (hb hby d10_35) (by decide) rfl (l' := #[.val (.ref d), .val (.int ((Int32.ofNat i) + (1 : Int32))), .val (.ref b), .val (.int ((Int32.ofNat i) + (1 : Int32))), .val (.int (Int32.ofNat cl.length)), .val (.int (Int32.ofNat i)), .val (.int (cl.getD i 0))]) rfl (XT.iincV X3.here hx rfl (1 : Int32) (hb hby d10_38) (by decide) rfl (l' := #[.val (.ref d), .val (.int ((Int32.ofNat i) + (1 : Int32))), .val (.ref b), .val (.int ((Int32.ofNat i) + (1 : Int32))), .val (.int (Int32.ofNat cl.length)), .val (.int ((Int32.ofNat i) + (1 : Int32))), .val (.int (cl.getD i 0))]) rfl k)))) ?_
            rw [own_inc]
            have V_b : Arv Z h3 b kb .byte (Int32.ofNat cl.length) ((cl.take (i + 1)).map fun c => .int c.toInt8.toInt32) (.int (0 : Int32)) := own_tkm (fun c => .int c.toInt8.toInt32) cl i (own_lti _ _ hc7 hi (Nat.le_trans hlen (by decide))) ▸ V_b
            refine Goes.pre (U' := T3.setTop (mkF m 3 #[.val (.ref d), .val (.int (Int32.ofNat (i + 1))), .val (.ref b), .val (.int (Int32.ofNat (i + 1))), .val (.int (Int32.ofNat cl.length)), .val (.int (Int32.ofNat (i + 1))), .val (.int (cl.getD i 0))] [])) (fun t k => XS.goto X3.here hx rfl (pc0 := 41) (pc' := 3) rfl (hb hby d10_41) (by decide) (by decide) k) ?_
            exact ih _ (by have := own_lti _ _ hc7 hi (Nat.le_trans hlen (by decide)); omega) (i + 1) _ (Or.inr ⟨_, rfl⟩) (own_lti _ _ hc7 hi (Nat.le_trans hlen (by decide))) (own_tkl cl i (own_lti _ _ hc7 hi (Nat.le_trans hlen (by decide))) hl hc20) rfl _ _ _ X3 e3 N3 Z3 K3 V_d V_b
        ·
          refine Goes.pre (U' := T1.setTop (mkF m 46 #[.val (.ref d), .val (.int (Int32.ofNat i)), .val (.ref b), .val (.int (Int32.ofNat i)), .val (.int (Int32.ofNat cl.length)), .val (.int (Int32.ofNat i)), .unset] [(.int (Int32.ofNat cl.length))])) (fun t k => XS.icmpYes X1.here hx rfl (pc0 := 7) (pc' := 44) rfl (hb hby d10_7) rfl (flt hc7).2.1 (by decide) (by decide) (XS.iload X1.here hx rfl (hb hby d10_44) rfl k)) ?_
          refine Goes.ret X1 (v := (some (.int (Int32.ofNat cl.length)))) (fun h => by rw [hret] at h; cases h) hlk (by decide) (by decide) e1 (fun fs hr => retI X1 hx hret (hb hby d10_46) hr) ?_
          obtain rfl := own_nlti _ _ hc7 hi (Nat.le_trans hlen (by decide))
          rw [List.take_length] at V_b hl
          exact ⟨cl.length, _, rfl, N1, K1, V_b, Or.inl ⟨rfl, rfl, hl⟩⟩
      ·
        refine Goes.pre (U' := T1.setTop (mkF m 7 #[.val (.ref d), .val (.int (Int32.ofNat i)), .val (.ref b), .val (.int (Int32.ofNat i)), .val (.int (Int32.ofNat cl.length)), .val (.int (Int32.ofNat i)), .val (.int z6)] [(.int (Int32.ofNat cl.length)), (.int (Int32.ofNat i))])) (fun t k => XS.iload X1.here hx rfl (hb hby d10_3) rfl (XS.iload X1.here hx rfl (hb hby d10_5) rfl k)) ?_
        by_cases hc7 : (Int32.ofNat i) < (Int32.ofNat cl.length)
        ·
          refine Goes.pre (U' := T1.setTop (mkF m 12 #[.val (.ref d), .val (.int (Int32.ofNat i)), .val (.ref b), .val (.int (Int32.ofNat i)), .val (.int (Int32.ofNat cl.length)), .val (.int (Int32.ofNat i)), .val (.int z6)] [(.int (Int32.ofNat i)), (.ref d)])) (fun t k => XS.icmpNo X1.here hx rfl (hb hby d10_7) rfl (tlt hc7).2.1 (XS.aloadN X1.here hx rfl (hb hby d10_10) rfl rfl (XS.iloadN X1.here hx rfl (hb hby d10_11) rfl k))) ?_
          obtain ⟨cl4, Ar4, q4, Sz4, Ng4, Hs4, Ft4⟩ := id V_d
          have hin4 := inb_of (j := (Int32.ofNat i)) Sz4 (own_ix i _ (own_lti _ _ hc7 hi (Nat.le_trans hlen (by decide))) (Nat.le_trans hlen (by decide)))
          refine Goes.pre (U' := T1.setTop (mkF m 20 #[.val (.ref d), .val (.int (Int32.ofNat i)), .val (.ref b), .val (.int (Int32.ofNat i)), .val (.int (Int32.ofNat cl.length)), .val (.int (Int32.ofNat i)), .val (.int (cl.getD i 0))] [(.int (255 : Int32)), (.int (cl.getD i 0))])) (fun t k => X1.caload hx (j := (Int32.ofNat i)) (v := (.int (cl.getD i 0))) (by rw [e1]; exact Ar4.1) (State.isArrayOf_alike hZ.alike Ar4.2.1) Ar4.2.2 hin4 (Has.at Hs4 hin4 (own_getm cl i (own_lti _ _ hc7 hi (Nat.le_trans hlen (by decide))) (Nat.le_trans hlen (by decide)))) (g := (mkF m 12 #[.val (.ref d), .val (.int (Int32.ofNat i)), .val (.ref b), .val (.int (Int32.ofNat i)), .val (.int (Int32.ofNat cl.length)), .val (.int (Int32.ofNat i)), .val (.int z6)] [(.int (Int32.ofNat i)), (.ref d)])) rfl rfl (hb hby d10_12) _ (XS.istore X1.here hx rfl (hb hby d10_13) rfl (l' := #[.val (.ref d), .val (.int (Int32.ofNat i)), .val (.ref b), .val (.int (Int32.ofNat i)), .val (.int (Int32.ofNat cl.length)), .val (.int (Int32.ofNat i)), .val (.int (cl.getD i 0))]) rfl (XS.iload X1.here hx rfl (hb hby d10_15) rfl (XS.sipush X1.here hx rfl (hb hby d10_17) k)))) ?_
          by_cases hc20 : (255 : Int32) < (cl.getD i 0)
          ·
            refine Goes.pre (U' := T1.setTop (mkF m 25 #[.val (.ref d), .val (.int (Int32.ofNat i)), .val (.ref b), .val (.int (Int32.ofNat i)), .val (.int (Int32.ofNat cl.length)), .val (.int (Int32.ofNat i)), .val (.int (cl.getD i 0))] [(.int (Int32.ofNat i))])) (fun t k => XS.icmpNo X1.here hx rfl (hb hby d10_20) rfl (tlt hc20).2.2.2 (XS.iload X1.here hx rfl (hb hby d10_23) rfl k)) ?_
            refine Goes.ret X1 (v := (some (.int (Int32.ofNat i)))) (fun h => by rw [hret] at h; cases h) hlk (by decide) (by decide) e1 (fun fs hr => retI X1 hx hret (hb hby d10_25) hr) ?_
            exact ⟨i, _, rfl, N1, K1, V_b, Or.inr ⟨own_lti _ _ hc7 hi (Nat.le_trans hlen (by decide)), hc20⟩⟩
          ·
            refine Goes.pre (U' := T1.setTop (mkF m 31 #[.val (.ref d), .val (.int (Int32.ofNat i)), .val (.ref b), .val (.int (Int32.ofNat i)), .val (.int (Int32.ofNat cl.length)), .val (.int (Int32.ofNat i)), .val (.int (cl.getD i 0))] [(.int ((cl.getD i 0).toInt8.toInt32)), (.int (Int32.ofNat i)), (.ref b)])) (fun t k => XS.icmpYes X1.here hx rfl (pc0 := 20) (pc' := 26) rfl (hb hby d10_20) rfl (flt hc20).2.2.2 (by decide) (by decide) (XS.aloadN X1.here hx rfl (hb hby d10_26) rfl rfl (XS.iloadN X1.here hx rfl (hb hby d10_27) rfl (XS.iload X1.here hx rfl (hb hby d10_28) rfl (XS.i2b X1.here hx rfl (hb hby d10_30) rfl k))))) ?_
            obtain ⟨cl5, Ar5, q5, Sz5, Ng5, Hs5, Ft5⟩ := id V_b
            obtain ⟨T5, h5, X5, e5, W5, st5⟩ := stB X1 hx hZ e1 Ar5 (j := (Int32.ofNat i)) (inb_of Sz5 (own_ix i _ (own_lti _ _ hc7 hi (Nat.le_trans hlen (by decide))) (Nat.le_trans hlen (by decide)))) (g := (mkF m 31 #[.val (.ref d), .val (.int (Int32.ofNat i)), .val (.ref b), .val (.int (Int32.ofNat i)), .val (.int (Int32.ofNat cl.length)), .val (.int (Int32.ofNat i)), .val (.int (cl.getD i 0))] [(.int ((cl.getD i 0).toInt8.toInt32)), (.int (Int32.ofNat i)), (.ref b)])) rfl rfl (hb hby d10_31)
            have nr5 : nar .byte ((cl.getD i 0).toInt8.toInt32) = ((cl.getD i 0).toInt8.toInt32) := own_bb _
            have ft5 : fits .byte (.int ((cl.getD i 0).toInt8.toInt32)) = true := nr5 ▸ (fits_nar_byte ((cl.getD i 0).toInt8.toInt32) : fits .byte (.int (nar .byte ((cl.getD i 0).toInt8.toInt32))) = true)
            rw [nr5] at W5
            have V_d := V_d.other W5 ne_d_b
            have Z5 : n0 ≤ h5.size := Nat.le_trans Z1 (Keep.of_wr W5).1
            have V_b : Arv Z h5 b kb .byte (Int32.ofNat cl.length) (((cl.take i).map fun c => .int c.toInt8.toInt32) ++ [.int ((cl.getD i 0).toInt8.toInt32)]) (.int (0 : Int32)) := own_push Ar5 q5 Sz5 Ng5 Hs5 Ft5 ft5 W5 (by rw [own_ixn i (Nat.le_trans hi (Nat.le_trans hlen (by decide))), List.length_map, List.length_take, Nat.min_eq_left hi])
            have K5 := K1.wr W5 (Or.inl (List.mem_of_getElem? (i := 0) rfl))
            have N5 := Fr.snoc X5 N1 g_b
            refine Goes.pre (U' := T5.setTop (mkF m 41 #[.val (.ref d), .val (.int ((Int32.ofNat i) + (1 : Int32))), .val (.ref b), .val (.int ((Int32.ofNat i) + (1 : Int32))), .val (.int (Int32.ofNat cl.length)), .val (.int ((Int32.ofNat i) + (1 : Int32))), .val (.int (cl.getD i 0))] [])) (fun t k => st5 t (XT.iincV X5.here hx rfl (1 : Int32) (hb hby d10_32) (by decide) rfl (l' := #[.val (.ref d), .val (.int ((Int32.ofNat i) + (1 : Int32))), .val (.ref b), .val (.int (Int32.ofNat i)), .val (.int (Int32.ofNat cl.length)), .val (.int (Int32.ofNat i)), .val (.int (cl.getD i 0))]) rfl (XT.iincV X5.here hx rfl (1 : Int32) (hb hby d10_35) (by decide) rfl (l' := #[.val (.ref d), .val (.int ((Int32.ofNat i) + (1 : Int32))), .val (.ref b), .val (.int ((Int32.ofNat i) + (1 : Int32))), .val (.int (Int32.ofNat cl.length)), .val (.int (Int32.ofNat i)), .val (.int (cl.getD i 0))]) rfl (XT.iincV X5.here hx rfl (1 : Int32) (hb hby d10_38) (by decide) rfl (l' := #[.val (.ref d), .val (.int ((Int32.ofNat i) + (1 : Int32))), .val (.ref b), .val (.int ((Int32.ofNat i) + (1 : Int32))), .val (.int (Int32.ofNat cl.length)), .val (.int ((Int32.ofNat i) + (1 : Int32))), .val (.int (cl.getD i 0))]) rfl k)))) ?_
            rw [own_inc]
            have V_b : Arv Z h5 b kb .byte (Int32.ofNat cl.length) ((cl.take (i + 1)).map fun c => .int c.toInt8.toInt32) (.int (0 : Int32)) := own_tkm (fun c => .int c.toInt8.toInt32) cl i (own_lti _ _ hc7 hi (Nat.le_trans hlen (by decide))) ▸ V_b
            refine Goes.pre (U' := T5.setTop (mkF m 3 #[.val (.ref d), .val (.int (Int32.ofNat (i + 1))), .val (.ref b), .val (.int (Int32.ofNat (i + 1))), .val (.int (Int32.ofNat cl.length)), .val (.int (Int32.ofNat (i + 1))), .val (.int (cl.getD i 0))] [])) (fun t k => XS.goto X5.here hx rfl (pc0 := 41) (pc' := 3) rfl (hb hby d10_41) (by decide) (by decide) k) ?_
            exact ih _ (by have := own_lti _ _ hc7 hi (Nat.le_trans hlen (by decide)); omega) (i + 1) _ (Or.inr ⟨_, rfl⟩) (own_lti _ _ hc7 hi (Nat.le_trans hlen (by decide))) (own_tkl cl i (own_lti _ _ hc7 hi (Nat.le_trans hlen (by decide))) hl hc20) rfl _ _ _ X5 e5 N5 Z5 K5 V_d V_b
        ·
          refine Goes.pre (U' := T1.setTop (mkF m 46 #[.val (.ref d), .val (.int (Int32.ofNat i)), .val (.ref b), .val (.int (Int32.ofNat i)), .val (.int (Int32.ofNat cl.length)), .val (.int (Int32.ofNat i)), .val (.int z6)] [(.int (Int32.ofNat cl.length))])) (fun t k => XS.icmpYes X1.here hx rfl (pc0 := 7) (pc' := 44) rfl (hb hby d10_7) rfl (flt hc7).2.1 (by decide) (by decide) (XS.iload X1.here hx rfl (hb hby d10_44) rfl k)) ?_
          refine Goes.ret X1 (v := (some (.int (Int32.ofNat cl.length)))) (fun h => by rw [hret] at h; cases h) hlk (by decide) (by decide) e1 (fun fs hr => retI X1 hx hret (hb hby d10_46) hr) ?_
          obtain rfl := own_nlti _ _ hc7 hi (Nat.le_trans hlen (by decide))
          rw [List.take_length] at V_b hl
          exact ⟨cl.length, _, rfl, N1, K1, V_b, Or.inl ⟨rfl, rfl, hl⟩⟩
  exact J3_1 _ 0 _ (Or.inl rfl) (Nat.zero_le _) (by intro c hc; cases hc) rfl _ _ _ X0 e0 N0 Z0 K0 V_d V_b
theorem ef_rm_putG (m : MethodId) (x0 : Addr) (x1 : Int32) (x2 : Int32) : entryFrame m #[(.ref x0), (.int x1), (.int x2)] 3 = mkF m 0 #[.val (.ref x0), .val (.int x1), .val (.int x2)] [] := by first | (simp [entryFrame, mkF, argsToLocals, Value.category]; done) | rfl
abbrev M27 : MethodName := ⟨"java/lang/StringUTF16", "putChar", "([BII)V"⟩
theorem d27_0 : decode jdk_52_method_4_code 0 = .ok (.getstatic 44, 3) := by decide +kernel
theorem d27_3 : decode jdk_52_method_4_code 3 = .ok (.ifCond .ne 25, 3) := by decide +kernel
theorem d27_28 : decode jdk_52_method_4_code 28 = .ok (.iload_n 1, 1) := by decide +kernel
theorem d27_29 : decode jdk_52_method_4_code 29 = .ok (.iconst 1, 1) := by decide +kernel
theorem d27_30 : decode jdk_52_method_4_code 30 = .ok (.ishl, 1) := by decide +kernel
theorem d27_31 : decode jdk_52_method_4_code 31 = .ok (.istore_n 1, 1) := by decide +kernel
theorem d27_32 : decode jdk_52_method_4_code 32 = .ok (.aload_n 0, 1) := by decide +kernel
theorem d27_33 : decode jdk_52_method_4_code 33 = .ok (.iload_n 1, 1) := by decide +kernel
theorem d27_34 : decode jdk_52_method_4_code 34 = .ok (.iinc 1 1, 3) := by decide +kernel
theorem d27_37 : decode jdk_52_method_4_code 37 = .ok (.iload_n 2, 1) := by decide +kernel
theorem d27_38 : decode jdk_52_method_4_code 38 = .ok (.getstatic 59, 3) := by decide +kernel
theorem d27_41 : decode jdk_52_method_4_code 41 = .ok (.ishr, 1) := by decide +kernel
theorem d27_42 : decode jdk_52_method_4_code 42 = .ok (.i2b, 1) := by decide +kernel
theorem d27_43 : decode jdk_52_method_4_code 43 = .ok (.bastore, 1) := by decide +kernel
theorem d27_44 : decode jdk_52_method_4_code 44 = .ok (.aload_n 0, 1) := by decide +kernel
theorem d27_45 : decode jdk_52_method_4_code 45 = .ok (.iload_n 1, 1) := by decide +kernel
theorem d27_46 : decode jdk_52_method_4_code 46 = .ok (.iload_n 2, 1) := by decide +kernel
theorem d27_47 : decode jdk_52_method_4_code 47 = .ok (.getstatic 63, 3) := by decide +kernel
theorem d27_50 : decode jdk_52_method_4_code 50 = .ok (.ishr, 1) := by decide +kernel
theorem d27_51 : decode jdk_52_method_4_code 51 = .ok (.i2b, 1) := by decide +kernel
theorem d27_52 : decode jdk_52_method_4_code 52 = .ok (.bastore, 1) := by decide +kernel
theorem d27_53 : decode jdk_52_method_4_code 53 = .ok (.return_, 1) := by decide +kernel
def Q_rm_putG (Z : State) (b : Addr) (kb : ClassId) (vs : List Value) (n : Nat) (q : Int32) (i : Nat) (h0 : Heap) (n0 : Nat) (v : Option Value) (h : Heap) (L : List Loc) : Prop := v = none ∧ Fr n0 L ∧ Keep h0 h [b] ∧ Arv Z h b kb .byte (Int32.ofNat n) ((vs ++ [.int (q >>> ((0 : Int32) &&& 31)).toInt8.toInt32]) ++ [.int (q >>> ((8 : Int32) &&& 31)).toInt8.toInt32]) (.int (0 : Int32))
set_option maxRecDepth 65536 in
set_option maxHeartbeats 40000000 in
theorem rm_putG (l : Launch) (Z : State) (a0 : Array Value) (hw : ∀ d ∈ tables_1, d.before a0 Z = true) (ws : List Jvm.Cond) (b : Addr) (kb : ClassId) (vs : List Value) (n : Nat) (q : Int32) (i : Nat) (h0 : Heap) (n0 : Nat) (Z0 : n0 ≤ h0.size) (V_b : Arv Z h0 b kb .byte (Int32.ofNat n) vs (.int (0 : Int32))) (S__assertionsDisabled : Sta Z Z.heap "java/lang/StringUTF16" "$assertionsDisabled" "Z" (.int (1 : Int32))) (S_HI_BYTE_SHIFT : Sta Z Z.heap "java/lang/StringUTF16" "HI_BYTE_SHIFT" "I" (.int (0 : Int32))) (S_LO_BYTE_SHIFT : Sta Z Z.heap "java/lang/StringUTF16" "LO_BYTE_SHIFT" "I" (.int (8 : Int32))) (hv : vs.length = 2 * i) (hn : 2 * i + 1 < n) (hbg : n ≤ 8192) (g_b : n0 ≤ b) (O : Old Z n0 h0) :
    Met l Z M27 jdk_52_method_4_code 3 none ws (Rm 0 0 0 0) #[(.ref b), (.int (Int32.ofNat i)), (.int q)] h0 (Q_rm_putG Z b kb vs n q i h0 n0) := by
  refine met_of (plainFor_of_name pn_java_lang_StringUTF16) (own := "java/lang/StringUTF16") rfl (fun m => ef_rm_putG m b (Int32.ofNat i) q) ?_
  intro p e s m below meth c s₁ hx hby hml hown hnm hZ X0 e0 hret hlk
  have N0 := Fr.nil n0
  have K0 := Keep.refl h0 [b]
  show Goes p e below s _ _ _ (s₁.setTop (mkF m 0 #[.val (.ref b), .val (.int (Int32.ofNat i)), .val (.int q)] []))
  obtain ⟨T1, X1, e1, st1⟩ := getS2 X0 hx hZ hown (host := "") (Or.inl (wq hw 118 rfl)) Via.refl e0 (S__assertionsDisabled.ext O.2) (g := (mkF m 0 #[.val (.ref b), .val (.int (Int32.ofNat i)), .val (.int q)] [])) rfl (hb hby d27_0)
  refine Goes.pre (U' := T1.setTop (mkF m 3 #[.val (.ref b), .val (.int (Int32.ofNat i)), .val (.int q)] [(.int (1 : Int32))])) (fun t k => st1 t k) ?_
  have hc3 : ¬ ((1 : Int32) = (0 : Int32)) := by decide
  refine Goes.pre (U' := T1.setTop (mkF m 38 #[.val (.ref b), .val (.int (((Int32.ofNat i) <<< ((1 : Int32) &&& 31)) + (1 : Int32))), .val (.int q)] [(.int q), (.int ((Int32.ofNat i) <<< ((1 : Int32) &&& 31))), (.ref b)])) (fun t k => XS.ifYes X1.here hx rfl (pc0 := 3) (pc' := 28) rfl (hb hby d27_3) rfl ((if0 _ _).trans (feq hc3).2) (by decide) (by decide) (XS.iloadN X1.here hx rfl (hb hby d27_28) rfl (XS.iconst X1.here hx rfl (hb hby d27_29) (XS.ishl X1.here hx rfl (hb hby d27_30) rfl (XS.istoreN X1.here hx rfl (hb hby d27_31) rfl (l' := #[.val (.ref b), .val (.int ((Int32.ofNat i) <<< ((1 : Int32) &&& 31))), .val (.int q)]) rfl (XS.aloadN X1.here hx rfl (hb hby d27_32) rfl rfl (XS.iloadN X1.here hx rfl (hb hby d27_33) rfl (XT.iincV X1.here hx rfl (1 : Int32) (hb hby d27_34) (by decide) rfl (l' := #[.val (.ref b), .val (.int (((Int32.ofNat i) <<< ((1 : Int32) &&& 31)) + (1 : Int32))), .val (.int q)]) rfl (XS.iloadN X1.here hx rfl (hb hby d27_37) rfl k))))))))) ?_
  obtain ⟨T2, X2, e2, st2⟩ := getS2 X1 hx hZ hown (host := "") (Or.inl (wq hw 119 rfl)) Via.refl e1 (S_HI_BYTE_SHIFT.ext O.2) (g := (mkF m 38 #[.val (.ref b), .val (.int (((Int32.ofNat i) <<< ((1 : Int32) &&& 31)) + (1 : Int32))), .val (.int q)] [(.int q), (.int ((Int32.ofNat i) <<< ((1 : Int32) &&& 31))), (.ref b)])) rfl (hb hby d27_38)
  refine Goes.pre (U' := T2.setTop (mkF m 43 #[.val (.ref b), .val (.int (((Int32.ofNat i) <<< ((1 : Int32) &&& 31)) + (1 : Int32))), .val (.int q)] [(.int ((q >>> ((0 : Int32) &&& 31)).toInt8.toInt32)), (.int ((Int32.ofNat i) <<< ((1 : Int32) &&& 31))), (.ref b)])) (fun t k => st2 t (XS.ishr X2.here hx rfl (hb hby d27_41) rfl (XS.i2b X2.here hx rfl (hb hby d27_42) rfl k))) ?_
  obtain ⟨cl3, Ar3, q3, Sz3, Ng3, Hs3, Ft3⟩ := id V_b
  obtain ⟨T3, h3, X3, e3, W3, st3⟩ := stB X2 hx hZ e2 Ar3 (j := ((Int32.ofNat i) <<< ((1 : Int32) &&& 31))) (inb_of Sz3 (own_p0 i n hn hbg)) (g := (mkF m 43 #[.val (.ref b), .val (.int (((Int32.ofNat i) <<< ((1 : Int32) &&& 31)) + (1 : Int32))), .val (.int q)] [(.int ((q >>> ((0 : Int32) &&& 31)).toInt8.toInt32)), (.int ((Int32.ofNat i) <<< ((1 : Int32) &&& 31))), (.ref b)])) rfl rfl (hb hby d27_43)
  have nr3 : nar .byte ((q >>> ((0 : Int32) &&& 31)).toInt8.toInt32) = ((q >>> ((0 : Int32) &&& 31)).toInt8.toInt32) := own_bb _
  have ft3 : fits .byte (.int ((q >>> ((0 : Int32) &&& 31)).toInt8.toInt32)) = true := nr3 ▸ (fits_nar_byte ((q >>> ((0 : Int32) &&& 31)).toInt8.toInt32) : fits .byte (.int (nar .byte ((q >>> ((0 : Int32) &&& 31)).toInt8.toInt32))) = true)
  rw [nr3] at W3
  have Z3 : n0 ≤ h3.size := Nat.le_trans Z0 (Keep.of_wr W3).1
  have O := O.wr W3 g_b
  have V_b : Arv Z h3 b kb .byte (Int32.ofNat n) (vs ++ [.int ((q >>> ((0 : Int32) &&& 31)).toInt8.toInt32)]) (.int (0 : Int32)) := own_push Ar3 q3 Sz3 Ng3 Hs3 Ft3 ft3 W3 (by rw [(own_sh1 i (by omega)).1, own_ixn _ (by omega)]; exact hv.symm)
  have K3 := K0.wr W3 (Or.inl (List.mem_of_getElem? (i := 0) rfl))
  have N3 := Fr.snoc X3 N0 g_b
  refine Goes.pre (U' := T3.setTop (mkF m 47 #[.val (.ref b), .val (.int (((Int32.ofNat i) <<< ((1 : Int32) &&& 31)) + (1 : Int32))), .val (.int q)] [(.int q), (.int (((Int32.ofNat i) <<< ((1 : Int32) &&& 31)) + (1 : Int32))), (.ref b)])) (fun t k => st3 t (XS.aloadN X3.here hx rfl (hb hby d27_44) rfl rfl (XS.iloadN X3.here hx rfl (hb hby d27_45) rfl (XS.iloadN X3.here hx rfl (hb hby d27_46) rfl k)))) ?_
  obtain ⟨T4, X4, e4, st4⟩ := getS2 X3 hx hZ hown (host := "") (Or.inl (wq hw 120 rfl)) Via.refl e3 (S_LO_BYTE_SHIFT.ext O.2) (g := (mkF m 47 #[.val (.ref b), .val (.int (((Int32.ofNat i) <<< ((1 : Int32) &&& 31)) + (1 : Int32))), .val (.int q)] [(.int q), (.int (((Int32.ofNat i) <<< ((1 : Int32) &&& 31)) + (1 : Int32))), (.ref b)])) rfl (hb hby d27_47)
  refine Goes.pre (U' := T4.setTop (mkF m 52 #[.val (.ref b), .val (.int (((Int32.ofNat i) <<< ((1 : Int32) &&& 31)) + (1 : Int32))), .val (.int q)] [(.int ((q >>> ((8 : Int32) &&& 31)).toInt8.toInt32)), (.int (((Int32.ofNat i) <<< ((1 : Int32) &&& 31)) + (1 : Int32))), (.ref b)])) (fun t k => st4 t (XS.ishr X4.here hx rfl (hb hby d27_50) rfl (XS.i2b X4.here hx rfl (hb hby d27_51) rfl k))) ?_
  obtain ⟨cl5, Ar5, q5, Sz5, Ng5, Hs5, Ft5⟩ := id V_b
  obtain ⟨T5, h5, X5, e5, W5, st5⟩ := stB X4 hx hZ e4 Ar5 (j := (((Int32.ofNat i) <<< ((1 : Int32) &&& 31)) + (1 : Int32))) (inb_of Sz5 (own_p1 i n hn hbg)) (g := (mkF m 52 #[.val (.ref b), .val (.int (((Int32.ofNat i) <<< ((1 : Int32) &&& 31)) + (1 : Int32))), .val (.int q)] [(.int ((q >>> ((8 : Int32) &&& 31)).toInt8.toInt32)), (.int (((Int32.ofNat i) <<< ((1 : Int32) &&& 31)) + (1 : Int32))), (.ref b)])) rfl rfl (hb hby d27_52)
  have nr5 : nar .byte ((q >>> ((8 : Int32) &&& 31)).toInt8.toInt32) = ((q >>> ((8 : Int32) &&& 31)).toInt8.toInt32) := own_bb _
  have ft5 : fits .byte (.int ((q >>> ((8 : Int32) &&& 31)).toInt8.toInt32)) = true := nr5 ▸ (fits_nar_byte ((q >>> ((8 : Int32) &&& 31)).toInt8.toInt32) : fits .byte (.int (nar .byte ((q >>> ((8 : Int32) &&& 31)).toInt8.toInt32))) = true)
  rw [nr5] at W5
  have Z5 : n0 ≤ h5.size := Nat.le_trans Z3 (Keep.of_wr W5).1
  have O := O.wr W5 g_b
  have V_b : Arv Z h5 b kb .byte (Int32.ofNat n) ((vs ++ [.int ((q >>> ((0 : Int32) &&& 31)).toInt8.toInt32)]) ++ [.int ((q >>> ((8 : Int32) &&& 31)).toInt8.toInt32)]) (.int (0 : Int32)) := own_push Ar5 q5 Sz5 Ng5 Hs5 Ft5 ft5 W5 (by rw [(own_sh1 i (by omega)).2, own_ixn _ (by omega), List.length_append]; exact congrArg (· + 1) hv.symm)
  have K5 := K3.wr W5 (Or.inl (List.mem_of_getElem? (i := 0) rfl))
  have N5 := Fr.snoc X5 N3 g_b
  refine Goes.pre (U' := T5.setTop (mkF m 53 #[.val (.ref b), .val (.int (((Int32.ofNat i) <<< ((1 : Int32) &&& 31)) + (1 : Int32))), .val (.int q)] [])) (fun t k => st5 t k) ?_
  refine Goes.ret X5 (v := none) (fun _ => rfl) hlk (by decide) (by decide) e5 (fun fs hr => X5.returnOut hx hret (hb hby d27_53) hr) ?_
  exact ⟨rfl, N5, K5, V_b⟩
theorem own_lt30 (n : Nat) (hn : n ≤ 8192) : Int32.ofNat n < (1073741823 : Int32) := by
  have b := own_ofn n hn
  rw [Int32.lt_iff_toInt_lt, b, show (1073741823 : Int32).toInt = 1073741823 from by decide]
  omega
theorem own_cap (n N : Nat) (hn : n ≤ 8192) (h : n ≤ N) : (Int32.ofNat n).toNatClampNeg ≤ N := by rw [own_ixn n hn]; exact h
theorem ef_rm_nblG (m : MethodId) (x0 : Int32) : entryFrame m #[(.int x0)] 1 = mkF m 0 #[.val (.int x0)] [] := by first | (simp [entryFrame, mkF, argsToLocals, Value.category]; done) | rfl
abbrev M26 : MethodName := ⟨"java/lang/StringUTF16", "newBytesLength", "(I)I"⟩
theorem d26_0 : decode jdk_52_method_3_code 0 = .ok (.iload_n 0, 1) := by decide +kernel
theorem d26_1 : decode jdk_52_method_3_code 1 = .ok (.ifCond .ge 11, 3) := by decide +kernel
theorem d26_12 : decode jdk_52_method_3_code 12 = .ok (.iload_n 0, 1) := by decide +kernel
theorem d26_13 : decode jdk_52_method_3_code 13 = .ok (.ldc 20, 2) := by decide +kernel
theorem d26_15 : decode jdk_52_method_3_code 15 = .ok (.if_icmp .lt 40, 3) := by decide +kernel
theorem d26_55 : decode jdk_52_method_3_code 55 = .ok (.iload_n 0, 1) := by decide +kernel
theorem d26_56 : decode jdk_52_method_3_code 56 = .ok (.iconst 1, 1) := by decide +kernel
theorem d26_57 : decode jdk_52_method_3_code 57 = .ok (.ishl, 1) := by decide +kernel
theorem d26_58 : decode jdk_52_method_3_code 58 = .ok (.ireturn, 1) := by decide +kernel
def Q_rm_nblG (Z : State) (cl : List Int32) (h0 : Heap) (n0 : Nat) (v : Option Value) (h : Heap) (L : List Loc) : Prop := v = some (.int (Int32.ofNat (2 * cl.length))) ∧ Fr n0 L ∧ h = h0
set_option maxRecDepth 65536 in
set_option maxHeartbeats 40000000 in
theorem rm_nblG (l : Launch) (Z : State) (a0 : Array Value) (hw : ∀ d ∈ tables_1, d.before a0 Z = true) (ws : List Jvm.Cond) (cl : List Int32) (h0 : Heap) (n0 : Nat) (Z0 : n0 ≤ h0.size)  (hlen : cl.length ≤ 3) :
    Met l Z M26 jdk_52_method_3_code 1 (some .int) ws (Rm 0 0 0 0) #[(.int (Int32.ofNat cl.length))] h0 (Q_rm_nblG Z cl h0 n0) := by
  refine met_of (plainFor_of_name pn_java_lang_StringUTF16) (own := "java/lang/StringUTF16") rfl (fun m => ef_rm_nblG m (Int32.ofNat cl.length)) ?_
  intro p e s m below meth c s₁ hx hby hml hown hnm hZ X0 e0 hret hlk
  have N0 := Fr.nil n0
  show Goes p e below s _ _ _ (s₁.setTop (mkF m 0 #[.val (.int (Int32.ofNat cl.length))] []))
  refine Goes.pre (U' := s₁.setTop (mkF m 1 #[.val (.int (Int32.ofNat cl.length))] [(.int (Int32.ofNat cl.length))])) (fun t k => XS.iloadN X0.here hx rfl (hb hby d26_0) rfl k) ?_
  have hc1 : ¬ ((Int32.ofNat cl.length) < (0 : Int32)) := own_neg _ (Nat.le_trans hlen (by decide))
  refine Goes.pre (U' := s₁.setTop (mkF m 15 #[.val (.int (Int32.ofNat cl.length))] [(.int (1073741823 : Int32)), (.int (Int32.ofNat cl.length))])) (fun t k => XS.ifYes X0.here hx rfl (pc0 := 1) (pc' := 12) rfl (hb hby d26_1) rfl ((if0 _ _).trans (flt hc1).2.1) (by decide) (by decide) (XS.iloadN X0.here hx rfl (hb hby d26_12) rfl (X0.ldcInt hx hown (mvT hZ (wq hw 114 rfl)) (g := (mkF m 13 #[.val (.int (Int32.ofNat cl.length))] [(.int (Int32.ofNat cl.length))])) rfl (hb hby d26_13) _ k))) ?_
  have hc15 : (Int32.ofNat cl.length) < (1073741823 : Int32) := own_lt30 _ (Nat.le_trans hlen (by decide))
  refine Goes.pre (U' := s₁.setTop (mkF m 58 #[.val (.int (Int32.ofNat cl.length))] [(.int ((Int32.ofNat cl.length) <<< ((1 : Int32) &&& 31)))])) (fun t k => XS.icmpYes X0.here hx rfl (pc0 := 15) (pc' := 55) rfl (hb hby d26_15) rfl (tlt hc15).1 (by decide) (by decide) (XS.iloadN X0.here hx rfl (hb hby d26_55) rfl (XS.iconst X0.here hx rfl (hb hby d26_56) (XS.ishl X0.here hx rfl (hb hby d26_57) rfl k)))) ?_
  refine Goes.ret X0 (v := (some (.int ((Int32.ofNat cl.length) <<< ((1 : Int32) &&& 31))))) (fun h => by rw [hret] at h; cases h) hlk (by decide) (by decide) e0 (fun fs hr => retI X0 hx hret (hb hby d26_58) hr) ?_
  exact ⟨congrArg (fun z => some (Value.int z)) (own_shl cl.length (Nat.le_trans hlen (by decide))).symm, N0, rfl⟩
theorem ef_rm_nbfG (m : MethodId) (x0 : Int32) : entryFrame m #[(.int x0)] 1 = mkF m 0 #[.val (.int x0)] [] := by first | (simp [entryFrame, mkF, argsToLocals, Value.category]; done) | rfl
abbrev M25 : MethodName := ⟨"java/lang/StringUTF16", "newBytesFor", "(I)[B"⟩
theorem d25_0 : decode jdk_52_method_2_code 0 = .ok (.iload_n 0, 1) := by decide +kernel
theorem d25_1 : decode jdk_52_method_2_code 1 = .ok (.invokestatic 11, 3) := by decide +kernel
theorem pd__28I_29I : parseMethodDescriptor "(I)I" = some ⟨[.int], some .int⟩ := by decide +kernel
theorem d25_4 : decode jdk_52_method_2_code 4 = .ok (.newarray .byte, 2) := by decide +kernel
theorem d25_6 : decode jdk_52_method_2_code 6 = .ok (.areturn, 1) := by decide +kernel
def Q_rm_nbfG (Z : State) (cl : List Int32) (h0 : Heap) (n0 : Nat) (v : Option Value) (h : Heap) (L : List Loc) : Prop := ∃ (r : Addr) (kr : ClassId), v = some (.ref r) ∧ Fr n0 L ∧ Keep h0 h [] ∧ Arv Z h r kr .byte (Int32.ofNat (2 * cl.length)) [] (.int (0 : Int32)) ∧ n0 ≤ r ∧ h0.size ≤ r
set_option maxRecDepth 65536 in
set_option maxHeartbeats 40000000 in
theorem rm_nbfG (l : Launch) (Z : State) (a0 : Array Value) (hw : ∀ d ∈ tables_1, d.before a0 Z = true) (ws : List Jvm.Cond) (cl : List Int32) (h0 : Heap) (n0 : Nat) (Z0 : n0 ≤ h0.size)  (hlen : cl.length ≤ 3) :
    Met l Z M25 jdk_52_method_2_code 1 (some (.array .byte)) ws (Rm 1 1 6 12) #[(.int (Int32.ofNat cl.length))] h0 (Q_rm_nbfG Z cl h0 n0) := by
  refine met_of (plainFor_of_name pn_java_lang_StringUTF16) (own := "java/lang/StringUTF16") rfl (fun m => ef_rm_nbfG m (Int32.ofNat cl.length)) ?_
  intro p e s m below meth c s₁ hx hby hml hown hnm hZ X0 e0 hret hlk
  have N0 := Fr.nil n0
  have K0 := Keep.refl h0 []
  show Goes p e below s _ _ _ (s₁.setTop (mkF m 0 #[.val (.int (Int32.ofNat cl.length))] []))
  refine Goes.pre (U' := s₁.setTop (mkF m 1 #[.val (.int (Int32.ofNat cl.length))] [(.int (Int32.ofNat cl.length))])) (fun t k => XS.iloadN X0.here hx rfl (hb hby d25_0) rfl k) ?_
  obtain ⟨_, _, ⟨T1, L1, k1, n1⟩, -, X1, ⟨Lc1, hQ1, l1, y1, z1⟩, st1⟩ := Jvm.LawKit.callS X0 hx (y := (⟨"java/lang/StringUTF16", "newBytesLength", "(I)I"⟩ : MethodName)) hown (mvT hZ (wq hw 111 rfl)) (mvT hZ (wq hw 112 rfl)) (mvT hZ (wq hw 42 rfl)) (mvT hZ (wq hw 113 rfl)) (by decide) (backOf (W := 0) (rm_nblG l Z a0 hw [] cl h0 n0 Z0  hlen) hZ (wq hw 113 rfl) (wq hw 42 rfl) (by decide) (by decide)) (g := (mkF m 1 #[.val (.int (Int32.ofNat cl.length))] [(.int (Int32.ofNat cl.length))])) rfl (by rw [hml]; rfl) (argsL := [(.int (Int32.ofNat cl.length))]) (rest := []) (lenOf pd__28I_29I rfl) rfl (by show 2 * 0 + _ ≤ _; exact Nat.le_of_eq rfl) (hb hby d25_1) (fun _ _ => ⟨rfl, e0, (by decide : 0 + 0 ≤ _), (by decide : 0 + 0 ≤ _)⟩)
  dsimp only [Pt.U, Pt.locs, Pt.cells, Pt.slots] at X1 l1 y1 z1 st1 hQ1
  subst l1 y1 z1
  obtain ⟨rfl, N1q, HQ1⟩ := hQ1
  have N1 := Fr.app N0 N1q
  refine Goes.pre (U' := T1.setTop (mkF m 4 #[.val (.int (Int32.ofNat cl.length))] [(.int (Int32.ofNat (2 * cl.length)))])) (fun t k => st1 t k) ?_
  obtain ⟨T2, h2, k2, X2, e2, E2, A2, B2, st2⟩ := newPE X1 hx hZ (wq hw 7 rfl) HQ1 (g := (mkF m 4 #[.val (.int (Int32.ofNat cl.length))] [(.int (Int32.ofNat (2 * cl.length)))])) rfl (hb hby d25_4) rfl (own_neg _ (by omega)) (cap := 6) (own_cap _ _ (by omega) (by omega)) (by decide) (by decide) (by decide) (ad := "[B") (by decide)
  obtain ⟨nb2, g2⟩ : ∃ z, z = h0.size := ⟨_, rfl⟩
  rw [← g2] at A2 B2 st2
  have g_nb2 : n0 ≤ nb2 := Nat.le_trans Z0 (Nat.le_of_eq g2.symm)
  have sz_nb2 : h0.size ≤ nb2 := Nat.le_trans K0.1 (Nat.le_of_eq g2.symm)
  have Z2 : n0 ≤ h2.size := Nat.le_trans Z0 E2.1
  have K2 := K0.ext E2
  have E_nb2 := B2
  have V_nb2 : Arv Z h2 nb2 k2 .byte (Int32.ofNat (2 * cl.length)) [] (.int (0 : Int32)) := Arv.new A2 (own_neg _ (by omega))
  refine Goes.pre (U' := T2.setTop (mkF m 6 #[.val (.int (Int32.ofNat cl.length))] [(.ref nb2)])) (fun t k => st2 t k) ?_
  refine Goes.ret X2 (v := (some (.ref nb2))) (fun h => by rw [hret] at h; cases h) hlk (by decide) (by decide) e2 (fun fs hr => retOut X2 hx hret rfl (Or.inr (Or.inr (Or.inr (Or.inr ⟨rfl, rfl, rfl⟩)))) (hb hby d25_6) hr) ?_
  exact ⟨nb2, k2, rfl, N1, K2, V_nb2, g_nb2, sz_nb2⟩
theorem ef_rm_toBG (m : MethodId) (x0 : Addr) (x1 : Int32) (x2 : Int32) : entryFrame m #[(.ref x0), (.int x1), (.int x2)] 5 = mkF m 0 #[.val (.ref x0), .val (.int x1), .val (.int x2), .unset, .unset] [] := by first | (simp [entryFrame, mkF, argsToLocals, Value.category]; done) | rfl
abbrev M24 : MethodName := ⟨"java/lang/StringUTF16", "toBytes", "([CII)[B"⟩
theorem d24_0 : decode jdk_52_method_14_code 0 = .ok (.iload_n 2, 1) := by decide +kernel
theorem d24_1 : decode jdk_52_method_14_code 1 = .ok (.invokestatic 107, 3) := by decide +kernel
theorem pd__28I_29_5bB : parseMethodDescriptor "(I)[B" = some ⟨[.int], some (.array .byte)⟩ := by decide +kernel
theorem d24_4 : decode jdk_52_method_14_code 4 = .ok (.astore_n 3, 1) := by decide +kernel
theorem d24_5 : decode jdk_52_method_14_code 5 = .ok (.iconst 0, 1) := by decide +kernel
theorem d24_6 : decode jdk_52_method_14_code 6 = .ok (.istore 4, 2) := by decide +kernel
theorem d24_8 : decode jdk_52_method_14_code 8 = .ok (.iload 4, 2) := by decide +kernel
theorem d24_10 : decode jdk_52_method_14_code 10 = .ok (.iload_n 2, 1) := by decide +kernel
theorem d24_11 : decode jdk_52_method_14_code 11 = .ok (.if_icmp .ge 21, 3) := by decide +kernel
theorem d24_14 : decode jdk_52_method_14_code 14 = .ok (.aload_n 3, 1) := by decide +kernel
theorem d24_15 : decode jdk_52_method_14_code 15 = .ok (.iload 4, 2) := by decide +kernel
theorem d24_17 : decode jdk_52_method_14_code 17 = .ok (.aload_n 0, 1) := by decide +kernel
theorem d24_18 : decode jdk_52_method_14_code 18 = .ok (.iload_n 1, 1) := by decide +kernel
theorem d24_19 : decode jdk_52_method_14_code 19 = .ok (.caload, 1) := by decide +kernel
theorem d24_20 : decode jdk_52_method_14_code 20 = .ok (.invokestatic 111, 3) := by decide +kernel
theorem pd__28_5bBII_29V : parseMethodDescriptor "([BII)V" = some ⟨[(.array .byte), .int, .int], none⟩ := by decide +kernel
theorem d24_23 : decode jdk_52_method_14_code 23 = .ok (.iinc 1 1, 3) := by decide +kernel
theorem d24_26 : decode jdk_52_method_14_code 26 = .ok (.iinc 4 1, 3) := by decide +kernel
theorem d24_29 : decode jdk_52_method_14_code 29 = .ok (.goto (-21), 3) := by decide +kernel
theorem d24_32 : decode jdk_52_method_14_code 32 = .ok (.aload_n 3, 1) := by decide +kernel
theorem d24_33 : decode jdk_52_method_14_code 33 = .ok (.areturn, 1) := by decide +kernel
def Q_rm_toBG (Z : State) (d : Addr) (kd : ClassId) (cl : List Int32) (h0 : Heap) (n0 : Nat) (v : Option Value) (h : Heap) (L : List Loc) : Prop := ∃ (r : Addr) (kr : ClassId), v = some (.ref r) ∧ Fr n0 L ∧ Keep h0 h [] ∧ Arv Z h r kr .byte (Int32.ofNat (2 * cl.length)) (cl.flatMap fun c => [.int (c >>> ((0 : Int32) &&& 31)).toInt8.toInt32, .int (c >>> ((8 : Int32) &&& 31)).toInt8.toInt32]) (.int (0 : Int32)) ∧ n0 ≤ r ∧ h0.size ≤ r
set_option maxRecDepth 65536 in
set_option maxHeartbeats 40000000 in
theorem rm_toBG (l : Launch) (Z : State) (a0 : Array Value) (hw : ∀ d ∈ tables_1, d.before a0 Z = true) (ws : List Jvm.Cond) (d : Addr) (kd : ClassId) (cl : List Int32) (h0 : Heap) (n0 : Nat) (Z0 : n0 ≤ h0.size) (V_d : Arv Z h0 d kd .char (Int32.ofNat cl.length) (cl.map Value.int) (.int (0 : Int32))) (S__assertionsDisabled : Sta Z Z.heap "java/lang/StringUTF16" "$assertionsDisabled" "Z" (.int (1 : Int32))) (S_HI_BYTE_SHIFT : Sta Z Z.heap "java/lang/StringUTF16" "HI_BYTE_SHIFT" "I" (.int (0 : Int32))) (S_LO_BYTE_SHIFT : Sta Z Z.heap "java/lang/StringUTF16" "LO_BYTE_SHIFT" "I" (.int (8 : Int32))) (hlen : cl.length ≤ 3) (O : Old Z n0 h0) :
    Met l Z M24 jdk_52_method_14_code 5 (some (.array .byte)) ws (Rm 2 1 6 24) #[(.ref d), (.int (0 : Int32)), (.int (Int32.ofNat cl.length))] h0 (Q_rm_toBG Z d kd cl h0 n0) := by
  refine met_of (plainFor_of_name pn_java_lang_StringUTF16) (own := "java/lang/StringUTF16") rfl (fun m => ef_rm_toBG m d (0 : Int32) (Int32.ofNat cl.length)) ?_
  intro p e s m below meth c s₁ hx hby hml hown hnm hZ X0 e0 hret hlk
  have N0 := Fr.nil n0
  have K0 := Keep.refl h0 []
  show Goes p e below s _ _ _ (s₁.setTop (mkF m 0 #[.val (.ref d), .val (.int (0 : Int32)), .val (.int (Int32.ofNat cl.length)), .unset, .unset] []))
  refine Goes.pre (U' := s₁.setTop (mkF m 1 #[.val (.ref d), .val (.int (0 : Int32)), .val (.int (Int32.ofNat cl.length)), .unset, .unset] [(.int (Int32.ofNat cl.length))])) (fun t k => XS.iloadN X0.here hx rfl (hb hby d24_0) rfl k) ?_
  have lt_d := V_d.lt
  obtain ⟨_, _, ⟨T1, L1, k1, n1⟩, -, X1, ⟨Lc1, hQ1, l1, y1, z1⟩, st1⟩ := Jvm.LawKit.callS X0 hx (y := (⟨"java/lang/StringUTF16", "newBytesFor", "(I)[B"⟩ : MethodName)) hown (mvT hZ (wq hw 108 rfl)) (mvT hZ (wq hw 109 rfl)) (mvT hZ (wq hw 42 rfl)) (mvT hZ (wq hw 110 rfl)) (by decide) (backOf (W := 0) (rm_nbfG l Z a0 hw [] cl h0 n0 Z0  hlen) hZ (wq hw 110 rfl) (wq hw 42 rfl) (by decide) (by decide)) (g := (mkF m 1 #[.val (.ref d), .val (.int (0 : Int32)), .val (.int (Int32.ofNat cl.length)), .unset, .unset] [(.int (Int32.ofNat cl.length))])) rfl (by rw [hml]; rfl) (argsL := [(.int (Int32.ofNat cl.length))]) (rest := []) (lenOf pd__28I_29_5bB rfl) rfl (by show 2 * 0 + _ ≤ _; exact Nat.le_of_eq rfl) (hb hby d24_1) (fun _ _ => ⟨rfl, e0, (by decide : 0 + 1 ≤ _), (by decide : 0 + 6 ≤ _)⟩)
  dsimp only [Pt.U, Pt.locs, Pt.cells, Pt.slots] at X1 l1 y1 z1 st1 hQ1
  subst l1 y1 z1
  obtain ⟨r1, kr1, rfl, N1q, KQ1, fo0_1, g_r1, sl_r1⟩ := hQ1
  have N1 := Fr.app N0 N1q
  have V_d := V_d.keep KQ1 nin0
  have Z2 : n0 ≤ T1.heap.size := Nat.le_trans Z0 KQ1.1
  have O := O.keep KQ1 all0
  have K2 := K0.trans KQ1 all0
  have ne_d_r1 : d ≠ r1 := Nat.ne_of_lt (Nat.lt_of_lt_of_le lt_d sl_r1)
  have ne_r1_d := ne_d_r1.symm
  have sz_r1 : h0.size ≤ r1 := Nat.le_trans K0.1 sl_r1
  have V_r1 := fo0_1
  refine Goes.pre (U' := T1.setTop (mkF m 8 #[.val (.ref d), .val (.int (0 : Int32)), .val (.int (Int32.ofNat cl.length)), .val (.ref r1), .val (.int (0 : Int32))] [])) (fun t k => st1 t (XS.astoreN X1.here hx rfl (hb hby d24_4) rfl rfl (l' := #[.val (.ref d), .val (.int (0 : Int32)), .val (.int (Int32.ofNat cl.length)), .val (.ref r1), .unset]) rfl (XS.iconst X1.here hx rfl (hb hby d24_5) (XS.istore X1.here hx rfl (hb hby d24_6) rfl (l' := #[.val (.ref d), .val (.int (0 : Int32)), .val (.int (Int32.ofNat cl.length)), .val (.ref r1), .val (.int (0 : Int32))]) rfl k)))) ?_
  have J8_3 : ∀ (kk : Nat) (i : Nat) (hi : i ≤ cl.length) (hm : cl.length - i = kk) (T3 : State) (h3 : Heap) (lc3 : List Loc), Stand p l e (Rm 2 1 6 24) s m #[(.ref d), (.int (0 : Int32)), (.int (Int32.ofNat cl.length))] below meth c T3 lc3 1 6 → T3.heap = h3 → Fr n0 lc3 → n0 ≤ h3.size → Keep h0 h3 [] → Old Z n0 h3 → Arv Z h3 d kd .char (Int32.ofNat cl.length) (cl.map Value.int) (.int (0 : Int32)) → Arv Z h3 r1 kr1 .byte (Int32.ofNat (2 * cl.length)) ((cl.take i).flatMap fun c => [.int (c >>> ((0 : Int32) &&& 31)).toInt8.toInt32, .int (c >>> ((8 : Int32) &&& 31)).toInt8.toInt32]) (.int (0 : Int32)) → Goes p e below s (Q_rm_toBG Z d kd cl h0 n0) (Rm 2 1 6 24).cells (Rm 2 1 6 24).slots (T3.setTop (mkF m 8 #[.val (.ref d), .val (.int (Int32.ofNat i)), .val (.int (Int32.ofNat cl.length)), .val (.ref r1), .val (.int (Int32.ofNat i))] [])) := by
    intro kk
    induction kk using Nat.strongRecOn with
    | ind kk ih =>
      intro i hi hm T3 h3 lc3 X3 e3 N3 Z3 K3 O V_d V_r1
      refine Goes.pre (U' := T3.setTop (mkF m 11 #[.val (.ref d), .val (.int (Int32.ofNat i)), .val (.int (Int32.ofNat cl.length)), .val (.ref r1), .val (.int (Int32.ofNat i))] [(.int (Int32.ofNat cl.length)), (.int (Int32.ofNat i))])) (fun t k => XS.iload X3.here hx rfl (hb hby d24_8) rfl (XS.iloadN X3.here hx rfl (hb hby d24_10) rfl k)) ?_
      by_cases hc11 : (Int32.ofNat i) < (Int32.ofNat cl.length)
      ·
        refine Goes.pre (U' := T3.setTop (mkF m 19 #[.val (.ref d), .val (.int (Int32.ofNat i)), .val (.int (Int32.ofNat cl.length)), .val (.ref r1), .val (.int (Int32.ofNat i))] [(.int (Int32.ofNat i)), (.ref d), (.int (Int32.ofNat i)), (.ref r1)])) (fun t k => XS.icmpNo X3.here hx rfl (hb hby d24_11) rfl (tlt hc11).2.1 (XS.aloadN X3.here hx rfl (hb hby d24_14) rfl rfl (XS.iload X3.here hx rfl (hb hby d24_15) rfl (XS.aloadN X3.here hx rfl (hb hby d24_17) rfl rfl (XS.iloadN X3.here hx rfl (hb hby d24_18) rfl k))))) ?_
        obtain ⟨cl4, Ar4, q4, Sz4, Ng4, Hs4, Ft4⟩ := id V_d
        have hin4 := inb_of (j := (Int32.ofNat i)) Sz4 (own_ix i _ (own_lti _ _ hc11 hi (Nat.le_trans hlen (by decide))) (Nat.le_trans hlen (by decide)))
        refine Goes.pre (U' := T3.setTop (mkF m 20 #[.val (.ref d), .val (.int (Int32.ofNat i)), .val (.int (Int32.ofNat cl.length)), .val (.ref r1), .val (.int (Int32.ofNat i))] [(.int (cl.getD i 0)), (.int (Int32.ofNat i)), (.ref r1)])) (fun t k => X3.caload hx (j := (Int32.ofNat i)) (v := (.int (cl.getD i 0))) (by rw [e3]; exact Ar4.1) (State.isArrayOf_alike hZ.alike Ar4.2.1) Ar4.2.2 hin4 (Has.at Hs4 hin4 (own_getm cl i (own_lti _ _ hc11 hi (Nat.le_trans hlen (by decide))) (Nat.le_trans hlen (by decide)))) (g := (mkF m 19 #[.val (.ref d), .val (.int (Int32.ofNat i)), .val (.int (Int32.ofNat cl.length)), .val (.ref r1), .val (.int (Int32.ofNat i))] [(.int (Int32.ofNat i)), (.ref d), (.int (Int32.ofNat i)), (.ref r1)])) rfl rfl (hb hby d24_19) _ k) ?_
        obtain ⟨_, _, ⟨T5, L5, k5, n5⟩, -, X5, ⟨Lc5, hQ5, l5, y5, z5⟩, st5⟩ := Jvm.LawKit.callS X3 hx (y := (⟨"java/lang/StringUTF16", "putChar", "([BII)V"⟩ : MethodName)) hown (mvT hZ (wq hw 115 rfl)) (mvT hZ (wq hw 116 rfl)) (mvT hZ (wq hw 42 rfl)) (mvT hZ (wq hw 117 rfl)) (by decide) (backOf (W := 0) (rm_putG l Z a0 hw [] r1 kr1 ((cl.take i).flatMap fun c => [.int (c >>> ((0 : Int32) &&& 31)).toInt8.toInt32, .int (c >>> ((8 : Int32) &&& 31)).toInt8.toInt32]) (2 * cl.length) (cl.getD i 0) i h3 n0 Z3 V_r1 S__assertionsDisabled S_HI_BYTE_SHIFT S_LO_BYTE_SHIFT (own_fml _ _ cl i hi) (by have := own_lti _ _ hc11 hi (Nat.le_trans hlen (by decide)); omega) (by omega) g_r1 O) hZ (wq hw 117 rfl) (wq hw 42 rfl) (by decide) (by decide)) (g := (mkF m 20 #[.val (.ref d), .val (.int (Int32.ofNat i)), .val (.int (Int32.ofNat cl.length)), .val (.ref r1), .val (.int (Int32.ofNat i))] [(.int (cl.getD i 0)), (.int (Int32.ofNat i)), (.ref r1)])) rfl (by rw [hml]; rfl) (argsL := [(.ref r1), (.int (Int32.ofNat i)), (.int (cl.getD i 0))]) (rest := []) (lenOf pd__28_5bBII_29V rfl) rfl (by show 2 * 0 + _ ≤ _; exact Nat.le_of_eq rfl) (hb hby d24_20) (fun _ _ => ⟨rfl, e3, (by decide : 1 + 0 ≤ _), (by decide : 6 + 0 ≤ _)⟩)
        dsimp only [Pt.U, Pt.locs, Pt.cells, Pt.slots] at X5 l5 y5 z5 st5 hQ5
        subst l5 y5 z5
        obtain ⟨rfl, N5q, KQ5, fo0_5⟩ := hQ5
        have N5 := Fr.app N3 N5q
        have V_d := V_d.keep KQ5 (ninS ne_d_r1 nin0)
        have Z6 : n0 ≤ T5.heap.size := Nat.le_trans Z3 KQ5.1
        have O := O.keep KQ5 (allS (P := fun x => n0 ≤ x) g_r1 all0)
        have K6 := K3.trans KQ5 (allS (P := fun x => x ∈ [] ∨ h0.size ≤ x) (Or.inr sz_r1) all0)
        have V_r1 := fo0_5
        refine Goes.pre (U' := T5.setTop (mkF m 29 #[.val (.ref d), .val (.int ((Int32.ofNat i) + (1 : Int32))), .val (.int (Int32.ofNat cl.length)), .val (.ref r1), .val (.int ((Int32.ofNat i) + (1 : Int32)))] [])) (fun t k => st5 t (XT.iincV X5.here hx rfl (1 : Int32) (hb hby d24_23) (by decide) rfl (l' := #[.val (.ref d), .val (.int ((Int32.ofNat i) + (1 : Int32))), .val (.int (Int32.ofNat cl.length)), .val (.ref r1), .val (.int (Int32.ofNat i))]) rfl (XT.iincV X5.here hx rfl (1 : Int32) (hb hby d24_26) (by decide) rfl (l' := #[.val (.ref d), .val (.int ((Int32.ofNat i) + (1 : Int32))), .val (.int (Int32.ofNat cl.length)), .val (.ref r1), .val (.int ((Int32.ofNat i) + (1 : Int32)))]) rfl k))) ?_
        rw [own_inc]
        have V_r1 : Arv Z T5.heap r1 kr1 .byte (Int32.ofNat (2 * cl.length)) ((cl.take (i + 1)).flatMap fun c => [.int (c >>> ((0 : Int32) &&& 31)).toInt8.toInt32, .int (c >>> ((8 : Int32) &&& 31)).toInt8.toInt32]) (.int (0 : Int32)) := own_tkf (fun c => .int (c >>> ((0 : Int32) &&& 31)).toInt8.toInt32) (fun c => .int (c >>> ((8 : Int32) &&& 31)).toInt8.toInt32) cl i (own_lti _ _ hc11 hi (Nat.le_trans hlen (by decide))) ▸ V_r1
        refine Goes.pre (U' := T5.setTop (mkF m 8 #[.val (.ref d), .val (.int (Int32.ofNat (i + 1))), .val (.int (Int32.ofNat cl.length)), .val (.ref r1), .val (.int (Int32.ofNat (i + 1)))] [])) (fun t k => XS.goto X5.here hx rfl (pc0 := 29) (pc' := 8) rfl (hb hby d24_29) (by decide) (by decide) k) ?_
        exact ih _ (by have := own_lti _ _ hc11 hi (Nat.le_trans hlen (by decide)); omega) (i + 1) (own_lti _ _ hc11 hi (Nat.le_trans hlen (by decide))) rfl _ _ _ X5 rfl N5 Z6 K6 O V_d V_r1
      ·
        refine Goes.pre (U' := T3.setTop (mkF m 33 #[.val (.ref d), .val (.int (Int32.ofNat i)), .val (.int (Int32.ofNat cl.length)), .val (.ref r1), .val (.int (Int32.ofNat i))] [(.ref r1)])) (fun t k => XS.icmpYes X3.here hx rfl (pc0 := 11) (pc' := 32) rfl (hb hby d24_11) rfl (flt hc11).2.1 (by decide) (by decide) (XS.aloadN X3.here hx rfl (hb hby d24_32) rfl rfl k)) ?_
        refine Goes.ret X3 (v := (some (.ref r1))) (fun h => by rw [hret] at h; cases h) hlk (by decide) (by decide) e3 (fun fs hr => retOut X3 hx hret rfl (Or.inr (Or.inr (Or.inr (Or.inr ⟨rfl, rfl, rfl⟩)))) (hb hby d24_33) hr) ?_
        obtain rfl := own_nlti _ _ hc11 hi (Nat.le_trans hlen (by decide))
        rw [List.take_length] at V_r1
        exact ⟨r1, kr1, rfl, N3, K3, V_r1, g_r1, sz_r1⟩
  exact J8_3 _ 0 (Nat.zero_le _) rfl _ _ _ X1 rfl N1 Z2 K2 O V_d V_r1
theorem ef_rm_cmpG (m : MethodId) (x0 : Addr) (x1 : Int32) (x2 : Int32) : entryFrame m #[(.ref x0), (.int x1), (.int x2)] 6 = mkF m 0 #[.val (.ref x0), .val (.int x1), .val (.int x2), .unset, .unset, .unset] [] := by first | (simp [entryFrame, mkF, argsToLocals, Value.category]; done) | rfl
abbrev M9 : MethodName := ⟨"java/lang/StringUTF16", "compress", "([CII)[B"⟩
theorem d9_0 : decode jdk_52_method_16_code 0 = .ok (.iload_n 2, 1) := by decide +kernel
theorem d9_1 : decode jdk_52_method_16_code 1 = .ok (.newarray .byte, 2) := by decide +kernel
theorem d9_3 : decode jdk_52_method_16_code 3 = .ok (.astore_n 3, 1) := by decide +kernel
theorem d9_4 : decode jdk_52_method_16_code 4 = .ok (.aload_n 0, 1) := by decide +kernel
theorem d9_5 : decode jdk_52_method_16_code 5 = .ok (.iload_n 1, 1) := by decide +kernel
theorem d9_6 : decode jdk_52_method_16_code 6 = .ok (.aload_n 3, 1) := by decide +kernel
theorem d9_7 : decode jdk_52_method_16_code 7 = .ok (.iconst 0, 1) := by decide +kernel
theorem d9_8 : decode jdk_52_method_16_code 8 = .ok (.iload_n 2, 1) := by decide +kernel
theorem d9_9 : decode jdk_52_method_16_code 9 = .ok (.invokestatic 115, 3) := by decide +kernel
theorem pd__28_5bCI_5bBII_29I : parseMethodDescriptor "([CI[BII)I" = some ⟨[(.array .char), .int, (.array .byte), .int, .int], some .int⟩ := by decide +kernel
theorem d9_12 : decode jdk_52_method_16_code 12 = .ok (.istore 4, 2) := by decide +kernel
theorem d9_14 : decode jdk_52_method_16_code 14 = .ok (.iload 4, 2) := by decide +kernel
theorem d9_16 : decode jdk_52_method_16_code 16 = .ok (.iload_n 2, 1) := by decide +kernel
theorem d9_17 : decode jdk_52_method_16_code 17 = .ok (.if_icmp .eq 40, 3) := by decide +kernel
theorem d9_57 : decode jdk_52_method_16_code 57 = .ok (.aload_n 3, 1) := by decide +kernel
theorem d9_58 : decode jdk_52_method_16_code 58 = .ok (.areturn, 1) := by decide +kernel
theorem d9_20 : decode jdk_52_method_16_code 20 = .ok (.aload_n 0, 1) := by decide +kernel
theorem d9_21 : decode jdk_52_method_16_code 21 = .ok (.iload_n 1, 1) := by decide +kernel
theorem d9_22 : decode jdk_52_method_16_code 22 = .ok (.iload_n 2, 1) := by decide +kernel
theorem d9_23 : decode jdk_52_method_16_code 23 = .ok (.invokestatic 119, 3) := by decide +kernel
theorem pd__28_5bCII_29_5bB : parseMethodDescriptor "([CII)[B" = some ⟨[(.array .char), .int, .int], some (.array .byte)⟩ := by decide +kernel
theorem d9_26 : decode jdk_52_method_16_code 26 = .ok (.astore 5, 2) := by decide +kernel
theorem d9_28 : decode jdk_52_method_16_code 28 = .ok (.aload 5, 2) := by decide +kernel
theorem d9_30 : decode jdk_52_method_16_code 30 = .ok (.iload 4, 2) := by decide +kernel
theorem d9_32 : decode jdk_52_method_16_code 32 = .ok (.invokestatic 71, 3) := by decide +kernel
theorem d9_35 : decode jdk_52_method_16_code 35 = .ok (.sipush 255, 3) := by decide +kernel
theorem d9_38 : decode jdk_52_method_16_code 38 = .ok (.if_icmp .gt 16, 3) := by decide +kernel
theorem d9_54 : decode jdk_52_method_16_code 54 = .ok (.aload 5, 2) := by decide +kernel
theorem d9_56 : decode jdk_52_method_16_code 56 = .ok (.areturn, 1) := by decide +kernel
def Q_rm_cmpG (Z : State) (d : Addr) (kd : ClassId) (cl : List Int32) (h0 : Heap) (n0 : Nat) (v : Option Value) (h : Heap) (L : List Loc) : Prop := ∃ (r : Addr) (kr : ClassId), v = some (.ref r) ∧ Fr n0 L ∧ Keep h0 h [] ∧ OwnByt Z h r kr cl ∧ n0 ≤ r ∧ h0.size ≤ r
set_option maxRecDepth 65536 in
set_option maxHeartbeats 40000000 in
theorem rm_cmpG (l : Launch) (Z : State) (a0 : Array Value) (hw : ∀ d ∈ tables_1, d.before a0 Z = true) (ws : List Jvm.Cond) (d : Addr) (kd : ClassId) (cl : List Int32) (h0 : Heap) (n0 : Nat) (Z0 : n0 ≤ h0.size) (V_d : Arv Z h0 d kd .char (Int32.ofNat cl.length) (cl.map Value.int) (.int (0 : Int32))) (S__assertionsDisabled : Sta Z Z.heap "java/lang/StringUTF16" "$assertionsDisabled" "Z" (.int (1 : Int32))) (S_HI_BYTE_SHIFT : Sta Z Z.heap "java/lang/StringUTF16" "HI_BYTE_SHIFT" "I" (.int (0 : Int32))) (S_LO_BYTE_SHIFT : Sta Z Z.heap "java/lang/StringUTF16" "LO_BYTE_SHIFT" "I" (.int (8 : Int32))) (hlen : cl.length ≤ 3) (hcA : ∀ c ∈ cl, OwnCh c) (O : Old Z n0 h0) :
    Met l Z M9 jdk_52_method_16_code 6 (some (.array .byte)) ws (Rm 3 2 9 40) #[(.ref d), (.int (0 : Int32)), (.int (Int32.ofNat cl.length))] h0 (Q_rm_cmpG Z d kd cl h0 n0) := by
  refine met_of (plainFor_of_name pn_java_lang_StringUTF16) (own := "java/lang/StringUTF16") rfl (fun m => ef_rm_cmpG m d (0 : Int32) (Int32.ofNat cl.length)) ?_
  intro p e s m below meth c s₁ hx hby hml hown hnm hZ X0 e0 hret hlk
  have N0 := Fr.nil n0
  have K0 := Keep.refl h0 []
  show Goes p e below s _ _ _ (s₁.setTop (mkF m 0 #[.val (.ref d), .val (.int (0 : Int32)), .val (.int (Int32.ofNat cl.length)), .unset, .unset, .unset] []))
  refine Goes.pre (U' := s₁.setTop (mkF m 1 #[.val (.ref d), .val (.int (0 : Int32)), .val (.int (Int32.ofNat cl.length)), .unset, .unset, .unset] [(.int (Int32.ofNat cl.length))])) (fun t k => XS.iloadN X0.here hx rfl (hb hby d9_0) rfl k) ?_
  obtain ⟨T1, h1, k1, X1, e1, E1, A1, B1, st1⟩ := newPE X0 hx hZ (wq hw 7 rfl) e0 (g := (mkF m 1 #[.val (.ref d), .val (.int (0 : Int32)), .val (.int (Int32.ofNat cl.length)), .unset, .unset, .unset] [(.int (Int32.ofNat cl.length))])) rfl (hb hby d9_1) rfl (own_neg _ (Nat.le_trans hlen (by decide))) (cap := 3) (own_cap _ _ (Nat.le_trans hlen (by decide)) hlen) (by decide) (by decide) (by decide) (ad := "[B") (by decide)
  obtain ⟨nb1, g1⟩ : ∃ z, z = h0.size := ⟨_, rfl⟩
  rw [← g1] at A1 B1 st1
  have ne_d_nb1 : d ≠ nb1 := Nat.ne_of_lt (Nat.lt_of_lt_of_le V_d.lt (Nat.le_of_eq g1.symm))
  have ne_nb1_d := ne_d_nb1.symm
  have g_nb1 : n0 ≤ nb1 := Nat.le_trans Z0 (Nat.le_of_eq g1.symm)
  have sz_nb1 : h0.size ≤ nb1 := Nat.le_trans K0.1 (Nat.le_of_eq g1.symm)
  have V_d := V_d.ext E1
  have O := O.ext E1
  have Z1 : n0 ≤ h1.size := Nat.le_trans Z0 E1.1
  have K1 := K0.ext E1
  have E_nb1 := B1
  have V_nb1 : Arv Z h1 nb1 k1 .byte (Int32.ofNat cl.length) [] (.int (0 : Int32)) := Arv.new A1 (own_neg _ (Nat.le_trans hlen (by decide)))
  refine Goes.pre (U' := T1.setTop (mkF m 9 #[.val (.ref d), .val (.int (0 : Int32)), .val (.int (Int32.ofNat cl.length)), .val (.ref nb1), .unset, .unset] [(.int (Int32.ofNat cl.length)), (.int (0 : Int32)), (.ref nb1), (.int (0 : Int32)), (.ref d)])) (fun t k => st1 t (XS.astoreN X1.here hx rfl (hb hby d9_3) rfl rfl (l' := #[.val (.ref d), .val (.int (0 : Int32)), .val (.int (Int32.ofNat cl.length)), .val (.ref nb1), .unset, .unset]) rfl (XS.aloadN X1.here hx rfl (hb hby d9_4) rfl rfl (XS.iloadN X1.here hx rfl (hb hby d9_5) rfl (XS.aloadN X1.here hx rfl (hb hby d9_6) rfl rfl (XS.iconst X1.here hx rfl (hb hby d9_7) (XS.iloadN X1.here hx rfl (hb hby d9_8) rfl k))))))) ?_
  obtain ⟨_, _, ⟨T2, L2, k2, n2⟩, -, X2, ⟨Lc2, hQ2, l2, y2, z2⟩, st2⟩ := Jvm.LawKit.callS X1 hx (y := (⟨"java/lang/StringUTF16", "compress", "([CI[BII)I"⟩ : MethodName)) hown (mvT hZ (wq hw 44 rfl)) (mvT hZ (wq hw 45 rfl)) (mvT hZ (wq hw 42 rfl)) (mvT hZ (wq hw 46 rfl)) (by decide) (backOf (W := 0) (rm_cmpIG l Z a0 hw [] d kd nb1 k1 cl h1 n0 Z1 V_d V_nb1 hlen ne_d_nb1 g_nb1) hZ (wq hw 46 rfl) (wq hw 42 rfl) (by decide) (by decide)) (g := (mkF m 9 #[.val (.ref d), .val (.int (0 : Int32)), .val (.int (Int32.ofNat cl.length)), .val (.ref nb1), .unset, .unset] [(.int (Int32.ofNat cl.length)), (.int (0 : Int32)), (.ref nb1), (.int (0 : Int32)), (.ref d)])) rfl (by rw [hml]; rfl) (argsL := [(.ref d), (.int (0 : Int32)), (.ref nb1), (.int (0 : Int32)), (.int (Int32.ofNat cl.length))]) (rest := []) (lenOf pd__28_5bCI_5bBII_29I rfl) rfl (by show 2 * 0 + _ ≤ _; exact Nat.le_of_eq rfl) (hb hby d9_9) (fun _ _ => ⟨rfl, e1, (by decide : 1 + 0 ≤ _), (by decide : 3 + 0 ≤ _)⟩)
  dsimp only [Pt.U, Pt.locs, Pt.cells, Pt.slots] at X2 l2 y2 z2 st2 hQ2
  subst l2 y2 z2
  obtain ⟨j2, vs2, rfl, N2q, KQ2, fo0_2, hx2⟩ := hQ2
  have N2 := Fr.app N0 N2q
  have V_d := V_d.keep KQ2 (ninS ne_d_nb1 nin0)
  have E_nb1 := E_nb1.keep KQ2
  have Z3 : n0 ≤ T2.heap.size := Nat.le_trans Z1 KQ2.1
  have O := O.keep KQ2 (allS (P := fun x => n0 ≤ x) g_nb1 all0)
  have K3 := K1.trans KQ2 (allS (P := fun x => x ∈ [] ∨ h0.size ≤ x) (Or.inr sz_nb1) all0)
  have V_nb1 := fo0_2
  refine Goes.pre (U' := T2.setTop (mkF m 14 #[.val (.ref d), .val (.int (0 : Int32)), .val (.int (Int32.ofNat cl.length)), .val (.ref nb1), .val (.int (Int32.ofNat j2)), .unset] [])) (fun t k => st2 t (XS.istore X2.here hx rfl (hb hby d9_12) rfl (l' := #[.val (.ref d), .val (.int (0 : Int32)), .val (.int (Int32.ofNat cl.length)), .val (.ref nb1), .val (.int (Int32.ofNat j2)), .unset]) rfl k)) ?_
  rcases hx2 with ⟨hj, hv, hle⟩ | ⟨hj, hgt⟩
  ·
    subst hj hv
    refine Goes.pre (U' := T2.setTop (mkF m 17 #[.val (.ref d), .val (.int (0 : Int32)), .val (.int (Int32.ofNat cl.length)), .val (.ref nb1), .val (.int (Int32.ofNat cl.length)), .unset] [(.int (Int32.ofNat cl.length)), (.int (Int32.ofNat cl.length))])) (fun t k => XS.iload X2.here hx rfl (hb hby d9_14) rfl (XS.iloadN X2.here hx rfl (hb hby d9_16) rfl k)) ?_
    have hc17 : (Int32.ofNat cl.length) = (Int32.ofNat cl.length) := rfl
    refine Goes.pre (U' := T2.setTop (mkF m 58 #[.val (.ref d), .val (.int (0 : Int32)), .val (.int (Int32.ofNat cl.length)), .val (.ref nb1), .val (.int (Int32.ofNat cl.length)), .unset] [(.ref nb1)])) (fun t k => XS.icmpYes X2.here hx rfl (pc0 := 17) (pc' := 57) rfl (hb hby d9_17) rfl (teq hc17).1 (by decide) (by decide) (XS.aloadN X2.here hx rfl (hb hby d9_57) rfl rfl k)) ?_
    refine Goes.ret X2 (v := (some (.ref nb1))) (fun h => by rw [hret] at h; cases h) hlk (by decide) (by decide) rfl (fun fs hr => retOut X2 hx hret rfl (Or.inr (Or.inr (Or.inr (Or.inr ⟨rfl, rfl, rfl⟩)))) (hb hby d9_58) hr) ?_
    exact ⟨nb1, k1, rfl, N2, K3, Or.inl ⟨V_nb1, hle⟩, g_nb1, sz_nb1⟩
  ·
    refine Goes.pre (U' := T2.setTop (mkF m 17 #[.val (.ref d), .val (.int (0 : Int32)), .val (.int (Int32.ofNat cl.length)), .val (.ref nb1), .val (.int (Int32.ofNat j2)), .unset] [(.int (Int32.ofNat cl.length)), (.int (Int32.ofNat j2))])) (fun t k => XS.iload X2.here hx rfl (hb hby d9_14) rfl (XS.iloadN X2.here hx rfl (hb hby d9_16) rfl k)) ?_
    have hc17 : ¬ ((Int32.ofNat j2) = (Int32.ofNat cl.length)) := own_nei _ _ hj (Nat.le_trans hlen (by decide))
    refine Goes.pre (U' := T2.setTop (mkF m 23 #[.val (.ref d), .val (.int (0 : Int32)), .val (.int (Int32.ofNat cl.length)), .val (.ref nb1), .val (.int (Int32.ofNat j2)), .unset] [(.int (Int32.ofNat cl.length)), (.int (0 : Int32)), (.ref d)])) (fun t k => XS.icmpNo X2.here hx rfl (hb hby d9_17) rfl (feq hc17).1 (XS.aloadN X2.here hx rfl (hb hby d9_20) rfl rfl (XS.iloadN X2.here hx rfl (hb hby d9_21) rfl (XS.iloadN X2.here hx rfl (hb hby d9_22) rfl k)))) ?_
    have lt_d := V_d.lt
    have lt_nb1 := E_nb1.lt
    obtain ⟨_, _, ⟨T4, L4, k4, n4⟩, -, X4, ⟨Lc4, hQ4, l4, y4, z4⟩, st4⟩ := Jvm.LawKit.callS X2 hx (y := (⟨"java/lang/StringUTF16", "toBytes", "([CII)[B"⟩ : MethodName)) hown (mvT hZ (wq hw 105 rfl)) (mvT hZ (wq hw 106 rfl)) (mvT hZ (wq hw 42 rfl)) (mvT hZ (wq hw 107 rfl)) (by decide) (backOf (W := 0) (rm_toBG l Z a0 hw [] d kd cl T2.heap n0 Z3 V_d S__assertionsDisabled S_HI_BYTE_SHIFT S_LO_BYTE_SHIFT hlen O) hZ (wq hw 107 rfl) (wq hw 42 rfl) (by decide) (by decide)) (g := (mkF m 23 #[.val (.ref d), .val (.int (0 : Int32)), .val (.int (Int32.ofNat cl.length)), .val (.ref nb1), .val (.int (Int32.ofNat j2)), .unset] [(.int (Int32.ofNat cl.length)), (.int (0 : Int32)), (.ref d)])) rfl (by rw [hml]; rfl) (argsL := [(.ref d), (.int (0 : Int32)), (.int (Int32.ofNat cl.length))]) (rest := []) (lenOf pd__28_5bCII_29_5bB rfl) rfl (by show 2 * 0 + _ ≤ _; exact Nat.le_of_eq rfl) (hb hby d9_23) (fun _ _ => ⟨rfl, rfl, (by decide : 1 + 1 ≤ _), (by decide : 3 + 6 ≤ _)⟩)
    dsimp only [Pt.U, Pt.locs, Pt.cells, Pt.slots] at X4 l4 y4 z4 st4 hQ4
    subst l4 y4 z4
    obtain ⟨r4, kr4, rfl, N4q, KQ4, fo0_4, g_r4, sl_r4⟩ := hQ4
    have N4 := Fr.app N2 N4q
    have V_d := V_d.keep KQ4 nin0
    have E_nb1 := E_nb1.keep KQ4
    have V_nb1 := V_nb1.keep KQ4 nin0
    have Z5 : n0 ≤ T4.heap.size := Nat.le_trans Z3 KQ4.1
    have O := O.keep KQ4 all0
    have K5 := K3.trans KQ4 all0
    have ne_d_r4 : d ≠ r4 := Nat.ne_of_lt (Nat.lt_of_lt_of_le lt_d sl_r4)
    have ne_r4_d := ne_d_r4.symm
    have ne_nb1_r4 : nb1 ≠ r4 := Nat.ne_of_lt (Nat.lt_of_lt_of_le lt_nb1 sl_r4)
    have ne_r4_nb1 := ne_nb1_r4.symm
    have sz_r4 : h0.size ≤ r4 := Nat.le_trans K3.1 sl_r4
    have V_r4 := fo0_4
    refine Goes.pre (U' := T4.setTop (mkF m 32 #[.val (.ref d), .val (.int (0 : Int32)), .val (.int (Int32.ofNat cl.length)), .val (.ref nb1), .val (.int (Int32.ofNat j2)), .val (.ref r4)] [(.int (Int32.ofNat j2)), (.ref r4)])) (fun t k => st4 t (XS.astore X4.here hx rfl (hb hby d9_26) rfl rfl (l' := #[.val (.ref d), .val (.int (0 : Int32)), .val (.int (Int32.ofNat cl.length)), .val (.ref nb1), .val (.int (Int32.ofNat j2)), .val (.ref r4)]) rfl (XS.aload X4.here hx rfl (hb hby d9_28) rfl rfl (XS.iload X4.here hx rfl (hb hby d9_30) rfl k)))) ?_
    obtain ⟨_, _, ⟨T6, L6, k6, n6⟩, -, X6, ⟨Lc6, hQ6, l6, y6, z6⟩, st6⟩ := Jvm.LawKit.callS X4 hx (y := (⟨"java/lang/StringUTF16", "getChar", "([BI)C"⟩ : MethodName)) hown (mvT hZ (wq hw 121 rfl)) (mvT hZ (wq hw 122 rfl)) (mvT hZ (wq hw 42 rfl)) (mvT hZ (wq hw 123 rfl)) (by decide) (backOf (W := 0) (rm_getChG l Z a0 hw [] r4 kr4 cl (Int32.ofNat j2) T4.heap n0 Z5 V_r4 S__assertionsDisabled S_HI_BYTE_SHIFT S_LO_BYTE_SHIFT (own_ix _ _ hj (Nat.le_trans hlen (by decide))).1 (own_ix _ _ hj (Nat.le_trans hlen (by decide))).2 (Nat.le_trans hlen (by decide)) hcA O) hZ (wq hw 123 rfl) (wq hw 42 rfl) (by decide) (by decide)) (g := (mkF m 32 #[.val (.ref d), .val (.int (0 : Int32)), .val (.int (Int32.ofNat cl.length)), .val (.ref nb1), .val (.int (Int32.ofNat j2)), .val (.ref r4)] [(.int (Int32.ofNat j2)), (.ref r4)])) rfl (by rw [hml]; rfl) (argsL := [(.ref r4), (.int (Int32.ofNat j2))]) (rest := []) (lenOf pd__28_5bBI_29C rfl) rfl (by show 2 * 0 + _ ≤ _; exact Nat.le_of_eq rfl) (hb hby d9_32) (fun _ _ => ⟨rfl, rfl, (by decide : 2 + 0 ≤ _), (by decide : 9 + 0 ≤ _)⟩)
    dsimp only [Pt.U, Pt.locs, Pt.cells, Pt.slots] at X6 l6 y6 z6 st6 hQ6
    subst l6 y6 z6
    obtain ⟨rfl, N6q, HQ6⟩ := hQ6
    have N6 := Fr.app N4 N6q
    refine Goes.pre (U' := T6.setTop (mkF m 38 #[.val (.ref d), .val (.int (0 : Int32)), .val (.int (Int32.ofNat cl.length)), .val (.ref nb1), .val (.int (Int32.ofNat j2)), .val (.ref r4)] [(.int (255 : Int32)), (.int (cl.getD (Int32.ofNat j2).toNatClampNeg 0))])) (fun t k => st6 t (XS.sipush X6.here hx rfl (hb hby d9_35) k)) ?_
    have hc38 : (255 : Int32) < (cl.getD (Int32.ofNat j2).toNatClampNeg 0) := by rw [own_ixn _ (Nat.le_trans (Nat.le_of_lt hj) (Nat.le_trans hlen (by decide)))]; exact hgt
    refine Goes.pre (U' := T6.setTop (mkF m 56 #[.val (.ref d), .val (.int (0 : Int32)), .val (.int (Int32.ofNat cl.length)), .val (.ref nb1), .val (.int (Int32.ofNat j2)), .val (.ref r4)] [(.ref r4)])) (fun t k => XS.icmpYes X6.here hx rfl (pc0 := 38) (pc' := 54) rfl (hb hby d9_38) rfl (tlt hc38).2.2.1 (by decide) (by decide) (XS.aload X6.here hx rfl (hb hby d9_54) rfl rfl k)) ?_
    refine Goes.ret X6 (v := (some (.ref r4))) (fun h => by rw [hret] at h; cases h) hlk (by decide) (by decide) HQ6 (fun fs hr => retOut X6 hx hret rfl (Or.inr (Or.inr (Or.inr (Or.inr ⟨rfl, rfl, rfl⟩)))) (hb hby d9_56) hr) ?_
    exact ⟨r4, kr4, rfl, N6, K5, Or.inr ⟨V_r4, _, own_gmem cl _ hj, hgt⟩, g_r4, sz_r4⟩
theorem ef_rm_cflG0 (m : MethodId) (x0 : Addr) (x1 : Int32) : entryFrame m #[(.ref x0), (.int x1)] 2 = mkF m 0 #[.val (.ref x0), .val (.int x1)] [] := by first | (simp [entryFrame, mkF, argsToLocals, Value.category]; done) | rfl
abbrev M11 : MethodName := ⟨"java/lang/StringUTF16", "coderFromArrayLen", "([BI)B"⟩
theorem d11_0 : decode jdk_52_method_15_code 0 = .ok (.iload_n 1, 1) := by decide +kernel
theorem d11_1 : decode jdk_52_method_15_code 1 = .ok (.aload_n 0, 1) := by decide +kernel
theorem d11_2 : decode jdk_52_method_15_code 2 = .ok (.arraylength, 1) := by decide +kernel
theorem d11_3 : decode jdk_52_method_15_code 3 = .ok (.isub, 1) := by decide +kernel
theorem d11_4 : decode jdk_52_method_15_code 4 = .ok (.bipush 31, 2) := by decide +kernel
theorem d11_6 : decode jdk_52_method_15_code 6 = .ok (.iushr, 1) := by decide +kernel
theorem d11_7 : decode jdk_52_method_15_code 7 = .ok (.i2b, 1) := by decide +kernel
theorem d11_8 : decode jdk_52_method_15_code 8 = .ok (.ireturn, 1) := by decide +kernel
def Q_rm_cflG0 (Z : State) (b : Addr) (kb : ClassId) (cl : List Int32) (h0 : Heap) (n0 : Nat) (v : Option Value) (h : Heap) (L : List Loc) : Prop := v = some (.int (0 : Int32)) ∧ Fr n0 L ∧ h = h0
set_option maxRecDepth 65536 in
set_option maxHeartbeats 40000000 in
theorem rm_cflG0 (l : Launch) (Z : State) (a0 : Array Value) (hw : ∀ d ∈ tables_1, d.before a0 Z = true) (ws : List Jvm.Cond) (b : Addr) (kb : ClassId) (cl : List Int32) (h0 : Heap) (n0 : Nat) (Z0 : n0 ≤ h0.size) (V_b : Arv Z h0 b kb .byte (Int32.ofNat cl.length) (cl.map fun c => .int c.toInt8.toInt32) (.int (0 : Int32))) (hp : 0 < cl.length) (hlen : cl.length ≤ 3) :
    Met l Z M11 jdk_52_method_15_code 2 (some .byte) ws (Rm 0 0 0 0) #[(.ref b), (.int (Int32.ofNat cl.length))] h0 (Q_rm_cflG0 Z b kb cl h0 n0) := by
  refine met_of (plainFor_of_name pn_java_lang_StringUTF16) (own := "java/lang/StringUTF16") rfl (fun m => ef_rm_cflG0 m b (Int32.ofNat cl.length)) ?_
  intro p e s m below meth c s₁ hx hby hml hown hnm hZ X0 e0 hret hlk
  have N0 := Fr.nil n0
  show Goes p e below s _ _ _ (s₁.setTop (mkF m 0 #[.val (.ref b), .val (.int (Int32.ofNat cl.length))] []))
  refine Goes.pre (U' := s₁.setTop (mkF m 2 #[.val (.ref b), .val (.int (Int32.ofNat cl.length))] [(.ref b), (.int (Int32.ofNat cl.length))])) (fun t k => XS.iloadN X0.here hx rfl (hb hby d11_0) rfl (XS.aloadN X0.here hx rfl (hb hby d11_1) rfl rfl k)) ?_
  obtain ⟨cl1, Ar1, q1, Sz1, Ng1, -, -⟩ := id V_b
  have ln1 := len_of Sz1 Ng1
  refine Goes.pre (U' := s₁.setTop (mkF m 8 #[.val (.ref b), .val (.int (Int32.ofNat cl.length))] [(.int (((((Int32.ofNat cl.length) - (Int32.ofNat cl.length)).toUInt32 >>> ((31 : Int32) &&& 31).toUInt32).toInt32).toInt8.toInt32))])) (fun t k => X0.arraylength hx (by rw [e0]; exact Ar1.1) (State.isArrayOf_alike hZ.alike Ar1.2.1) (g := (mkF m 2 #[.val (.ref b), .val (.int (Int32.ofNat cl.length))] [(.ref b), (.int (Int32.ofNat cl.length))])) rfl rfl (hb hby d11_2) _ (by rw [ln1]; exact (XS.isub X0.here hx rfl (hb hby d11_3) rfl (XS.bipush X0.here hx rfl (hb hby d11_4) (XS.iushr X0.here hx rfl (hb hby d11_6) rfl (XS.i2b X0.here hx rfl (hb hby d11_7) rfl k)))))) ?_
  refine Goes.ret X0 (v := (some (.int (0 : Int32)))) (fun h => by rw [hret] at h; cases h) hlk (by decide) (by decide) e0 (fun fs hr => retN X0 hx (t := .byte) hret (by simp) (hb hby d11_8) (by rw [show nar .byte (((((Int32.ofNat cl.length) - (Int32.ofNat cl.length)).toUInt32 >>> ((31 : Int32) &&& 31).toUInt32).toInt32).toInt8.toInt32) = (0 : Int32) from own_c0]; exact hr)) ?_
  exact ⟨rfl, N0, rfl⟩
theorem ef_rm_cflG1 (m : MethodId) (x0 : Addr) (x1 : Int32) : entryFrame m #[(.ref x0), (.int x1)] 2 = mkF m 0 #[.val (.ref x0), .val (.int x1)] [] := by first | (simp [entryFrame, mkF, argsToLocals, Value.category]; done) | rfl
def Q_rm_cflG1 (Z : State) (b : Addr) (kb : ClassId) (cl : List Int32) (h0 : Heap) (n0 : Nat) (v : Option Value) (h : Heap) (L : List Loc) : Prop := v = some (.int (1 : Int32)) ∧ Fr n0 L ∧ h = h0
set_option maxRecDepth 65536 in
set_option maxHeartbeats 40000000 in
theorem rm_cflG1 (l : Launch) (Z : State) (a0 : Array Value) (hw : ∀ d ∈ tables_1, d.before a0 Z = true) (ws : List Jvm.Cond) (b : Addr) (kb : ClassId) (cl : List Int32) (h0 : Heap) (n0 : Nat) (Z0 : n0 ≤ h0.size) (V_b : Arv Z h0 b kb .byte (Int32.ofNat (2 * cl.length)) (cl.flatMap fun c => [.int (c >>> ((0 : Int32) &&& 31)).toInt8.toInt32, .int (c >>> ((8 : Int32) &&& 31)).toInt8.toInt32]) (.int (0 : Int32))) (hp : 0 < cl.length) (hlen : cl.length ≤ 3) :
    Met l Z M11 jdk_52_method_15_code 2 (some .byte) ws (Rm 0 0 0 0) #[(.ref b), (.int (Int32.ofNat cl.length))] h0 (Q_rm_cflG1 Z b kb cl h0 n0) := by
  refine met_of (plainFor_of_name pn_java_lang_StringUTF16) (own := "java/lang/StringUTF16") rfl (fun m => ef_rm_cflG1 m b (Int32.ofNat cl.length)) ?_
  intro p e s m below meth c s₁ hx hby hml hown hnm hZ X0 e0 hret hlk
  have N0 := Fr.nil n0
  show Goes p e below s _ _ _ (s₁.setTop (mkF m 0 #[.val (.ref b), .val (.int (Int32.ofNat cl.length))] []))
  refine Goes.pre (U' := s₁.setTop (mkF m 2 #[.val (.ref b), .val (.int (Int32.ofNat cl.length))] [(.ref b), (.int (Int32.ofNat cl.length))])) (fun t k => XS.iloadN X0.here hx rfl (hb hby d11_0) rfl (XS.aloadN X0.here hx rfl (hb hby d11_1) rfl rfl k)) ?_
  obtain ⟨cl1, Ar1, q1, Sz1, Ng1, -, -⟩ := id V_b
  have ln1 := len_of Sz1 Ng1
  refine Goes.pre (U' := s₁.setTop (mkF m 8 #[.val (.ref b), .val (.int (Int32.ofNat cl.length))] [(.int (((((Int32.ofNat cl.length) - (Int32.ofNat (2 * cl.length))).toUInt32 >>> ((31 : Int32) &&& 31).toUInt32).toInt32).toInt8.toInt32))])) (fun t k => X0.arraylength hx (by rw [e0]; exact Ar1.1) (State.isArrayOf_alike hZ.alike Ar1.2.1) (g := (mkF m 2 #[.val (.ref b), .val (.int (Int32.ofNat cl.length))] [(.ref b), (.int (Int32.ofNat cl.length))])) rfl rfl (hb hby d11_2) _ (by rw [ln1]; exact (XS.isub X0.here hx rfl (hb hby d11_3) rfl (XS.bipush X0.here hx rfl (hb hby d11_4) (XS.iushr X0.here hx rfl (hb hby d11_6) rfl (XS.i2b X0.here hx rfl (hb hby d11_7) rfl k)))))) ?_
  refine Goes.ret X0 (v := (some (.int (1 : Int32)))) (fun h => by rw [hret] at h; cases h) hlk (by decide) (by decide) e0 (fun fs hr => retN X0 hx (t := .byte) hret (by simp) (hb hby d11_8) (by rw [show nar .byte (((((Int32.ofNat cl.length) - (Int32.ofNat (2 * cl.length))).toUInt32 >>> ((31 : Int32) &&& 31).toUInt32).toInt32).toInt8.toInt32) = (1 : Int32) from own_c1 _ hp (Nat.le_trans hlen (by decide))]; exact hr)) ?_
  exact ⟨rfl, N0, rfl⟩
theorem ef_rm_init4G (m : MethodId) (x0 : Addr) (x1 : Addr) (x2 : Int32) (x3 : Int32) : entryFrame m #[(.ref x0), (.ref x1), (.int x2), (.int x3), .null] 6 = mkF m 0 #[.val (.ref x0), .val (.ref x1), .val (.int x2), .val (.int x3), .val .null, .unset] [] := by first | (simp [entryFrame, mkF, argsToLocals, Value.category]; done) | rfl
abbrev M7 : MethodName := ⟨"java/lang/String", "<init>", "([CIILjava/lang/Void;)V"⟩
theorem d7_0 : decode jdk_42_method_149_code 0 = .ok (.aload_n 0, 1) := by decide +kernel
theorem d7_1 : decode jdk_42_method_149_code 1 = .ok (.invokespecial 1, 3) := by decide +kernel
theorem d7_4 : decode jdk_42_method_149_code 4 = .ok (.iload_n 3, 1) := by decide +kernel
theorem d7_5 : decode jdk_42_method_149_code 5 = .ok (.ifCond .ne 22, 3) := by decide +kernel
theorem d7_27 : decode jdk_42_method_149_code 27 = .ok (.getstatic 38, 3) := by decide +kernel
theorem d7_30 : decode jdk_42_method_149_code 30 = .ok (.ifCond .eq 28, 3) := by decide +kernel
theorem d7_33 : decode jdk_42_method_149_code 33 = .ok (.aload_n 1, 1) := by decide +kernel
theorem d7_34 : decode jdk_42_method_149_code 34 = .ok (.iload_n 2, 1) := by decide +kernel
theorem d7_35 : decode jdk_42_method_149_code 35 = .ok (.iload_n 3, 1) := by decide +kernel
theorem d7_36 : decode jdk_42_method_149_code 36 = .ok (.invokestatic 177, 3) := by decide +kernel
theorem d7_39 : decode jdk_42_method_149_code 39 = .ok (.astore 5, 2) := by decide +kernel
theorem d7_41 : decode jdk_42_method_149_code 41 = .ok (.aload_n 0, 1) := by decide +kernel
theorem d7_42 : decode jdk_42_method_149_code 42 = .ok (.aload 5, 2) := by decide +kernel
theorem d7_44 : decode jdk_42_method_149_code 44 = .ok (.iload_n 3, 1) := by decide +kernel
theorem d7_45 : decode jdk_42_method_149_code 45 = .ok (.invokestatic 47, 3) := by decide +kernel
theorem pd__28_5bBI_29B : parseMethodDescriptor "([BI)B" = some ⟨[(.array .byte), .int], some .byte⟩ := by decide +kernel
theorem d7_48 : decode jdk_42_method_149_code 48 = .ok (.putfield 15, 3) := by decide +kernel
theorem d7_51 : decode jdk_42_method_149_code 51 = .ok (.aload_n 0, 1) := by decide +kernel
theorem d7_52 : decode jdk_42_method_149_code 52 = .ok (.aload 5, 2) := by decide +kernel
theorem d7_54 : decode jdk_42_method_149_code 54 = .ok (.putfield 9, 3) := by decide +kernel
theorem d7_57 : decode jdk_42_method_149_code 57 = .ok (.return_, 1) := by decide +kernel
def Q_rm_init4G (Z : State) (a : Addr) (d : Addr) (kd : ClassId) (cl : List Int32) (cs : Int32) (h0 : Heap) (n0 : Nat) (v : Option Value) (h : Heap) (L : List Loc) : Prop := ∃ (b : Addr) (kb : ClassId), v = none ∧ Fr n0 L ∧ Keep h0 h [a] ∧ OwnStr Z h a b kb cl ∧ n0 ≤ b ∧ h0.size ≤ b
set_option maxRecDepth 65536 in
set_option maxHeartbeats 40000000 in
theorem rm_init4G (l : Launch) (Z : State) (a0 : Array Value) (hw : ∀ d ∈ tables_1, d.before a0 Z = true) (ws : List Jvm.Cond) (a : Addr) (d : Addr) (kd : ClassId) (cl : List Int32) (cs : Int32) (h0 : Heap) (n0 : Nat) (Z0 : n0 ≤ h0.size) (E_a : Exa Z h0 a "java/lang/String") (F_value_a : Fld Z h0 a "java/lang/String" "value" "[B" .null) (F_coder_a : Fld Z h0 a "java/lang/String" "coder" "B" (.int (0 : Int32))) (V_d : Arv Z h0 d kd .char (Int32.ofNat cl.length) (cl.map Value.int) (.int (0 : Int32))) (S_COMPACT_STRINGS : Sta Z Z.heap "java/lang/String" "COMPACT_STRINGS" "Z" (.int cs)) (S__assertionsDisabled : Sta Z Z.heap "java/lang/StringUTF16" "$assertionsDisabled" "Z" (.int (1 : Int32))) (S_HI_BYTE_SHIFT : Sta Z Z.heap "java/lang/StringUTF16" "HI_BYTE_SHIFT" "I" (.int (0 : Int32))) (S_LO_BYTE_SHIFT : Sta Z Z.heap "java/lang/StringUTF16" "LO_BYTE_SHIFT" "I" (.int (8 : Int32))) (hlen : cl.length ≤ 3) (hcA : ∀ c ∈ cl, OwnCh c) (hne : cl ≠ []) (hcs : ¬ (cs = (0 : Int32))) (ne_d_a : d ≠ a) (g_a : n0 ≤ a) (O : Old Z n0 h0) :
    Met l Z M7 jdk_42_method_149_code 6 none ws (Rm 4 2 9 57) #[(.ref a), (.ref d), (.int (0 : Int32)), (.int (Int32.ofNat cl.length)), .null] h0 (Q_rm_init4G Z a d kd cl cs h0 n0) := by
  refine met_of (plainFor_of_name pn_java_lang_String) (own := "java/lang/String") rfl (fun m => ef_rm_init4G m a d (0 : Int32) (Int32.ofNat cl.length)) ?_
  intro p e s m below meth c s₁ hx hby hml hown hnm hZ X0 e0 hret hlk
  have N0 := Fr.nil n0
  have K0 := Keep.refl h0 [a]
  show Goes p e below s _ _ _ (s₁.setTop (mkF m 0 #[.val (.ref a), .val (.ref d), .val (.int (0 : Int32)), .val (.int (Int32.ofNat cl.length)), .val .null, .unset] []))
  refine Goes.pre (U' := s₁.setTop (mkF m 1 #[.val (.ref a), .val (.ref d), .val (.int (0 : Int32)), .val (.int (Int32.ofNat cl.length)), .val .null, .unset] [(.ref a)])) (fun t k => XS.aloadN X0.here hx rfl (hb hby d7_0) rfl rfl k) ?_
  obtain ⟨T1, X1, e1, st1⟩ := initO X0 hx hZ hown (wq hw 36 rfl) (wq hw 37 rfl) (wq hw 38 rfl) e0 (g := (mkF m 1 #[.val (.ref a), .val (.ref d), .val (.int (0 : Int32)), .val (.int (Int32.ofNat cl.length)), .val .null, .unset] [(.ref a)])) rfl (by rw [hml]; rfl) rfl (hb hby d7_1) (by decide) (W := 0) (by show 2 * 0 + _ ≤ _; exact Nat.le_of_eq rfl) (by decide)
  refine Goes.pre (U' := T1.setTop (mkF m 5 #[.val (.ref a), .val (.ref d), .val (.int (0 : Int32)), .val (.int (Int32.ofNat cl.length)), .val .null, .unset] [(.int (Int32.ofNat cl.length))])) (fun t k => st1 t (XS.iloadN X1.here hx rfl (hb hby d7_4) rfl k)) ?_
  have hc5 : ¬ ((Int32.ofNat cl.length) = (0 : Int32)) := own_ne0 cl hne (Nat.le_trans hlen (by decide))
  refine Goes.pre (U' := T1.setTop (mkF m 27 #[.val (.ref a), .val (.ref d), .val (.int (0 : Int32)), .val (.int (Int32.ofNat cl.length)), .val .null, .unset] [])) (fun t k => XS.ifYes X1.here hx rfl (pc0 := 5) (pc' := 27) rfl (hb hby d7_5) rfl ((if0 _ _).trans (feq hc5).2) (by decide) (by decide) k) ?_
  obtain ⟨T2, X2, e2, st2⟩ := getS2 X1 hx hZ hown (host := "") (Or.inl (wq hw 39 rfl)) Via.refl e1 (S_COMPACT_STRINGS.ext O.2) (g := (mkF m 27 #[.val (.ref a), .val (.ref d), .val (.int (0 : Int32)), .val (.int (Int32.ofNat cl.length)), .val .null, .unset] [])) rfl (hb hby d7_27)
  refine Goes.pre (U' := T2.setTop (mkF m 30 #[.val (.ref a), .val (.ref d), .val (.int (0 : Int32)), .val (.int (Int32.ofNat cl.length)), .val .null, .unset] [(.int cs)])) (fun t k => st2 t k) ?_
  have hc30 : ¬ (cs = (0 : Int32)) := hcs
  refine Goes.pre (U' := T2.setTop (mkF m 36 #[.val (.ref a), .val (.ref d), .val (.int (0 : Int32)), .val (.int (Int32.ofNat cl.length)), .val .null, .unset] [(.int (Int32.ofNat cl.length)), (.int (0 : Int32)), (.ref d)])) (fun t k => XS.ifNo X2.here hx rfl (hb hby d7_30) rfl ((if0 _ _).trans (feq hc30).1) (XS.aloadN X2.here hx rfl (hb hby d7_33) rfl rfl (XS.iloadN X2.here hx rfl (hb hby d7_34) rfl (XS.iloadN X2.here hx rfl (hb hby d7_35) rfl k)))) ?_
  have lt_a := E_a.lt
  have lt_d := V_d.lt
  obtain ⟨_, _, ⟨T3, L3, k3, n3⟩, -, X3, ⟨Lc3, hQ3, l3, y3, z3⟩, st3⟩ := Jvm.LawKit.callS X2 hx (y := (⟨"java/lang/StringUTF16", "compress", "([CII)[B"⟩ : MethodName)) hown (mvT hZ (wq hw 40 rfl)) (mvT hZ (wq hw 41 rfl)) (mvT hZ (wq hw 42 rfl)) (mvT hZ (wq hw 43 rfl)) (by decide) (backOf (W := 0) (rm_cmpG l Z a0 hw [] d kd cl h0 n0 Z0 V_d S__assertionsDisabled S_HI_BYTE_SHIFT S_LO_BYTE_SHIFT hlen hcA O) hZ (wq hw 43 rfl) (wq hw 42 rfl) (by decide) (by decide)) (g := (mkF m 36 #[.val (.ref a), .val (.ref d), .val (.int (0 : Int32)), .val (.int (Int32.ofNat cl.length)), .val .null, .unset] [(.int (Int32.ofNat cl.length)), (.int (0 : Int32)), (.ref d)])) rfl (by rw [hml]; rfl) (argsL := [(.ref d), (.int (0 : Int32)), (.int (Int32.ofNat cl.length))]) (rest := []) (lenOf pd__28_5bCII_29_5bB rfl) rfl (by show 2 * 0 + _ ≤ _; exact Nat.le_of_eq rfl) (hb hby d7_36) (fun _ _ => ⟨rfl, e2, (by decide : 0 + 2 ≤ _), (by decide : 0 + 9 ≤ _)⟩)
  dsimp only [Pt.U, Pt.locs, Pt.cells, Pt.slots] at X3 l3 y3 z3 st3 hQ3
  subst l3 y3 z3
  obtain ⟨r3, kr3, rfl, N3q, KQ3, fo0_3, g_r3, sl_r3⟩ := hQ3
  have N3 := Fr.app N0 N3q
  have E_a := E_a.keep KQ3
  have F_value_a := F_value_a.keep KQ3 nin0
  have F_coder_a := F_coder_a.keep KQ3 nin0
  have V_d := V_d.keep KQ3 nin0
  have Z4 : n0 ≤ T3.heap.size := Nat.le_trans Z0 KQ3.1
  have O := O.keep KQ3 all0
  have K4 := K0.trans KQ3 all0
  have ne_a_r3 : a ≠ r3 := Nat.ne_of_lt (Nat.lt_of_lt_of_le lt_a sl_r3)
  have ne_r3_a := ne_a_r3.symm
  have ne_d_r3 : d ≠ r3 := Nat.ne_of_lt (Nat.lt_of_lt_of_le lt_d sl_r3)
  have ne_r3_d := ne_d_r3.symm
  have sz_r3 : h0.size ≤ r3 := Nat.le_trans K0.1 sl_r3
  have Byt_r3 := fo0_3
  refine Goes.pre (U' := T3.setTop (mkF m 41 #[.val (.ref a), .val (.ref d), .val (.int (0 : Int32)), .val (.int (Int32.ofNat cl.length)), .val .null, .val (.ref r3)] [])) (fun t k => st3 t (XS.astore X3.here hx rfl (hb hby d7_39) rfl rfl (l' := #[.val (.ref a), .val (.ref d), .val (.int (0 : Int32)), .val (.int (Int32.ofNat cl.length)), .val .null, .val (.ref r3)]) rfl k)) ?_
  rcases Byt_r3 with ⟨V_r3, hleS⟩ | ⟨V_r3, hexS⟩
  ·
    refine Goes.pre (U' := T3.setTop (mkF m 45 #[.val (.ref a), .val (.ref d), .val (.int (0 : Int32)), .val (.int (Int32.ofNat cl.length)), .val .null, .val (.ref r3)] [(.int (Int32.ofNat cl.length)), (.ref r3), (.ref a)])) (fun t k => XS.aloadN X3.here hx rfl (hb hby d7_41) rfl rfl (XS.aload X3.here hx rfl (hb hby d7_42) rfl rfl (XS.iloadN X3.here hx rfl (hb hby d7_44) rfl k))) ?_
    obtain ⟨_, _, ⟨T5, L5, k5, n5⟩, -, X5, ⟨Lc5, hQ5, l5, y5, z5⟩, st5⟩ := Jvm.LawKit.callS X3 hx (y := (⟨"java/lang/StringUTF16", "coderFromArrayLen", "([BI)B"⟩ : MethodName)) hown (mvT hZ (wq hw 47 rfl)) (mvT hZ (wq hw 48 rfl)) (mvT hZ (wq hw 42 rfl)) (mvT hZ (wq hw 49 rfl)) (by decide) (backOf (W := 1) (rm_cflG0 l Z a0 hw [] r3 kr3 cl T3.heap n0 Z4 V_r3 (List.length_pos_iff.mpr hne) hlen) hZ (wq hw 49 rfl) (wq hw 42 rfl) (by decide) (by decide)) (g := (mkF m 45 #[.val (.ref a), .val (.ref d), .val (.int (0 : Int32)), .val (.int (Int32.ofNat cl.length)), .val .null, .val (.ref r3)] [(.int (Int32.ofNat cl.length)), (.ref r3), (.ref a)])) rfl (by rw [hml]; rfl) (argsL := [(.ref r3), (.int (Int32.ofNat cl.length))]) (rest := [(.ref a)]) (lenOf pd__28_5bBI_29B rfl) rfl (by show 2 * 0 + _ ≤ _; exact Nat.le_of_eq rfl) (hb hby d7_45) (fun _ _ => ⟨rfl, rfl, (by decide : 2 + 0 ≤ _), (by decide : 9 + 0 ≤ _)⟩)
    dsimp only [Pt.U, Pt.locs, Pt.cells, Pt.slots] at X5 l5 y5 z5 st5 hQ5
    subst l5 y5 z5
    obtain ⟨rfl, N5q, HQ5⟩ := hQ5
    have N5 := Fr.app N3 N5q
    refine Goes.pre (U' := T5.setTop (mkF m 48 #[.val (.ref a), .val (.ref d), .val (.int (0 : Int32)), .val (.int (Int32.ofNat cl.length)), .val .null, .val (.ref r3)] [(.int (0 : Int32)), (.ref a)])) (fun t k => st5 t k) ?_
    obtain ⟨T6, h6, X6, e6, W6, st6⟩ := putFN X5 hx hZ hown (wq hw 50 rfl) Via.refl HQ5 F_coder_a E_a (Or.inr ⟨(wq hw 9 rfl), rfl, hnm⟩) (wq hw 6 rfl) (ty := .byte) (v' := (.int (0 : Int32))) (by decide) rfl (by decide) (g := (mkF m 48 #[.val (.ref a), .val (.ref d), .val (.int (0 : Int32)), .val (.int (Int32.ofNat cl.length)), .val .null, .val (.ref r3)] [(.int (0 : Int32)), (.ref a)])) rfl rfl (hb hby d7_48)
    have E_a := E_a.wr W6
    have F_value_a := F_value_a.other W6 (Or.inr (slot_ne (Or.inr (wq hw 8 rfl)) (Or.inr (wq hw 9 rfl)) (by decide) (t := (.array .byte)) (t' := .byte) (by decide) (by decide)))
    have V_d := V_d.other W6 ne_d_a
    have V_r3 := V_r3.other W6 ne_r3_a
    have Z6 : n0 ≤ h6.size := Nat.le_trans Z4 (Keep.of_wr W6).1
    have O := O.wr W6 g_a
    have F_coder_a := F_coder_a.same W6
    have K6 := K4.wr W6 (Or.inl (List.mem_of_getElem? (i := 0) rfl))
    have N6 := Fr.snoc X6 N5 g_a
    refine Goes.pre (U' := T6.setTop (mkF m 54 #[.val (.ref a), .val (.ref d), .val (.int (0 : Int32)), .val (.int (Int32.ofNat cl.length)), .val .null, .val (.ref r3)] [(.ref r3), (.ref a)])) (fun t k => st6 t (XS.aloadN X6.here hx rfl (hb hby d7_51) rfl rfl (XS.aload X6.here hx rfl (hb hby d7_52) rfl rfl k))) ?_
    obtain ⟨T7, h7, X7, e7, W7, st7⟩ := putF X6 hx hZ hown (host := "") (Or.inl (wq hw 51 rfl)) Via.refl e6 F_value_a E_a (Or.inr ⟨(wq hw 8 rfl), rfl, hnm⟩) (wq hw 6 rfl) (ty := (.array .byte)) (by decide) rfl rfl (g := (mkF m 54 #[.val (.ref a), .val (.ref d), .val (.int (0 : Int32)), .val (.int (Int32.ofNat cl.length)), .val .null, .val (.ref r3)] [(.ref r3), (.ref a)])) rfl rfl (hb hby d7_54)
    have E_a := E_a.wr W7
    have F_coder_a := F_coder_a.other W7 (Or.inr (slot_ne (Or.inr (wq hw 9 rfl)) (Or.inr (wq hw 8 rfl)) (by decide) (t := .byte) (t' := (.array .byte)) (by decide) (by decide)))
    have V_d := V_d.other W7 ne_d_a
    have V_r3 := V_r3.other W7 ne_r3_a
    have Z7 : n0 ≤ h7.size := Nat.le_trans Z6 (Keep.of_wr W7).1
    have O := O.wr W7 g_a
    have F_value_a := F_value_a.same W7
    have K7 := K6.wr W7 (Or.inl (List.mem_of_getElem? (i := 0) rfl))
    have N7 := Fr.snoc X7 N6 g_a
    refine Goes.pre (U' := T7.setTop (mkF m 57 #[.val (.ref a), .val (.ref d), .val (.int (0 : Int32)), .val (.int (Int32.ofNat cl.length)), .val .null, .val (.ref r3)] [])) (fun t k => st7 t k) ?_
    refine Goes.ret X7 (v := none) (fun _ => rfl) hlk (by decide) (by decide) e7 (fun fs hr => X7.returnOut hx hret (hb hby d7_57) hr) ?_
    exact ⟨r3, kr3, rfl, N7, K7, ⟨E_a, F_value_a, hcA, Or.inl ⟨F_coder_a, V_r3, hleS⟩⟩, g_r3, sz_r3⟩
  ·
    refine Goes.pre (U' := T3.setTop (mkF m 45 #[.val (.ref a), .val (.ref d), .val (.int (0 : Int32)), .val (.int (Int32.ofNat cl.length)), .val .null, .val (.ref r3)] [(.int (Int32.ofNat cl.length)), (.ref r3), (.ref a)])) (fun t k => XS.aloadN X3.here hx rfl (hb hby d7_41) rfl rfl (XS.aload X3.here hx rfl (hb hby d7_42) rfl rfl (XS.iloadN X3.here hx rfl (hb hby d7_44) rfl k))) ?_
    obtain ⟨_, _, ⟨T8, L8, k8, n8⟩, -, X8, ⟨Lc8, hQ8, l8, y8, z8⟩, st8⟩ := Jvm.LawKit.callS X3 hx (y := (⟨"java/lang/StringUTF16", "coderFromArrayLen", "([BI)B"⟩ : MethodName)) hown (mvT hZ (wq hw 47 rfl)) (mvT hZ (wq hw 48 rfl)) (mvT hZ (wq hw 42 rfl)) (mvT hZ (wq hw 49 rfl)) (by decide) (backOf (W := 1) (rm_cflG1 l Z a0 hw [] r3 kr3 cl T3.heap n0 Z4 V_r3 (List.length_pos_iff.mpr hne) hlen) hZ (wq hw 49 rfl) (wq hw 42 rfl) (by decide) (by decide)) (g := (mkF m 45 #[.val (.ref a), .val (.ref d), .val (.int (0 : Int32)), .val (.int (Int32.ofNat cl.length)), .val .null, .val (.ref r3)] [(.int (Int32.ofNat cl.length)), (.ref r3), (.ref a)])) rfl (by rw [hml]; rfl) (argsL := [(.ref r3), (.int (Int32.ofNat cl.length))]) (rest := [(.ref a)]) (lenOf pd__28_5bBI_29B rfl) rfl (by show 2 * 0 + _ ≤ _; exact Nat.le_of_eq rfl) (hb hby d7_45) (fun _ _ => ⟨rfl, rfl, (by decide : 2 + 0 ≤ _), (by decide : 9 + 0 ≤ _)⟩)
    dsimp only [Pt.U, Pt.locs, Pt.cells, Pt.slots] at X8 l8 y8 z8 st8 hQ8
    subst l8 y8 z8
    obtain ⟨rfl, N8q, HQ8⟩ := hQ8
    have N8 := Fr.app N3 N8q
    refine Goes.pre (U' := T8.setTop (mkF m 48 #[.val (.ref a), .val (.ref d), .val (.int (0 : Int32)), .val (.int (Int32.ofNat cl.length)), .val .null, .val (.ref r3)] [(.int (1 : Int32)), (.ref a)])) (fun t k => st8 t k) ?_
    obtain ⟨T9, h9, X9, e9, W9, st9⟩ := putFN X8 hx hZ hown (wq hw 50 rfl) Via.refl HQ8 F_coder_a E_a (Or.inr ⟨(wq hw 9 rfl), rfl, hnm⟩) (wq hw 6 rfl) (ty := .byte) (v' := (.int (1 : Int32))) (by decide) rfl (by decide) (g := (mkF m 48 #[.val (.ref a), .val (.ref d), .val (.int (0 : Int32)), .val (.int (Int32.ofNat cl.length)), .val .null, .val (.ref r3)] [(.int (1 : Int32)), (.ref a)])) rfl rfl (hb hby d7_48)
    have E_a := E_a.wr W9
    have F_value_a := F_value_a.other W9 (Or.inr (slot_ne (Or.inr (wq hw 8 rfl)) (Or.inr (wq hw 9 rfl)) (by decide) (t := (.array .byte)) (t' := .byte) (by decide) (by decide)))
    have V_d := V_d.other W9 ne_d_a
    have V_r3 := V_r3.other W9 ne_r3_a
    have Z9 : n0 ≤ h9.size := Nat.le_trans Z4 (Keep.of_wr W9).1
    have O := O.wr W9 g_a
    have F_coder_a := F_coder_a.same W9
    have K9 := K4.wr W9 (Or.inl (List.mem_of_getElem? (i := 0) rfl))
    have N9 := Fr.snoc X9 N8 g_a
    refine Goes.pre (U' := T9.setTop (mkF m 54 #[.val (.ref a), .val (.ref d), .val (.int (0 : Int32)), .val (.int (Int32.ofNat cl.length)), .val .null, .val (.ref r3)] [(.ref r3), (.ref a)])) (fun t k => st9 t (XS.aloadN X9.here hx rfl (hb hby d7_51) rfl rfl (XS.aload X9.here hx rfl (hb hby d7_52) rfl rfl k))) ?_
    obtain ⟨T10, h10, X10, e10, W10, st10⟩ := putF X9 hx hZ hown (host := "") (Or.inl (wq hw 51 rfl)) Via.refl e9 F_value_a E_a (Or.inr ⟨(wq hw 8 rfl), rfl, hnm⟩) (wq hw 6 rfl) (ty := (.array .byte)) (by decide) rfl rfl (g := (mkF m 54 #[.val (.ref a), .val (.ref d), .val (.int (0 : Int32)), .val (.int (Int32.ofNat cl.length)), .val .null, .val (.ref r3)] [(.ref r3), (.ref a)])) rfl rfl (hb hby d7_54)
    have E_a := E_a.wr W10
    have F_coder_a := F_coder_a.other W10 (Or.inr (slot_ne (Or.inr (wq hw 9 rfl)) (Or.inr (wq hw 8 rfl)) (by decide) (t := .byte) (t' := (.array .byte)) (by decide) (by decide)))
    have V_d := V_d.other W10 ne_d_a
    have V_r3 := V_r3.other W10 ne_r3_a
    have Z10 : n0 ≤ h10.size := Nat.le_trans Z9 (Keep.of_wr W10).1
    have O := O.wr W10 g_a
    have F_value_a := F_value_a.same W10
    have K10 := K9.wr W10 (Or.inl (List.mem_of_getElem? (i := 0) rfl))
    have N10 := Fr.snoc X10 N9 g_a
    refine Goes.pre (U' := T10.setTop (mkF m 57 #[.val (.ref a), .val (.ref d), .val (.int (0 : Int32)), .val (.int (Int32.ofNat cl.length)), .val .null, .val (.ref r3)] [])) (fun t k => st10 t k) ?_
    refine Goes.ret X10 (v := none) (fun _ => rfl) hlk (by decide) (by decide) e10 (fun fs hr => X10.returnOut hx hret (hb hby d7_57) hr) ?_
    exact ⟨r3, kr3, rfl, N10, K10, ⟨E_a, F_value_a, hcA, Or.inr ⟨F_coder_a, V_r3, hexS⟩⟩, g_r3, sz_r3⟩
theorem ef_rm_init1G (m : MethodId) (x0 : Addr) (x1 : Addr) : entryFrame m #[(.ref x0), (.ref x1)] 2 = mkF m 0 #[.val (.ref x0), .val (.ref x1)] [] := by first | (simp [entryFrame, mkF, argsToLocals, Value.category]; done) | rfl
abbrev M6 : MethodName := ⟨"java/lang/String", "<init>", "([C)V"⟩
theorem d6_0 : decode jdk_42_method_3_code 0 = .ok (.aload_n 0, 1) := by decide +kernel
theorem d6_1 : decode jdk_42_method_3_code 1 = .ok (.aload_n 1, 1) := by decide +kernel
theorem d6_2 : decode jdk_42_method_3_code 2 = .ok (.iconst 0, 1) := by decide +kernel
theorem d6_3 : decode jdk_42_method_3_code 3 = .ok (.aload_n 1, 1) := by decide +kernel
theorem d6_4 : decode jdk_42_method_3_code 4 = .ok (.arraylength, 1) := by decide +kernel
theorem d6_5 : decode jdk_42_method_3_code 5 = .ok (.aconst_null, 1) := by decide +kernel
theorem d6_6 : decode jdk_42_method_3_code 6 = .ok (.invokespecial 27, 3) := by decide +kernel
theorem pd__28_5bCIILjava_2flang_2fVoid_3b_29V : parseMethodDescriptor "([CIILjava/lang/Void;)V" = some ⟨[(.array .char), .int, .int, (.object "java/lang/Void")], none⟩ := by decide +kernel
theorem d6_9 : decode jdk_42_method_3_code 9 = .ok (.return_, 1) := by decide +kernel
def Q_rm_init1G (Z : State) (a : Addr) (d : Addr) (kd : ClassId) (cl : List Int32) (cs : Int32) (h0 : Heap) (n0 : Nat) (v : Option Value) (h : Heap) (L : List Loc) : Prop := ∃ (b : Addr) (kb : ClassId), v = none ∧ Fr n0 L ∧ Keep h0 h [a] ∧ OwnStr Z h a b kb cl ∧ n0 ≤ b ∧ h0.size ≤ b
set_option maxRecDepth 65536 in
set_option maxHeartbeats 40000000 in
theorem rm_init1G (l : Launch) (Z : State) (a0 : Array Value) (hw : ∀ d ∈ tables_1, d.before a0 Z = true) (ws : List Jvm.Cond) (a : Addr) (d : Addr) (kd : ClassId) (cl : List Int32) (cs : Int32) (h0 : Heap) (n0 : Nat) (Z0 : n0 ≤ h0.size) (E_a : Exa Z h0 a "java/lang/String") (F_value_a : Fld Z h0 a "java/lang/String" "value" "[B" .null) (F_coder_a : Fld Z h0 a "java/lang/String" "coder" "B" (.int (0 : Int32))) (V_d : Arv Z h0 d kd .char (Int32.ofNat cl.length) (cl.map Value.int) (.int (0 : Int32))) (S_COMPACT_STRINGS : Sta Z Z.heap "java/lang/String" "COMPACT_STRINGS" "Z" (.int cs)) (S__assertionsDisabled : Sta Z Z.heap "java/lang/StringUTF16" "$assertionsDisabled" "Z" (.int (1 : Int32))) (S_HI_BYTE_SHIFT : Sta Z Z.heap "java/lang/StringUTF16" "HI_BYTE_SHIFT" "I" (.int (0 : Int32))) (S_LO_BYTE_SHIFT : Sta Z Z.heap "java/lang/StringUTF16" "LO_BYTE_SHIFT" "I" (.int (8 : Int32))) (hlen : cl.length ≤ 3) (hcA : ∀ c ∈ cl, OwnCh c) (hne : cl ≠ []) (hcs : ¬ (cs = (0 : Int32))) (ne_d_a : d ≠ a) (g_a : n0 ≤ a) (O : Old Z n0 h0) :
    Met l Z M6 jdk_42_method_3_code 2 none ws (Rm 5 2 9 74) #[(.ref a), (.ref d)] h0 (Q_rm_init1G Z a d kd cl cs h0 n0) := by
  refine met_of (plainFor_of_name pn_java_lang_String) (own := "java/lang/String") rfl (fun m => ef_rm_init1G m a d) ?_
  intro p e s m below meth c s₁ hx hby hml hown hnm hZ X0 e0 hret hlk
  have N0 := Fr.nil n0
  have K0 := Keep.refl h0 [a]
  show Goes p e below s _ _ _ (s₁.setTop (mkF m 0 #[.val (.ref a), .val (.ref d)] []))
  refine Goes.pre (U' := s₁.setTop (mkF m 4 #[.val (.ref a), .val (.ref d)] [(.ref d), (.int (0 : Int32)), (.ref d), (.ref a)])) (fun t k => XS.aloadN X0.here hx rfl (hb hby d6_0) rfl rfl (XS.aloadN X0.here hx rfl (hb hby d6_1) rfl rfl (XS.iconst X0.here hx rfl (hb hby d6_2) (XS.aloadN X0.here hx rfl (hb hby d6_3) rfl rfl k)))) ?_
  obtain ⟨cl1, Ar1, q1, Sz1, Ng1, -, -⟩ := id V_d
  have ln1 := len_of Sz1 Ng1
  refine Goes.pre (U' := s₁.setTop (mkF m 6 #[.val (.ref a), .val (.ref d)] [.null, (.int (Int32.ofNat cl.length)), (.int (0 : Int32)), (.ref d), (.ref a)])) (fun t k => X0.arraylength hx (by rw [e0]; exact Ar1.1) (State.isArrayOf_alike hZ.alike Ar1.2.1) (g := (mkF m 4 #[.val (.ref a), .val (.ref d)] [(.ref d), (.int (0 : Int32)), (.ref d), (.ref a)])) rfl rfl (hb hby d6_4) _ (by rw [ln1]; exact (XS.aconstNull X0.here hx rfl (hb hby d6_5) k))) ?_
  have lt_a := E_a.lt
  have lt_d := V_d.lt
  obtain ⟨_, _, ⟨T2, L2, k2, n2⟩, -, X2, ⟨Lc2, hQ2, l2, y2, z2⟩, st2⟩ := X0.specialBack hx (y := (⟨"java/lang/String", "<init>", "([CIILjava/lang/Void;)V"⟩ : MethodName)) rfl hown (mvT hZ (wq hw 32 rfl)) (mvT hZ (wq hw 33 rfl)) (mvT hZ (wq hw 35 rfl)) (by decide) (backOf (W := 0) (rm_init4G l Z a0 hw [] a d kd cl cs h0 n0 Z0 E_a F_value_a F_coder_a V_d S_COMPACT_STRINGS S__assertionsDisabled S_HI_BYTE_SHIFT S_LO_BYTE_SHIFT hlen hcA hne hcs ne_d_a g_a O) hZ (wq hw 35 rfl) (wq hw 5 rfl) (by decide) (by decide)) (g := (mkF m 6 #[.val (.ref a), .val (.ref d)] [.null, (.int (Int32.ofNat cl.length)), (.int (0 : Int32)), (.ref d), (.ref a)])) rfl (by rw [hml]; rfl) (Steps.refl _) (a := a) (argsL := [(.ref d), (.int (0 : Int32)), (.int (Int32.ofNat cl.length)), .null]) (rest := []) (lenOf pd__28_5bCIILjava_2flang_2fVoid_3b_29V rfl) rfl (by show 2 * 0 + _ ≤ _; exact Nat.le_of_eq rfl) (hb hby d6_6) (fun _ _ => ⟨rfl, e0, (by decide : 0 + 2 ≤ _), (by decide : 0 + 9 ≤ _)⟩)
  dsimp only [Pt.U, Pt.locs, Pt.cells, Pt.slots] at X2 l2 y2 z2 st2 hQ2
  subst l2 y2 z2
  obtain ⟨b2, kb2, rfl, N2q, KQ2, fo0_2, g_b2, sl_b2⟩ := hQ2
  have N2 := Fr.app N0 N2q
  have E_a := E_a.keep KQ2
  have V_d := V_d.keep KQ2 (ninS ne_d_a nin0)
  have Z3 : n0 ≤ T2.heap.size := Nat.le_trans Z0 KQ2.1
  have O := O.keep KQ2 (allS (P := fun x => n0 ≤ x) g_a all0)
  have K3 := K0.trans KQ2 (allS (P := fun x => x ∈ [a] ∨ h0.size ≤ x) (Or.inl (List.mem_of_getElem? (i := 0) rfl)) all0)
  have ne_a_b2 : a ≠ b2 := Nat.ne_of_lt (Nat.lt_of_lt_of_le lt_a sl_b2)
  have ne_b2_a := ne_a_b2.symm
  have ne_d_b2 : d ≠ b2 := Nat.ne_of_lt (Nat.lt_of_lt_of_le lt_d sl_b2)
  have ne_b2_d := ne_d_b2.symm
  have sz_b2 : h0.size ≤ b2 := Nat.le_trans K0.1 sl_b2
  have S_a := fo0_2
  refine Goes.pre (U' := T2.setTop (mkF m 9 #[.val (.ref a), .val (.ref d)] [])) (fun t k => st2.trans k) ?_
  refine Goes.ret X2 (v := none) (fun _ => rfl) hlk (by decide) (by decide) rfl (fun fs hr => X2.returnOut hx hret (hb hby d6_9) hr) ?_
  exact ⟨b2, kb2, rfl, N2, K3, S_a, g_b2, sz_b2⟩
theorem own_fldinj {Z : State} {h : Heap} {a : Addr} {C n d : String} {v w : Value} (F : Fld Z h a C n d v) (G : Fld Z h a C n d w) : v = w := by
  obtain ⟨c1, cf1, k1, i1, f1, p1, p2, p3, p4, p5, p6, p7⟩ := F
  obtain ⟨c2, cf2, k2, i2, f2, q1, q2, q3, q4, q5, q6, q7⟩ := G
  obtain rfl := Option.some.inj (p1.symm.trans q1)
  have e := Option.some.inj (p2.symm.trans q2)
  simp only [Prod.mk.injEq] at e
  obtain ⟨-, -, -, rfl⟩ := e
  exact Option.some.inj (p7.symm.trans q7)
theorem own_arvinj {Z : State} {h : Heap} {a : Addr} {k k' : ClassId} {ty : FieldType} {n n' : Int32} {vs ws : List Value} {dv : Value} (F : Arv Z h a k ty n vs dv) (G : Arv Z h a k' ty n' ws dv) : n.toNatClampNeg = n'.toNatClampNeg ∧ ∀ i, i < n.toNatClampNeg → vs.getD i dv = ws.getD i dv := by
  obtain ⟨c1, A1, -, S1, -, H1, -⟩ := F
  obtain ⟨c2, A2, -, S2, -, H2, -⟩ := G
  obtain rfl := Option.some.inj (A1.1.symm.trans A2.1)
  refine ⟨S1.symm.trans S2, fun i hi => ?_⟩
  exact Option.some.inj ((H1 i (by rw [S1]; exact hi)).symm.trans (H2 i (by rw [S1]; exact hi)))
def own_l8 (c : Int32) : Int32 := c.toInt8.toInt32
def own_u8 (cl : List Int32) : List Int32 := cl.flatMap fun c => [(c >>> ((0 : Int32) &&& 31)).toInt8.toInt32, (c >>> ((8 : Int32) &&& 31)).toInt8.toInt32]
theorem own_u8l : ∀ cl : List Int32, (own_u8 cl).length = 2 * cl.length
  | [] => rfl
  | c :: r => by
    have q := own_u8l r
    show ([_, _] ++ own_u8 r).length = _
    simp only [List.length_append, q, List.length_cons, List.length_nil]
    omega
theorem own_u8m : ∀ cl : List Int32, (own_u8 cl).map Value.int = cl.flatMap fun c => [Value.int (c >>> ((0 : Int32) &&& 31)).toInt8.toInt32, Value.int (c >>> ((8 : Int32) &&& 31)).toInt8.toInt32]
  | [] => rfl
  | c :: r => by
    have q := own_u8m r
    show ([_, _] ++ own_u8 r).map Value.int = _
    rw [List.map_append, q, List.flatMap_cons]
    rfl
theorem own_cvL {Z : State} {h : Heap} {b : Addr} {k : ClassId} {cl : List Int32} {d : Value} (F : Arv Z h b k .byte (Int32.ofNat cl.length) (cl.map fun c => .int c.toInt8.toInt32) d) : Arv Z h b k .byte (Int32.ofNat (cl.map own_l8).length) ((cl.map own_l8).map Value.int) d := by
  rw [List.length_map, List.map_map]
  exact F
theorem own_cvU {Z : State} {h : Heap} {b : Addr} {k : ClassId} {cl : List Int32} {d : Value} (F : Arv Z h b k .byte (Int32.ofNat (2 * cl.length)) (cl.flatMap fun c => [.int (c >>> ((0 : Int32) &&& 31)).toInt8.toInt32, .int (c >>> ((8 : Int32) &&& 31)).toInt8.toInt32]) d) : Arv Z h b k .byte (Int32.ofNat (own_u8 cl).length) ((own_u8 cl).map Value.int) d := by
  rw [own_u8l, own_u8m]
  exact F
theorem own_leq (us vs : List Int32) (hl : us.length = vs.length) (h : ∀ j, j < us.length → us.getD j 0 = vs.getD j 0) : us = vs := by
  apply List.ext_getElem hl
  intro i h1 h2
  have q := h i h1
  simpa [List.getD_eq_getElem?_getD, h1, h2] using q
theorem own_injL : ∀ (cl dl : List Int32), (∀ c ∈ cl, OwnCh c) → (∀ c ∈ dl, OwnCh c) → (∀ c ∈ cl, ¬ ((255 : Int32) < c)) → (∀ c ∈ dl, ¬ ((255 : Int32) < c)) → cl.map own_l8 = dl.map own_l8 → cl = dl
  | [], [], _, _, _, _, _ => rfl
  | [], _ :: _, _, _, _, _, q => by cases q
  | _ :: _, [], _, _, _, _, q => by cases q
  | c :: r, d :: t, h1, h2, h3, h4, q => by
    simp only [List.map_cons, List.cons.injEq] at q
    have e1 := own_l1 c (h1 c (List.mem_cons_self ..)) (h3 c (List.mem_cons_self ..))
    have e2 := own_l1 d (h2 d (List.mem_cons_self ..)) (h4 d (List.mem_cons_self ..))
    have e3 : c.toInt8.toInt32 = d.toInt8.toInt32 := q.1
    rw [e3] at e1
    rw [← e1, e2, own_injL r t (fun x hx => h1 x (List.mem_cons_of_mem _ hx)) (fun x hx => h2 x (List.mem_cons_of_mem _ hx)) (fun x hx => h3 x (List.mem_cons_of_mem _ hx)) (fun x hx => h4 x (List.mem_cons_of_mem _ hx)) q.2]
theorem own_injU : ∀ (cl dl : List Int32), (∀ c ∈ cl, OwnCh c) → (∀ c ∈ dl, OwnCh c) → own_u8 cl = own_u8 dl → cl = dl
  | [], [], _, _, _ => rfl
  | [], d :: t, _, _, q => by
    have := congrArg List.length q
    rw [own_u8l, own_u8l, List.length_cons, List.length_nil] at this
    omega
  | d :: t, [], _, _, q => by
    have := congrArg List.length q
    rw [own_u8l, own_u8l, List.length_cons, List.length_nil] at this
    omega
  | c :: r, d :: t, h1, h2, q => by
    have e1 := own_u16 c (h1 c (List.mem_cons_self ..))
    have e2 := own_u16 d (h2 d (List.mem_cons_self ..))
    have q' : [(c >>> ((0 : Int32) &&& 31)).toInt8.toInt32, (c >>> ((8 : Int32) &&& 31)).toInt8.toInt32] ++ own_u8 r = [(d >>> ((0 : Int32) &&& 31)).toInt8.toInt32, (d >>> ((8 : Int32) &&& 31)).toInt8.toInt32] ++ own_u8 t := q
    simp only [List.cons_append, List.nil_append, List.cons.injEq] at q'
    obtain ⟨q1, q2, q3⟩ := q'
    rw [q1, q2] at e1
    rw [← e1, e2, own_injU r t (fun x hx => h1 x (List.mem_cons_of_mem _ hx)) (fun x hx => h2 x (List.mem_cons_of_mem _ hx)) q3]
theorem own_arvL {Z : State} {h : Heap} {b : Addr} {k k' : ClassId} {us vs : List Int32} (F : Arv Z h b k .byte (Int32.ofNat us.length) (us.map Value.int) (.int (0 : Int32))) (G : Arv Z h b k' .byte (Int32.ofNat vs.length) (vs.map Value.int) (.int (0 : Int32))) (h1 : us.length ≤ 8192) (h2 : vs.length ≤ 8192) : us = vs := by
  obtain ⟨e, f⟩ := own_arvinj F G
  rw [own_ixn _ h1, own_ixn _ h2] at e
  rw [own_ixn _ h1] at f
  apply own_leq us vs e
  intro j hj
  have q := f j hj
  simp only [List.getD_eq_getElem?_getD, List.getElem?_map, List.getElem?_eq_getElem hj, List.getElem?_eq_getElem (e ▸ hj), Option.map_some, Option.getD_some, Value.int.injEq] at q ⊢
  exact q
theorem own_strinj {Z : State} {h : Heap} {a b f : Addr} {kb kf : ClassId} {cl dl : List Int32} (F : OwnStr Z h a b kb cl) (G : OwnStr Z h a f kf dl) (h1 : cl.length ≤ 4096) (h2 : dl.length ≤ 4096) : cl = dl := by
  obtain ⟨-, f1, f2, f3⟩ := F
  obtain ⟨-, g1, g2, g3⟩ := G
  have e := own_fldinj f1 g1
  cases e
  rcases f3 with ⟨a1, a2, a3⟩ | ⟨a1, a2, a3⟩ <;> rcases g3 with ⟨b1, b2, b3⟩ | ⟨b1, b2, b3⟩
  · exact own_injL cl dl f2 g2 a3 b3 (own_arvL (own_cvL a2) (own_cvL b2) (by rw [List.length_map]; omega) (by rw [List.length_map]; omega))
  · cases own_fldinj a1 b1
  · cases own_fldinj a1 b1
  · exact own_injU cl dl f2 g2 (own_arvL (own_cvU a2) (own_cvU b2) (by rw [own_u8l]; omega) (by rw [own_u8l]; omega))
theorem own_oinj (i n : Nat) (h : Int32.ofNat i = Int32.ofNat n) (hi : i ≤ 8192) (hn : n ≤ 8192) : i = n := by
  have a := own_ofn i hi
  have b := own_ofn n hn
  rw [h] at a
  omega
theorem ef_rm_leq (m : MethodId) (x0 : Addr) (x1 : Addr) : entryFrame m #[(.ref x0), (.ref x1)] 3 = mkF m 0 #[.val (.ref x0), .val (.ref x1), .unset] [] := by first | (simp [entryFrame, mkF, argsToLocals, Value.category]; done) | rfl
abbrev M12 : MethodName := ⟨"java/lang/StringLatin1", "equals", "([B[B)Z"⟩
theorem d12_0 : decode jdk_43_method_13_code 0 = .ok (.aload_n 0, 1) := by decide +kernel
theorem d12_1 : decode jdk_43_method_13_code 1 = .ok (.arraylength, 1) := by decide +kernel
theorem d12_2 : decode jdk_43_method_13_code 2 = .ok (.aload_n 1, 1) := by decide +kernel
theorem d12_3 : decode jdk_43_method_13_code 3 = .ok (.arraylength, 1) := by decide +kernel
theorem d12_4 : decode jdk_43_method_13_code 4 = .ok (.if_icmp .ne 30, 3) := by decide +kernel
theorem d12_7 : decode jdk_43_method_13_code 7 = .ok (.iconst 0, 1) := by decide +kernel
theorem d12_8 : decode jdk_43_method_13_code 8 = .ok (.istore_n 2, 1) := by decide +kernel
theorem d12_9 : decode jdk_43_method_13_code 9 = .ok (.iload_n 2, 1) := by decide +kernel
theorem d12_10 : decode jdk_43_method_13_code 10 = .ok (.aload_n 0, 1) := by decide +kernel
theorem d12_11 : decode jdk_43_method_13_code 11 = .ok (.arraylength, 1) := by decide +kernel
theorem d12_12 : decode jdk_43_method_13_code 12 = .ok (.if_icmp .ge 20, 3) := by decide +kernel
theorem d12_15 : decode jdk_43_method_13_code 15 = .ok (.aload_n 0, 1) := by decide +kernel
theorem d12_16 : decode jdk_43_method_13_code 16 = .ok (.iload_n 2, 1) := by decide +kernel
theorem d12_17 : decode jdk_43_method_13_code 17 = .ok (.baload, 1) := by decide +kernel
theorem d12_18 : decode jdk_43_method_13_code 18 = .ok (.aload_n 1, 1) := by decide +kernel
theorem d12_19 : decode jdk_43_method_13_code 19 = .ok (.iload_n 2, 1) := by decide +kernel
theorem d12_20 : decode jdk_43_method_13_code 20 = .ok (.baload, 1) := by decide +kernel
theorem d12_21 : decode jdk_43_method_13_code 21 = .ok (.if_icmp .eq 5, 3) := by decide +kernel
theorem d12_26 : decode jdk_43_method_13_code 26 = .ok (.iinc 2 1, 3) := by decide +kernel
theorem d12_29 : decode jdk_43_method_13_code 29 = .ok (.goto (-20), 3) := by decide +kernel
theorem d12_24 : decode jdk_43_method_13_code 24 = .ok (.iconst 0, 1) := by decide +kernel
theorem d12_25 : decode jdk_43_method_13_code 25 = .ok (.ireturn, 1) := by decide +kernel
theorem d12_32 : decode jdk_43_method_13_code 32 = .ok (.iconst 1, 1) := by decide +kernel
theorem d12_33 : decode jdk_43_method_13_code 33 = .ok (.ireturn, 1) := by decide +kernel
theorem d12_34 : decode jdk_43_method_13_code 34 = .ok (.iconst 0, 1) := by decide +kernel
theorem d12_35 : decode jdk_43_method_13_code 35 = .ok (.ireturn, 1) := by decide +kernel
def Q_rm_leq (Z : State) (bu : Addr) (ku : ClassId) (us : List Int32) (bv : Addr) (kv : ClassId) (vs : List Int32) (h0 : Heap) (n0 : Nat) (v : Option Value) (h : Heap) (L : List Loc) : Prop := ∃ (ev : Int32), v = some (.int ev) ∧ Fr n0 L ∧ h = h0 ∧ (¬ (ev = (0 : Int32)) → us = vs)
set_option maxRecDepth 65536 in
set_option maxHeartbeats 40000000 in
theorem rm_leq (l : Launch) (Z : State) (a0 : Array Value) (hw : ∀ d ∈ tables_1, d.before a0 Z = true) (ws : List Jvm.Cond) (bu : Addr) (ku : ClassId) (us : List Int32) (bv : Addr) (kv : ClassId) (vs : List Int32) (h0 : Heap) (n0 : Nat) (Z0 : n0 ≤ h0.size) (V_bu : Arv Z h0 bu ku .byte (Int32.ofNat us.length) (us.map Value.int) (.int (0 : Int32))) (V_bv : Arv Z h0 bv kv .byte (Int32.ofNat vs.length) (vs.map Value.int) (.int (0 : Int32))) (hlu : us.length ≤ 8192) (hlw : vs.length ≤ 8192) :
    Met l Z M12 jdk_43_method_13_code 3 (some .boolean) ws (Rm 0 0 0 0) #[(.ref bu), (.ref bv)] h0 (Q_rm_leq Z bu ku us bv kv vs h0 n0) := by
  refine met_of (plainFor_of_name pn_java_lang_StringLatin1) (own := "java/lang/StringLatin1") rfl (fun m => ef_rm_leq m bu bv) ?_
  intro p e s m below meth c s₁ hx hby hml hown hnm hZ X0 e0 hret hlk
  have N0 := Fr.nil n0
  show Goes p e below s _ _ _ (s₁.setTop (mkF m 0 #[.val (.ref bu), .val (.ref bv), .unset] []))
  refine Goes.pre (U' := s₁.setTop (mkF m 1 #[.val (.ref bu), .val (.ref bv), .unset] [(.ref bu)])) (fun t k => XS.aloadN X0.here hx rfl (hb hby d12_0) rfl rfl k) ?_
  obtain ⟨cl1, Ar1, q1, Sz1, Ng1, -, -⟩ := id V_bu
  have ln1 := len_of Sz1 Ng1
  refine Goes.pre (U' := s₁.setTop (mkF m 3 #[.val (.ref bu), .val (.ref bv), .unset] [(.ref bv), (.int (Int32.ofNat us.length))])) (fun t k => X0.arraylength hx (by rw [e0]; exact Ar1.1) (State.isArrayOf_alike hZ.alike Ar1.2.1) (g := (mkF m 1 #[.val (.ref bu), .val (.ref bv), .unset] [(.ref bu)])) rfl rfl (hb hby d12_1) _ (by rw [ln1]; exact (XS.aloadN X0.here hx rfl (hb hby d12_2) rfl rfl k))) ?_
  obtain ⟨cl2, Ar2, q2, Sz2, Ng2, -, -⟩ := id V_bv
  have ln2 := len_of Sz2 Ng2
  refine Goes.pre (U' := s₁.setTop (mkF m 4 #[.val (.ref bu), .val (.ref bv), .unset] [(.int (Int32.ofNat vs.length)), (.int (Int32.ofNat us.length))])) (fun t k => X0.arraylength hx (by rw [e0]; exact Ar2.1) (State.isArrayOf_alike hZ.alike Ar2.2.1) (g := (mkF m 3 #[.val (.ref bu), .val (.ref bv), .unset] [(.ref bv), (.int (Int32.ofNat us.length))])) rfl rfl (hb hby d12_3) _ (by rw [ln2]; exact k)) ?_
  by_cases hc4 : (Int32.ofNat us.length) = (Int32.ofNat vs.length)
  ·
    refine Goes.pre (U' := s₁.setTop (mkF m 9 #[.val (.ref bu), .val (.ref bv), .val (.int (0 : Int32))] [])) (fun t k => XS.icmpNo X0.here hx rfl (hb hby d12_4) rfl (teq hc4).2 (XS.iconst X0.here hx rfl (hb hby d12_7) (XS.istoreN X0.here hx rfl (hb hby d12_8) rfl (l' := #[.val (.ref bu), .val (.ref bv), .val (.int (0 : Int32))]) rfl k))) ?_
    have hlv : us.length = vs.length := own_oinj _ _ hc4 hlu hlw
    have J9_3 : ∀ (kk : Nat) (i : Nat) (hi : i ≤ us.length) (hj : ∀ j, j < i → us.getD j 0 = vs.getD j 0) (hm : us.length - i = kk) (T3 : State) (lc3 : List Loc), Stand p l e (Rm 0 0 0 0) s m #[(.ref bu), (.ref bv)] below meth c T3 lc3 0 0 → T3.heap = h0 → Fr n0 lc3 → Goes p e below s (Q_rm_leq Z bu ku us bv kv vs h0 n0) (Rm 0 0 0 0).cells (Rm 0 0 0 0).slots (T3.setTop (mkF m 9 #[.val (.ref bu), .val (.ref bv), .val (.int (Int32.ofNat i))] [])) := by
      intro kk
      induction kk using Nat.strongRecOn with
      | ind kk ih =>
        intro i hi hj hm T3 lc3 X3 e3 N3
        refine Goes.pre (U' := T3.setTop (mkF m 11 #[.val (.ref bu), .val (.ref bv), .val (.int (Int32.ofNat i))] [(.ref bu), (.int (Int32.ofNat i))])) (fun t k => XS.iloadN X3.here hx rfl (hb hby d12_9) rfl (XS.aloadN X3.here hx rfl (hb hby d12_10) rfl rfl k)) ?_
        obtain ⟨cl4, Ar4, q4, Sz4, Ng4, -, -⟩ := id V_bu
        have ln4 := len_of Sz4 Ng4
        refine Goes.pre (U' := T3.setTop (mkF m 12 #[.val (.ref bu), .val (.ref bv), .val (.int (Int32.ofNat i))] [(.int (Int32.ofNat us.length)), (.int (Int32.ofNat i))])) (fun t k => X3.arraylength hx (by rw [e3]; exact Ar4.1) (State.isArrayOf_alike hZ.alike Ar4.2.1) (g := (mkF m 11 #[.val (.ref bu), .val (.ref bv), .val (.int (Int32.ofNat i))] [(.ref bu), (.int (Int32.ofNat i))])) rfl rfl (hb hby d12_11) _ (by rw [ln4]; exact k)) ?_
        by_cases hc12 : (Int32.ofNat i) < (Int32.ofNat us.length)
        ·
          refine Goes.pre (U' := T3.setTop (mkF m 17 #[.val (.ref bu), .val (.ref bv), .val (.int (Int32.ofNat i))] [(.int (Int32.ofNat i)), (.ref bu)])) (fun t k => XS.icmpNo X3.here hx rfl (hb hby d12_12) rfl (tlt hc12).2.1 (XS.aloadN X3.here hx rfl (hb hby d12_15) rfl rfl (XS.iloadN X3.here hx rfl (hb hby d12_16) rfl k))) ?_
          obtain ⟨cl5, Ar5, q5, Sz5, Ng5, Hs5, Ft5⟩ := id V_bu
          have hin5 := inb_of (j := (Int32.ofNat i)) Sz5 (own_ix i _ (own_lti _ _ hc12 hi hlu) hlu)
          refine Goes.pre (U' := T3.setTop (mkF m 20 #[.val (.ref bu), .val (.ref bv), .val (.int (Int32.ofNat i))] [(.int (Int32.ofNat i)), (.ref bv), (.int (us.getD i 0))])) (fun t k => X3.baloadBytes hx (j := (Int32.ofNat i)) (v := (.int (us.getD i 0))) (by rw [e3]; exact Ar5.1) (State.isArrayOf_alike hZ.alike Ar5.2.1) Ar5.2.2 hin5 (Has.at Hs5 hin5 (own_getm us i (own_lti _ _ hc12 hi hlu) hlu)) (g := (mkF m 17 #[.val (.ref bu), .val (.ref bv), .val (.int (Int32.ofNat i))] [(.int (Int32.ofNat i)), (.ref bu)])) rfl rfl (hb hby d12_17) _ (XS.aloadN X3.here hx rfl (hb hby d12_18) rfl rfl (XS.iloadN X3.here hx rfl (hb hby d12_19) rfl k))) ?_
          obtain ⟨cl6, Ar6, q6, Sz6, Ng6, Hs6, Ft6⟩ := id V_bv
          have hin6 := inb_of (j := (Int32.ofNat i)) Sz6 (own_ix i _ (hlv ▸ (own_lti _ _ hc12 hi hlu)) hlw)
          refine Goes.pre (U' := T3.setTop (mkF m 21 #[.val (.ref bu), .val (.ref bv), .val (.int (Int32.ofNat i))] [(.int (vs.getD i 0)), (.int (us.getD i 0))])) (fun t k => X3.baloadBytes hx (j := (Int32.ofNat i)) (v := (.int (vs.getD i 0))) (by rw [e3]; exact Ar6.1) (State.isArrayOf_alike hZ.alike Ar6.2.1) Ar6.2.2 hin6 (Has.at Hs6 hin6 (own_getm vs i (hlv ▸ (own_lti _ _ hc12 hi hlu)) hlw)) (g := (mkF m 20 #[.val (.ref bu), .val (.ref bv), .val (.int (Int32.ofNat i))] [(.int (Int32.ofNat i)), (.ref bv), (.int (us.getD i 0))])) rfl rfl (hb hby d12_20) _ k) ?_
          by_cases hc21 : (us.getD i 0) = (vs.getD i 0)
          ·
            refine Goes.pre (U' := T3.setTop (mkF m 29 #[.val (.ref bu), .val (.ref bv), .val (.int ((Int32.ofNat i) + (1 : Int32)))] [])) (fun t k => XS.icmpYes X3.here hx rfl (pc0 := 21) (pc' := 26) rfl (hb hby d12_21) rfl (teq hc21).1 (by decide) (by decide) (XT.iincV X3.here hx rfl (1 : Int32) (hb hby d12_26) (by decide) rfl (l' := #[.val (.ref bu), .val (.ref bv), .val (.int ((Int32.ofNat i) + (1 : Int32)))]) rfl k)) ?_
            rw [own_inc]
            refine Goes.pre (U' := T3.setTop (mkF m 9 #[.val (.ref bu), .val (.ref bv), .val (.int (Int32.ofNat (i + 1)))] [])) (fun t k => XS.goto X3.here hx rfl (pc0 := 29) (pc' := 9) rfl (hb hby d12_29) (by decide) (by decide) k) ?_
            exact ih _ (by have := own_lti _ _ hc12 hi hlu; omega) (i + 1) (own_lti _ _ hc12 hi hlu) (fun j q => (Nat.lt_succ_iff_lt_or_eq.mp q).elim (hj j) (fun e => e ▸ hc21)) rfl _ _ X3 e3 N3
          ·
            refine Goes.pre (U' := T3.setTop (mkF m 25 #[.val (.ref bu), .val (.ref bv), .val (.int (Int32.ofNat i))] [(.int (0 : Int32))])) (fun t k => XS.icmpNo X3.here hx rfl (hb hby d12_21) rfl (feq hc21).1 (XS.iconst X3.here hx rfl (hb hby d12_24) k)) ?_
            refine Goes.ret X3 (v := (some (.int (0 : Int32)))) (fun h => by rw [hret] at h; cases h) hlk (by decide) (by decide) e3 (fun fs hr => retN X3 hx (t := .boolean) hret (by simp) (hb hby d12_25) hr) ?_
            exact ⟨_, rfl, N3, rfl, fun q => absurd rfl q⟩
        ·
          refine Goes.pre (U' := T3.setTop (mkF m 33 #[.val (.ref bu), .val (.ref bv), .val (.int (Int32.ofNat i))] [(.int (1 : Int32))])) (fun t k => XS.icmpYes X3.here hx rfl (pc0 := 12) (pc' := 32) rfl (hb hby d12_12) rfl (flt hc12).2.1 (by decide) (by decide) (XS.iconst X3.here hx rfl (hb hby d12_32) k)) ?_
          refine Goes.ret X3 (v := (some (.int (1 : Int32)))) (fun h => by rw [hret] at h; cases h) hlk (by decide) (by decide) e3 (fun fs hr => retN X3 hx (t := .boolean) hret (by simp) (hb hby d12_33) hr) ?_
          exact ⟨_, rfl, N3, rfl, fun _ => own_leq us vs hlv (own_nlti _ _ hc12 hi hlu ▸ hj)⟩
    exact J9_3 _ 0 (Nat.zero_le _) (fun j q => absurd q (Nat.not_lt_zero j)) rfl _ _ X0 e0 N0
  ·
    refine Goes.pre (U' := s₁.setTop (mkF m 35 #[.val (.ref bu), .val (.ref bv), .unset] [(.int (0 : Int32))])) (fun t k => XS.icmpYes X0.here hx rfl (pc0 := 4) (pc' := 34) rfl (hb hby d12_4) rfl (feq hc4).2 (by decide) (by decide) (XS.iconst X0.here hx rfl (hb hby d12_34) k)) ?_
    refine Goes.ret X0 (v := (some (.int (0 : Int32)))) (fun h => by rw [hret] at h; cases h) hlk (by decide) (by decide) e0 (fun fs hr => retN X0 hx (t := .boolean) hret (by simp) (hb hby d12_35) hr) ?_
    exact ⟨_, rfl, N0, rfl, fun q => absurd rfl q⟩
theorem own_len8 (cl : List Int32) (h : cl.length ≤ 3) : (cl.map own_l8).length ≤ 8192 := by rw [List.length_map]; omega
theorem own_len9 (cl : List Int32) (h : cl.length ≤ 3) : (own_u8 cl).length ≤ 8192 := by rw [own_u8l]; omega
theorem ef_rm_eqS (m : MethodId) (x0 : Addr) (x1 : Addr) : entryFrame m #[(.ref x0), (.ref x1)] 3 = mkF m 0 #[.val (.ref x0), .val (.ref x1), .unset] [] := by first | (simp [entryFrame, mkF, argsToLocals, Value.category]; done) | rfl
abbrev M3 : MethodName := ⟨"java/lang/String", "equals", "(Ljava/lang/Object;)Z"⟩
theorem d3_0 : decode jdk_42_method_66_code 0 = .ok (.aload_n 0, 1) := by decide +kernel
theorem d3_1 : decode jdk_42_method_66_code 1 = .ok (.aload_n 1, 1) := by decide +kernel
theorem d3_2 : decode jdk_42_method_66_code 2 = .ok (.if_acmp .ne 5, 3) := by decide +kernel
theorem d3_5 : decode jdk_42_method_66_code 5 = .ok (.iconst 1, 1) := by decide +kernel
theorem d3_6 : decode jdk_42_method_66_code 6 = .ok (.ireturn, 1) := by decide +kernel
theorem d3_7 : decode jdk_42_method_66_code 7 = .ok (.aload_n 1, 1) := by decide +kernel
theorem d3_8 : decode jdk_42_method_66_code 8 = .ok (.instanceof 10, 3) := by decide +kernel
theorem d3_11 : decode jdk_42_method_66_code 11 = .ok (.ifCond .eq 43, 3) := by decide +kernel
theorem d3_14 : decode jdk_42_method_66_code 14 = .ok (.aload_n 1, 1) := by decide +kernel
theorem d3_15 : decode jdk_42_method_66_code 15 = .ok (.checkcast 10, 3) := by decide +kernel
theorem d3_18 : decode jdk_42_method_66_code 18 = .ok (.astore_n 2, 1) := by decide +kernel
theorem d3_19 : decode jdk_42_method_66_code 19 = .ok (.getstatic 38, 3) := by decide +kernel
theorem d3_22 : decode jdk_42_method_66_code 22 = .ok (.ifCond .eq 14, 3) := by decide +kernel
theorem d3_25 : decode jdk_42_method_66_code 25 = .ok (.aload_n 0, 1) := by decide +kernel
theorem d3_26 : decode jdk_42_method_66_code 26 = .ok (.getfield 15, 3) := by decide +kernel
theorem d3_29 : decode jdk_42_method_66_code 29 = .ok (.aload_n 2, 1) := by decide +kernel
theorem d3_30 : decode jdk_42_method_66_code 30 = .ok (.getfield 15, 3) := by decide +kernel
theorem d3_33 : decode jdk_42_method_66_code 33 = .ok (.if_icmp .ne 21, 3) := by decide +kernel
theorem d3_36 : decode jdk_42_method_66_code 36 = .ok (.aload_n 0, 1) := by decide +kernel
theorem d3_37 : decode jdk_42_method_66_code 37 = .ok (.getfield 9, 3) := by decide +kernel
theorem d3_40 : decode jdk_42_method_66_code 40 = .ok (.aload_n 2, 1) := by decide +kernel
theorem d3_41 : decode jdk_42_method_66_code 41 = .ok (.getfield 9, 3) := by decide +kernel
theorem d3_44 : decode jdk_42_method_66_code 44 = .ok (.invokestatic 541, 3) := by decide +kernel
theorem pd__28_5bB_5bB_29Z : parseMethodDescriptor "([B[B)Z" = some ⟨[(.array .byte), (.array .byte)], some .boolean⟩ := by decide +kernel
theorem d3_47 : decode jdk_42_method_66_code 47 = .ok (.ifCond .eq 7, 3) := by decide +kernel
theorem d3_54 : decode jdk_42_method_66_code 54 = .ok (.iconst 0, 1) := by decide +kernel
theorem d3_55 : decode jdk_42_method_66_code 55 = .ok (.ireturn, 1) := by decide +kernel
theorem d3_50 : decode jdk_42_method_66_code 50 = .ok (.iconst 1, 1) := by decide +kernel
theorem d3_51 : decode jdk_42_method_66_code 51 = .ok (.goto 4, 3) := by decide +kernel
def Q_rm_eqS (Z : State) (a : Addr) (b : Addr) (ka : ClassId) (cl : List Int32) (d : Addr) (f : Addr) (kf : ClassId) (dl : List Int32) (cs : Int32) (h0 : Heap) (n0 : Nat) (v : Option Value) (h : Heap) (L : List Loc) : Prop := ∃ (ev : Int32), v = some (.int ev) ∧ Fr n0 L ∧ h = h0 ∧ (¬ (ev = (0 : Int32)) → cl = dl)
set_option maxRecDepth 65536 in
set_option maxHeartbeats 40000000 in
theorem rm_eqS (l : Launch) (Z : State) (a0 : Array Value) (hw : ∀ d ∈ tables_1, d.before a0 Z = true) (ws : List Jvm.Cond) (a : Addr) (b : Addr) (ka : ClassId) (cl : List Int32) (d : Addr) (f : Addr) (kf : ClassId) (dl : List Int32) (cs : Int32) (h0 : Heap) (n0 : Nat) (Z0 : n0 ≤ h0.size) (S_a : OwnStr Z h0 a b ka cl) (S_d : OwnStr Z h0 d f kf dl) (S_COMPACT_STRINGS : Sta Z Z.heap "java/lang/String" "COMPACT_STRINGS" "Z" (.int cs)) (hl1 : cl.length ≤ 3) (hl2 : dl.length ≤ 3) (hcs : ¬ (cs = (0 : Int32))) (O : Old Z n0 h0) :
    Met l Z M3 jdk_42_method_66_code 3 (some .boolean) ws (Rm 1 0 0 14) #[(.ref a), (.ref d)] h0 (Q_rm_eqS Z a b ka cl d f kf dl cs h0 n0) := by
  refine met_of (plainFor_of_name pn_java_lang_String) (own := "java/lang/String") rfl (fun m => ef_rm_eqS m a d) ?_
  intro p e s m below meth c s₁ hx hby hml hown hnm hZ X0 e0 hret hlk
  have N0 := Fr.nil n0
  show Goes p e below s _ _ _ (s₁.setTop (mkF m 0 #[.val (.ref a), .val (.ref d), .unset] []))
  refine Goes.pre (U' := s₁.setTop (mkF m 2 #[.val (.ref a), .val (.ref d), .unset] [(.ref d), (.ref a)])) (fun t k => XS.aloadN X0.here hx rfl (hb hby d3_0) rfl rfl (XS.aloadN X0.here hx rfl (hb hby d3_1) rfl rfl k)) ?_
  by_cases ha2 : a = d
  ·
    refine Goes.pre (U' := s₁.setTop (mkF m 6 #[.val (.ref a), .val (.ref d), .unset] [(.int (1 : Int32))])) (fun t k => Jvm.RoadKit.acmp (g := (mkF m 2 #[.val (.ref a), .val (.ref d), .unset] [(.ref d), (.ref a)])) X0 hx rfl rfl rfl (pc0 := 2) (pc' := 5) (same := true) rfl (hb hby d3_2) rfl (decide_eq_true (congrArg Value.ref ha2)) (by decide) (by decide) (XS.iconst X0.here hx rfl (hb hby d3_5) k)) ?_
    refine Goes.ret X0 (v := (some (.int (1 : Int32)))) (fun h => by rw [hret] at h; cases h) hlk (by decide) (by decide) e0 (fun fs hr => retN X0 hx (t := .boolean) hret (by simp) (hb hby d3_6) hr) ?_
    exact ⟨_, rfl, N0, rfl, fun _ => own_strinj (ha2 ▸ S_a) S_d (Nat.le_trans hl1 (by decide)) (Nat.le_trans hl2 (by decide))⟩
  ·
    refine Goes.pre (U' := s₁.setTop (mkF m 7 #[.val (.ref a), .val (.ref d), .unset] [])) (fun t k => Jvm.RoadKit.acmp (g := (mkF m 2 #[.val (.ref a), .val (.ref d), .unset] [(.ref d), (.ref a)])) X0 hx rfl rfl rfl (pc0 := 2) (pc' := 7) (same := false) rfl (hb hby d3_2) rfl (decide_eq_false fun q => ha2 (Value.ref.inj q)) (by decide) (by decide) k) ?_
    obtain ⟨E_a, F_value_a, hcA, hSa⟩ := id S_a
    obtain ⟨E_d, F_value_d, hcD, hSd⟩ := id S_d
    rcases hSa with ⟨F_coder_a, V_b, hle1⟩ | ⟨F_coder_a, V_b, hex1⟩ <;> rcases hSd with ⟨F_coder_d, V_f, hle2⟩ | ⟨F_coder_d, V_f, hex2⟩
    ·
      have V_b := own_cvL V_b
      have V_f := own_cvL V_f
      refine Goes.pre (U' := s₁.setTop (mkF m 8 #[.val (.ref a), .val (.ref d), .unset] [(.ref d)])) (fun t k => XS.aloadN X0.here hx rfl (hb hby d3_7) rfl rfl k) ?_
      obtain ⟨T1, X1, e1, st1⟩ := instY X0 hx hZ hown (wq hw 52 rfl) e0 (Ins.self E_d) (g := (mkF m 8 #[.val (.ref a), .val (.ref d), .unset] [(.ref d)])) rfl rfl (hb hby d3_8)
      refine Goes.pre (U' := T1.setTop (mkF m 11 #[.val (.ref a), .val (.ref d), .unset] [(.int (1 : Int32))])) (fun t k => st1 t k) ?_
      have hc11 : ¬ ((1 : Int32) = (0 : Int32)) := by decide
      refine Goes.pre (U' := T1.setTop (mkF m 15 #[.val (.ref a), .val (.ref d), .unset] [(.ref d)])) (fun t k => XS.ifNo X1.here hx rfl (hb hby d3_11) rfl ((if0 _ _).trans (feq hc11).1) (XS.aloadN X1.here hx rfl (hb hby d3_14) rfl rfl k)) ?_
      obtain ⟨T2, X2, e2, st2⟩ := castY X1 hx hZ hown (wq hw 52 rfl) e1 (Ins.self E_d) (g := (mkF m 15 #[.val (.ref a), .val (.ref d), .unset] [(.ref d)])) rfl rfl (hb hby d3_15)
      refine Goes.pre (U' := T2.setTop (mkF m 19 #[.val (.ref a), .val (.ref d), .val (.ref d)] [])) (fun t k => st2 t (XS.astoreN X2.here hx rfl (hb hby d3_18) rfl rfl (l' := #[.val (.ref a), .val (.ref d), .val (.ref d)]) rfl k)) ?_
      obtain ⟨T3, X3, e3, st3⟩ := getS2 X2 hx hZ hown (host := "") (Or.inl (wq hw 39 rfl)) Via.refl e2 (S_COMPACT_STRINGS.ext O.2) (g := (mkF m 19 #[.val (.ref a), .val (.ref d), .val (.ref d)] [])) rfl (hb hby d3_19)
      refine Goes.pre (U' := T3.setTop (mkF m 22 #[.val (.ref a), .val (.ref d), .val (.ref d)] [(.int cs)])) (fun t k => st3 t k) ?_
      have hc22 : ¬ (cs = (0 : Int32)) := hcs
      refine Goes.pre (U' := T3.setTop (mkF m 26 #[.val (.ref a), .val (.ref d), .val (.ref d)] [(.ref a)])) (fun t k => XS.ifNo X3.here hx rfl (hb hby d3_22) rfl ((if0 _ _).trans (feq hc22).1) (XS.aloadN X3.here hx rfl (hb hby d3_25) rfl rfl k)) ?_
      obtain ⟨T4, X4, e4, st4⟩ := getF X3 hx hZ hown (host := "") (Or.inl (wq hw 50 rfl)) Via.refl e3 F_coder_a (g := (mkF m 26 #[.val (.ref a), .val (.ref d), .val (.ref d)] [(.ref a)])) rfl rfl (hb hby d3_26)
      refine Goes.pre (U' := T4.setTop (mkF m 30 #[.val (.ref a), .val (.ref d), .val (.ref d)] [(.ref d), (.int (0 : Int32))])) (fun t k => st4 t (XS.aloadN X4.here hx rfl (hb hby d3_29) rfl rfl k)) ?_
      obtain ⟨T5, X5, e5, st5⟩ := getF X4 hx hZ hown (host := "") (Or.inl (wq hw 50 rfl)) Via.refl e4 F_coder_d (g := (mkF m 30 #[.val (.ref a), .val (.ref d), .val (.ref d)] [(.ref d), (.int (0 : Int32))])) rfl rfl (hb hby d3_30)
      refine Goes.pre (U' := T5.setTop (mkF m 33 #[.val (.ref a), .val (.ref d), .val (.ref d)] [(.int (0 : Int32)), (.int (0 : Int32))])) (fun t k => st5 t k) ?_
      have hc33 : (0 : Int32) = (0 : Int32) := rfl
      refine Goes.pre (U' := T5.setTop (mkF m 37 #[.val (.ref a), .val (.ref d), .val (.ref d)] [(.ref a)])) (fun t k => XS.icmpNo X5.here hx rfl (hb hby d3_33) rfl (teq hc33).2 (XS.aloadN X5.here hx rfl (hb hby d3_36) rfl rfl k)) ?_
      obtain ⟨T6, X6, e6, st6⟩ := getF X5 hx hZ hown (host := "") (Or.inl (wq hw 51 rfl)) Via.refl e5 F_value_a (g := (mkF m 37 #[.val (.ref a), .val (.ref d), .val (.ref d)] [(.ref a)])) rfl rfl (hb hby d3_37)
      refine Goes.pre (U' := T6.setTop (mkF m 41 #[.val (.ref a), .val (.ref d), .val (.ref d)] [(.ref d), (.ref b)])) (fun t k => st6 t (XS.aloadN X6.here hx rfl (hb hby d3_40) rfl rfl k)) ?_
      obtain ⟨T7, X7, e7, st7⟩ := getF X6 hx hZ hown (host := "") (Or.inl (wq hw 51 rfl)) Via.refl e6 F_value_d (g := (mkF m 41 #[.val (.ref a), .val (.ref d), .val (.ref d)] [(.ref d), (.ref b)])) rfl rfl (hb hby d3_41)
      refine Goes.pre (U' := T7.setTop (mkF m 44 #[.val (.ref a), .val (.ref d), .val (.ref d)] [(.ref f), (.ref b)])) (fun t k => st7 t k) ?_
      obtain ⟨_, _, ⟨T8, L8, k8, n8⟩, -, X8, ⟨Lc8, hQ8, l8, y8, z8⟩, st8⟩ := Jvm.LawKit.callS X7 hx (y := (⟨"java/lang/StringLatin1", "equals", "([B[B)Z"⟩ : MethodName)) hown (mvT hZ (wq hw 53 rfl)) (mvT hZ (wq hw 54 rfl)) (mvT hZ (wq hw 55 rfl)) (mvT hZ (wq hw 56 rfl)) (by decide) (backOf (W := 0) (rm_leq l Z a0 hw [] b ka (cl.map own_l8) f kf (dl.map own_l8) h0 n0 Z0 V_b V_f (own_len8 _ hl1) (own_len8 _ hl2)) hZ (wq hw 56 rfl) (wq hw 55 rfl) (by decide) (by decide)) (g := (mkF m 44 #[.val (.ref a), .val (.ref d), .val (.ref d)] [(.ref f), (.ref b)])) rfl (by rw [hml]; rfl) (argsL := [(.ref b), (.ref f)]) (rest := []) (lenOf pd__28_5bB_5bB_29Z rfl) rfl (by show 2 * 0 + _ ≤ _; exact Nat.le_of_eq rfl) (hb hby d3_44) (fun _ _ => ⟨rfl, e7, (by decide : 0 + 0 ≤ _), (by decide : 0 + 0 ≤ _)⟩)
      dsimp only [Pt.U, Pt.locs, Pt.cells, Pt.slots] at X8 l8 y8 z8 st8 hQ8
      subst l8 y8 z8
      obtain ⟨ev8, rfl, N8q, HQ8, hx8⟩ := hQ8
      have N8 := Fr.app N0 N8q
      refine Goes.pre (U' := T8.setTop (mkF m 47 #[.val (.ref a), .val (.ref d), .val (.ref d)] [(.int ev8)])) (fun t k => st8 t k) ?_
      by_cases hc47 : ev8 = (0 : Int32)
      ·
        refine Goes.pre (U' := T8.setTop (mkF m 55 #[.val (.ref a), .val (.ref d), .val (.ref d)] [(.int (0 : Int32))])) (fun t k => XS.ifYes X8.here hx rfl (pc0 := 47) (pc' := 54) rfl (hb hby d3_47) rfl ((if0 _ _).trans (teq hc47).1) (by decide) (by decide) (XS.iconst X8.here hx rfl (hb hby d3_54) k)) ?_
        refine Goes.ret X8 (v := (some (.int (0 : Int32)))) (fun h => by rw [hret] at h; cases h) hlk (by decide) (by decide) HQ8 (fun fs hr => retN X8 hx (t := .boolean) hret (by simp) (hb hby d3_55) hr) ?_
        exact ⟨_, rfl, N8, rfl, fun q => absurd rfl q⟩
      ·
        refine Goes.pre (U' := T8.setTop (mkF m 55 #[.val (.ref a), .val (.ref d), .val (.ref d)] [(.int (1 : Int32))])) (fun t k => XS.ifNo X8.here hx rfl (hb hby d3_47) rfl ((if0 _ _).trans (feq hc47).1) (XS.iconst X8.here hx rfl (hb hby d3_50) (XS.goto X8.here hx rfl (pc0 := 51) (pc' := 55) rfl (hb hby d3_51) (by decide) (by decide) k))) ?_
        refine Goes.ret X8 (v := (some (.int (1 : Int32)))) (fun h => by rw [hret] at h; cases h) hlk (by decide) (by decide) HQ8 (fun fs hr => retN X8 hx (t := .boolean) hret (by simp) (hb hby d3_55) hr) ?_
        exact ⟨_, rfl, N8, rfl, fun _ => own_injL cl dl hcA hcD hle1 hle2 (hx8 hc47)⟩
    ·
      have V_b := own_cvL V_b
      have V_f := own_cvU V_f
      refine Goes.pre (U' := s₁.setTop (mkF m 8 #[.val (.ref a), .val (.ref d), .unset] [(.ref d)])) (fun t k => XS.aloadN X0.here hx rfl (hb hby d3_7) rfl rfl k) ?_
      obtain ⟨T9, X9, e9, st9⟩ := instY X0 hx hZ hown (wq hw 52 rfl) e0 (Ins.self E_d) (g := (mkF m 8 #[.val (.ref a), .val (.ref d), .unset] [(.ref d)])) rfl rfl (hb hby d3_8)
      refine Goes.pre (U' := T9.setTop (mkF m 11 #[.val (.ref a), .val (.ref d), .unset] [(.int (1 : Int32))])) (fun t k => st9 t k) ?_
      have hc11 : ¬ ((1 : Int32) = (0 : Int32)) := by decide
      refine Goes.pre (U' := T9.setTop (mkF m 15 #[.val (.ref a), .val (.ref d), .unset] [(.ref d)])) (fun t k => XS.ifNo X9.here hx rfl (hb hby d3_11) rfl ((if0 _ _).trans (feq hc11).1) (XS.aloadN X9.here hx rfl (hb hby d3_14) rfl rfl k)) ?_
      obtain ⟨T10, X10, e10, st10⟩ := castY X9 hx hZ hown (wq hw 52 rfl) e9 (Ins.self E_d) (g := (mkF m 15 #[.val (.ref a), .val (.ref d), .unset] [(.ref d)])) rfl rfl (hb hby d3_15)
      refine Goes.pre (U' := T10.setTop (mkF m 19 #[.val (.ref a), .val (.ref d), .val (.ref d)] [])) (fun t k => st10 t (XS.astoreN X10.here hx rfl (hb hby d3_18) rfl rfl (l' := #[.val (.ref a), .val (.ref d), .val (.ref d)]) rfl k)) ?_
      obtain ⟨T11, X11, e11, st11⟩ := getS2 X10 hx hZ hown (host := "") (Or.inl (wq hw 39 rfl)) Via.refl e10 (S_COMPACT_STRINGS.ext O.2) (g := (mkF m 19 #[.val (.ref a), .val (.ref d), .val (.ref d)] [])) rfl (hb hby d3_19)
      refine Goes.pre (U' := T11.setTop (mkF m 22 #[.val (.ref a), .val (.ref d), .val (.ref d)] [(.int cs)])) (fun t k => st11 t k) ?_
      have hc22 : ¬ (cs = (0 : Int32)) := hcs
      refine Goes.pre (U' := T11.setTop (mkF m 26 #[.val (.ref a), .val (.ref d), .val (.ref d)] [(.ref a)])) (fun t k => XS.ifNo X11.here hx rfl (hb hby d3_22) rfl ((if0 _ _).trans (feq hc22).1) (XS.aloadN X11.here hx rfl (hb hby d3_25) rfl rfl k)) ?_
      obtain ⟨T12, X12, e12, st12⟩ := getF X11 hx hZ hown (host := "") (Or.inl (wq hw 50 rfl)) Via.refl e11 F_coder_a (g := (mkF m 26 #[.val (.ref a), .val (.ref d), .val (.ref d)] [(.ref a)])) rfl rfl (hb hby d3_26)
      refine Goes.pre (U' := T12.setTop (mkF m 30 #[.val (.ref a), .val (.ref d), .val (.ref d)] [(.ref d), (.int (0 : Int32))])) (fun t k => st12 t (XS.aloadN X12.here hx rfl (hb hby d3_29) rfl rfl k)) ?_
      obtain ⟨T13, X13, e13, st13⟩ := getF X12 hx hZ hown (host := "") (Or.inl (wq hw 50 rfl)) Via.refl e12 F_coder_d (g := (mkF m 30 #[.val (.ref a), .val (.ref d), .val (.ref d)] [(.ref d), (.int (0 : Int32))])) rfl rfl (hb hby d3_30)
      refine Goes.pre (U' := T13.setTop (mkF m 33 #[.val (.ref a), .val (.ref d), .val (.ref d)] [(.int (1 : Int32)), (.int (0 : Int32))])) (fun t k => st13 t k) ?_
      have hc33 : ¬ ((0 : Int32) = (1 : Int32)) := by decide
      refine Goes.pre (U' := T13.setTop (mkF m 55 #[.val (.ref a), .val (.ref d), .val (.ref d)] [(.int (0 : Int32))])) (fun t k => XS.icmpYes X13.here hx rfl (pc0 := 33) (pc' := 54) rfl (hb hby d3_33) rfl (feq hc33).2 (by decide) (by decide) (XS.iconst X13.here hx rfl (hb hby d3_54) k)) ?_
      refine Goes.ret X13 (v := (some (.int (0 : Int32)))) (fun h => by rw [hret] at h; cases h) hlk (by decide) (by decide) e13 (fun fs hr => retN X13 hx (t := .boolean) hret (by simp) (hb hby d3_55) hr) ?_
      exact ⟨_, rfl, N0, rfl, fun q => absurd rfl q⟩
    ·
      have V_b := own_cvU V_b
      have V_f := own_cvL V_f
      refine Goes.pre (U' := s₁.setTop (mkF m 8 #[.val (.ref a), .val (.ref d), .unset] [(.ref d)])) (fun t k => XS.aloadN X0.here hx rfl (hb hby d3_7) rfl rfl k) ?_
      obtain ⟨T14, X14, e14, st14⟩ := instY X0 hx hZ hown (wq hw 52 rfl) e0 (Ins.self E_d) (g := (mkF m 8 #[.val (.ref a), .val (.ref d), .unset] [(.ref d)])) rfl rfl (hb hby d3_8)
      refine Goes.pre (U' := T14.setTop (mkF m 11 #[.val (.ref a), .val (.ref d), .unset] [(.int (1 : Int32))])) (fun t k => st14 t k) ?_
      have hc11 : ¬ ((1 : Int32) = (0 : Int32)) := by decide
      refine Goes.pre (U' := T14.setTop (mkF m 15 #[.val (.ref a), .val (.ref d), .unset] [(.ref d)])) (fun t k => XS.ifNo X14.here hx rfl (hb hby d3_11) rfl ((if0 _ _).trans (feq hc11).1) (XS.aloadN X14.here hx rfl (hb hby d3_14) rfl rfl k)) ?_
      obtain ⟨T15, X15, e15, st15⟩ := castY X14 hx hZ hown (wq hw 52 rfl) e14 (Ins.self E_d) (g := (mkF m 15 #[.val (.ref a), .val (.ref d), .unset] [(.ref d)])) rfl rfl (hb hby d3_15)
      refine Goes.pre (U' := T15.setTop (mkF m 19 #[.val (.ref a), .val (.ref d), .val (.ref d)] [])) (fun t k => st15 t (XS.astoreN X15.here hx rfl (hb hby d3_18) rfl rfl (l' := #[.val (.ref a), .val (.ref d), .val (.ref d)]) rfl k)) ?_
      obtain ⟨T16, X16, e16, st16⟩ := getS2 X15 hx hZ hown (host := "") (Or.inl (wq hw 39 rfl)) Via.refl e15 (S_COMPACT_STRINGS.ext O.2) (g := (mkF m 19 #[.val (.ref a), .val (.ref d), .val (.ref d)] [])) rfl (hb hby d3_19)
      refine Goes.pre (U' := T16.setTop (mkF m 22 #[.val (.ref a), .val (.ref d), .val (.ref d)] [(.int cs)])) (fun t k => st16 t k) ?_
      have hc22 : ¬ (cs = (0 : Int32)) := hcs
      refine Goes.pre (U' := T16.setTop (mkF m 26 #[.val (.ref a), .val (.ref d), .val (.ref d)] [(.ref a)])) (fun t k => XS.ifNo X16.here hx rfl (hb hby d3_22) rfl ((if0 _ _).trans (feq hc22).1) (XS.aloadN X16.here hx rfl (hb hby d3_25) rfl rfl k)) ?_
      obtain ⟨T17, X17, e17, st17⟩ := getF X16 hx hZ hown (host := "") (Or.inl (wq hw 50 rfl)) Via.refl e16 F_coder_a (g := (mkF m 26 #[.val (.ref a), .val (.ref d), .val (.ref d)] [(.ref a)])) rfl rfl (hb hby d3_26)
      refine Goes.pre (U' := T17.setTop (mkF m 30 #[.val (.ref a), .val (.ref d), .val (.ref d)] [(.ref d), (.int (1 : Int32))])) (fun t k => st17 t (XS.aloadN X17.here hx rfl (hb hby d3_29) rfl rfl k)) ?_
      obtain ⟨T18, X18, e18, st18⟩ := getF X17 hx hZ hown (host := "") (Or.inl (wq hw 50 rfl)) Via.refl e17 F_coder_d (g := (mkF m 30 #[.val (.ref a), .val (.ref d), .val (.ref d)] [(.ref d), (.int (1 : Int32))])) rfl rfl (hb hby d3_30)
      refine Goes.pre (U' := T18.setTop (mkF m 33 #[.val (.ref a), .val (.ref d), .val (.ref d)] [(.int (0 : Int32)), (.int (1 : Int32))])) (fun t k => st18 t k) ?_
      have hc33 : ¬ ((1 : Int32) = (0 : Int32)) := by decide
      refine Goes.pre (U' := T18.setTop (mkF m 55 #[.val (.ref a), .val (.ref d), .val (.ref d)] [(.int (0 : Int32))])) (fun t k => XS.icmpYes X18.here hx rfl (pc0 := 33) (pc' := 54) rfl (hb hby d3_33) rfl (feq hc33).2 (by decide) (by decide) (XS.iconst X18.here hx rfl (hb hby d3_54) k)) ?_
      refine Goes.ret X18 (v := (some (.int (0 : Int32)))) (fun h => by rw [hret] at h; cases h) hlk (by decide) (by decide) e18 (fun fs hr => retN X18 hx (t := .boolean) hret (by simp) (hb hby d3_55) hr) ?_
      exact ⟨_, rfl, N0, rfl, fun q => absurd rfl q⟩
    ·
      have V_b := own_cvU V_b
      have V_f := own_cvU V_f
      refine Goes.pre (U' := s₁.setTop (mkF m 8 #[.val (.ref a), .val (.ref d), .unset] [(.ref d)])) (fun t k => XS.aloadN X0.here hx rfl (hb hby d3_7) rfl rfl k) ?_
      obtain ⟨T19, X19, e19, st19⟩ := instY X0 hx hZ hown (wq hw 52 rfl) e0 (Ins.self E_d) (g := (mkF m 8 #[.val (.ref a), .val (.ref d), .unset] [(.ref d)])) rfl rfl (hb hby d3_8)
      refine Goes.pre (U' := T19.setTop (mkF m 11 #[.val (.ref a), .val (.ref d), .unset] [(.int (1 : Int32))])) (fun t k => st19 t k) ?_
      have hc11 : ¬ ((1 : Int32) = (0 : Int32)) := by decide
      refine Goes.pre (U' := T19.setTop (mkF m 15 #[.val (.ref a), .val (.ref d), .unset] [(.ref d)])) (fun t k => XS.ifNo X19.here hx rfl (hb hby d3_11) rfl ((if0 _ _).trans (feq hc11).1) (XS.aloadN X19.here hx rfl (hb hby d3_14) rfl rfl k)) ?_
      obtain ⟨T20, X20, e20, st20⟩ := castY X19 hx hZ hown (wq hw 52 rfl) e19 (Ins.self E_d) (g := (mkF m 15 #[.val (.ref a), .val (.ref d), .unset] [(.ref d)])) rfl rfl (hb hby d3_15)
      refine Goes.pre (U' := T20.setTop (mkF m 19 #[.val (.ref a), .val (.ref d), .val (.ref d)] [])) (fun t k => st20 t (XS.astoreN X20.here hx rfl (hb hby d3_18) rfl rfl (l' := #[.val (.ref a), .val (.ref d), .val (.ref d)]) rfl k)) ?_
      obtain ⟨T21, X21, e21, st21⟩ := getS2 X20 hx hZ hown (host := "") (Or.inl (wq hw 39 rfl)) Via.refl e20 (S_COMPACT_STRINGS.ext O.2) (g := (mkF m 19 #[.val (.ref a), .val (.ref d), .val (.ref d)] [])) rfl (hb hby d3_19)
      refine Goes.pre (U' := T21.setTop (mkF m 22 #[.val (.ref a), .val (.ref d), .val (.ref d)] [(.int cs)])) (fun t k => st21 t k) ?_
      have hc22 : ¬ (cs = (0 : Int32)) := hcs
      refine Goes.pre (U' := T21.setTop (mkF m 26 #[.val (.ref a), .val (.ref d), .val (.ref d)] [(.ref a)])) (fun t k => XS.ifNo X21.here hx rfl (hb hby d3_22) rfl ((if0 _ _).trans (feq hc22).1) (XS.aloadN X21.here hx rfl (hb hby d3_25) rfl rfl k)) ?_
      obtain ⟨T22, X22, e22, st22⟩ := getF X21 hx hZ hown (host := "") (Or.inl (wq hw 50 rfl)) Via.refl e21 F_coder_a (g := (mkF m 26 #[.val (.ref a), .val (.ref d), .val (.ref d)] [(.ref a)])) rfl rfl (hb hby d3_26)
      refine Goes.pre (U' := T22.setTop (mkF m 30 #[.val (.ref a), .val (.ref d), .val (.ref d)] [(.ref d), (.int (1 : Int32))])) (fun t k => st22 t (XS.aloadN X22.here hx rfl (hb hby d3_29) rfl rfl k)) ?_
      obtain ⟨T23, X23, e23, st23⟩ := getF X22 hx hZ hown (host := "") (Or.inl (wq hw 50 rfl)) Via.refl e22 F_coder_d (g := (mkF m 30 #[.val (.ref a), .val (.ref d), .val (.ref d)] [(.ref d), (.int (1 : Int32))])) rfl rfl (hb hby d3_30)
      refine Goes.pre (U' := T23.setTop (mkF m 33 #[.val (.ref a), .val (.ref d), .val (.ref d)] [(.int (1 : Int32)), (.int (1 : Int32))])) (fun t k => st23 t k) ?_
      have hc33 : (1 : Int32) = (1 : Int32) := rfl
      refine Goes.pre (U' := T23.setTop (mkF m 37 #[.val (.ref a), .val (.ref d), .val (.ref d)] [(.ref a)])) (fun t k => XS.icmpNo X23.here hx rfl (hb hby d3_33) rfl (teq hc33).2 (XS.aloadN X23.here hx rfl (hb hby d3_36) rfl rfl k)) ?_
      obtain ⟨T24, X24, e24, st24⟩ := getF X23 hx hZ hown (host := "") (Or.inl (wq hw 51 rfl)) Via.refl e23 F_value_a (g := (mkF m 37 #[.val (.ref a), .val (.ref d), .val (.ref d)] [(.ref a)])) rfl rfl (hb hby d3_37)
      refine Goes.pre (U' := T24.setTop (mkF m 41 #[.val (.ref a), .val (.ref d), .val (.ref d)] [(.ref d), (.ref b)])) (fun t k => st24 t (XS.aloadN X24.here hx rfl (hb hby d3_40) rfl rfl k)) ?_
      obtain ⟨T25, X25, e25, st25⟩ := getF X24 hx hZ hown (host := "") (Or.inl (wq hw 51 rfl)) Via.refl e24 F_value_d (g := (mkF m 41 #[.val (.ref a), .val (.ref d), .val (.ref d)] [(.ref d), (.ref b)])) rfl rfl (hb hby d3_41)
      refine Goes.pre (U' := T25.setTop (mkF m 44 #[.val (.ref a), .val (.ref d), .val (.ref d)] [(.ref f), (.ref b)])) (fun t k => st25 t k) ?_
      obtain ⟨_, _, ⟨T26, L26, k26, n26⟩, -, X26, ⟨Lc26, hQ26, l26, y26, z26⟩, st26⟩ := Jvm.LawKit.callS X25 hx (y := (⟨"java/lang/StringLatin1", "equals", "([B[B)Z"⟩ : MethodName)) hown (mvT hZ (wq hw 53 rfl)) (mvT hZ (wq hw 54 rfl)) (mvT hZ (wq hw 55 rfl)) (mvT hZ (wq hw 56 rfl)) (by decide) (backOf (W := 0) (rm_leq l Z a0 hw [] b ka (own_u8 cl) f kf (own_u8 dl) h0 n0 Z0 V_b V_f (own_len9 _ hl1) (own_len9 _ hl2)) hZ (wq hw 56 rfl) (wq hw 55 rfl) (by decide) (by decide)) (g := (mkF m 44 #[.val (.ref a), .val (.ref d), .val (.ref d)] [(.ref f), (.ref b)])) rfl (by rw [hml]; rfl) (argsL := [(.ref b), (.ref f)]) (rest := []) (lenOf pd__28_5bB_5bB_29Z rfl) rfl (by show 2 * 0 + _ ≤ _; exact Nat.le_of_eq rfl) (hb hby d3_44) (fun _ _ => ⟨rfl, e25, (by decide : 0 + 0 ≤ _), (by decide : 0 + 0 ≤ _)⟩)
      dsimp only [Pt.U, Pt.locs, Pt.cells, Pt.slots] at X26 l26 y26 z26 st26 hQ26
      subst l26 y26 z26
      obtain ⟨ev26, rfl, N26q, HQ26, hx26⟩ := hQ26
      have N26 := Fr.app N0 N26q
      refine Goes.pre (U' := T26.setTop (mkF m 47 #[.val (.ref a), .val (.ref d), .val (.ref d)] [(.int ev26)])) (fun t k => st26 t k) ?_
      by_cases hc47 : ev26 = (0 : Int32)
      ·
        refine Goes.pre (U' := T26.setTop (mkF m 55 #[.val (.ref a), .val (.ref d), .val (.ref d)] [(.int (0 : Int32))])) (fun t k => XS.ifYes X26.here hx rfl (pc0 := 47) (pc' := 54) rfl (hb hby d3_47) rfl ((if0 _ _).trans (teq hc47).1) (by decide) (by decide) (XS.iconst X26.here hx rfl (hb hby d3_54) k)) ?_
        refine Goes.ret X26 (v := (some (.int (0 : Int32)))) (fun h => by rw [hret] at h; cases h) hlk (by decide) (by decide) HQ26 (fun fs hr => retN X26 hx (t := .boolean) hret (by simp) (hb hby d3_55) hr) ?_
        exact ⟨_, rfl, N26, rfl, fun q => absurd rfl q⟩
      ·
        refine Goes.pre (U' := T26.setTop (mkF m 55 #[.val (.ref a), .val (.ref d), .val (.ref d)] [(.int (1 : Int32))])) (fun t k => XS.ifNo X26.here hx rfl (hb hby d3_47) rfl ((if0 _ _).trans (feq hc47).1) (XS.iconst X26.here hx rfl (hb hby d3_50) (XS.goto X26.here hx rfl (pc0 := 51) (pc' := 55) rfl (hb hby d3_51) (by decide) (by decide) k))) ?_
        refine Goes.ret X26 (v := (some (.int (1 : Int32)))) (fun h => by rw [hret] at h; cases h) hlk (by decide) (by decide) HQ26 (fun fs hr => retN X26 hx (t := .boolean) hret (by simp) (hb hby d3_55) hr) ?_
        exact ⟨_, rfl, N26, rfl, fun _ => own_injU cl dl hcA hcD (hx26 hc47)⟩
theorem ef_rm_min (m : MethodId) (x0 : Int32) (x1 : Int32) : entryFrame m #[(.int x0), (.int x1)] 2 = mkF m 0 #[.val (.int x0), .val (.int x1)] [] := by first | (simp [entryFrame, mkF, argsToLocals, Value.category]; done) | rfl
abbrev M15 : MethodName := ⟨"java/lang/Math", "min", "(II)I"⟩
theorem d15_0 : decode jdk_29_method_69_code 0 = .ok (.iload_n 0, 1) := by decide +kernel
theorem d15_1 : decode jdk_29_method_69_code 1 = .ok (.iload_n 1, 1) := by decide +kernel
theorem d15_2 : decode jdk_29_method_69_code 2 = .ok (.if_icmp .gt 7, 3) := by decide +kernel
theorem d15_9 : decode jdk_29_method_69_code 9 = .ok (.iload_n 1, 1) := by decide +kernel
theorem d15_10 : decode jdk_29_method_69_code 10 = .ok (.ireturn, 1) := by decide +kernel
theorem d15_5 : decode jdk_29_method_69_code 5 = .ok (.iload_n 0, 1) := by decide +kernel
theorem d15_6 : decode jdk_29_method_69_code 6 = .ok (.goto 4, 3) := by decide +kernel
def own_min (q0 q1 : Int32) : Int32 := (if q1 < q0 then q1 else q0)
def Q_rm_min (Z : State) (q0 q1 : Int32) (h0 : Heap) (n0 : Nat) (v : Option Value) (h : Heap) (L : List Loc) : Prop := v = some (.int (own_min q0 q1)) ∧ Fr n0 L ∧ h = h0
set_option maxRecDepth 65536 in
set_option maxHeartbeats 40000000 in
theorem rm_min (l : Launch) (Z : State) (a0 : Array Value) (hw : ∀ d ∈ tables_1, d.before a0 Z = true) (ws : List Jvm.Cond) (q0 q1 : Int32) (h0 : Heap) (n0 : Nat) (Z0 : n0 ≤ h0.size)  :
    Met l Z M15 jdk_29_method_69_code 2 (some .int) ws (Rm 0 0 0 0) #[(.int q0), (.int q1)] h0 (Q_rm_min Z q0 q1 h0 n0) := by
  refine met_of (Jvm.Free.JP.mathPlain rfl (by decide +kernel)) (own := "java/lang/Math") rfl (fun m => ef_rm_min m q0 q1) ?_
  intro p e s m below meth c s₁ hx hby hml hown hnm hZ X0 e0 hret hlk
  have N0 := Fr.nil n0
  show Goes p e below s _ _ _ (s₁.setTop (mkF m 0 #[.val (.int q0), .val (.int q1)] []))
  refine Goes.pre (U' := s₁.setTop (mkF m 2 #[.val (.int q0), .val (.int q1)] [(.int q1), (.int q0)])) (fun t k => XS.iloadN X0.here hx rfl (hb hby d15_0) rfl (XS.iloadN X0.here hx rfl (hb hby d15_1) rfl k)) ?_
  by_cases hc2 : q1 < q0
  ·
    refine Goes.pre (U' := s₁.setTop (mkF m 10 #[.val (.int q0), .val (.int q1)] [(.int q1)])) (fun t k => XS.icmpYes X0.here hx rfl (pc0 := 2) (pc' := 9) rfl (hb hby d15_2) rfl (tlt hc2).2.2.1 (by decide) (by decide) (XS.iloadN X0.here hx rfl (hb hby d15_9) rfl k)) ?_
    refine Goes.ret X0 (v := (some (.int q1))) (fun h => by rw [hret] at h; cases h) hlk (by decide) (by decide) e0 (fun fs hr => retI X0 hx hret (hb hby d15_10) hr) ?_
    exact ⟨congrArg (fun z => some (Value.int z)) (show q1 = own_min q0 q1 from (show own_min q0 q1 = q1 from by unfold own_min; rw [if_pos hc2]).symm), N0, rfl⟩
  ·
    refine Goes.pre (U' := s₁.setTop (mkF m 10 #[.val (.int q0), .val (.int q1)] [(.int q0)])) (fun t k => XS.icmpNo X0.here hx rfl (hb hby d15_2) rfl (flt hc2).2.2.1 (XS.iloadN X0.here hx rfl (hb hby d15_5) rfl (XS.goto X0.here hx rfl (pc0 := 6) (pc' := 10) rfl (hb hby d15_6) (by decide) (by decide) k))) ?_
    refine Goes.ret X0 (v := (some (.int q0))) (fun h => by rw [hret] at h; cases h) hlk (by decide) (by decide) e0 (fun fs hr => retI X0 hx hret (hb hby d15_10) hr) ?_
    exact ⟨congrArg (fun z => some (Value.int z)) (show q0 = own_min q0 q1 from (show own_min q0 q1 = q0 from by unfold own_min; rw [if_neg hc2]).symm), N0, rfl⟩
theorem ef_rm_isSur (m : MethodId) (x0 : Int32) : entryFrame m #[(.int x0)] 1 = mkF m 0 #[.val (.int x0)] [] := by first | (simp [entryFrame, mkF, argsToLocals, Value.category]; done) | rfl
theorem pn_java_lang_Character : plainName "java/lang/Character" = true := by first | (simp [plainName, overriddenIn]; done) | decide +kernel
abbrev M22 : MethodName := ⟨"java/lang/Character", "isSurrogate", "(C)Z"⟩
theorem d22_0 : decode jdk_89_method_16_code 0 = .ok (.iload_n 0, 1) := by decide +kernel
theorem d22_1 : decode jdk_89_method_16_code 1 = .ok (.ldc 75, 2) := by decide +kernel
theorem d22_3 : decode jdk_89_method_16_code 3 = .ok (.if_icmp .lt 13, 3) := by decide +kernel
theorem d22_16 : decode jdk_89_method_16_code 16 = .ok (.iconst 0, 1) := by decide +kernel
theorem d22_17 : decode jdk_89_method_16_code 17 = .ok (.ireturn, 1) := by decide +kernel
theorem d22_6 : decode jdk_89_method_16_code 6 = .ok (.iload_n 0, 1) := by decide +kernel
theorem d22_7 : decode jdk_89_method_16_code 7 = .ok (.ldc 77, 2) := by decide +kernel
theorem d22_9 : decode jdk_89_method_16_code 9 = .ok (.if_icmp .ge 7, 3) := by decide +kernel
theorem d22_12 : decode jdk_89_method_16_code 12 = .ok (.iconst 1, 1) := by decide +kernel
theorem d22_13 : decode jdk_89_method_16_code 13 = .ok (.goto 4, 3) := by decide +kernel
def own_isSur (q0 : Int32) : Int32 := (if q0 < (55296 : Int32) then (0 : Int32) else (if q0 < (57344 : Int32) then (1 : Int32) else (0 : Int32)))
def Q_rm_isSur (Z : State) (q0 : Int32) (h0 : Heap) (n0 : Nat) (v : Option Value) (h : Heap) (L : List Loc) : Prop := v = some (.int (own_isSur q0)) ∧ Fr n0 L ∧ h = h0
set_option maxRecDepth 65536 in
set_option maxHeartbeats 40000000 in
theorem rm_isSur (l : Launch) (Z : State) (a0 : Array Value) (hw : ∀ d ∈ tables_1, d.before a0 Z = true) (ws : List Jvm.Cond) (q0 : Int32) (h0 : Heap) (n0 : Nat) (Z0 : n0 ≤ h0.size)  :
    Met l Z M22 jdk_89_method_16_code 1 (some .boolean) ws (Rm 0 0 0 0) #[(.int q0)] h0 (Q_rm_isSur Z q0 h0 n0) := by
  refine met_of (plainFor_of_name pn_java_lang_Character) (own := "java/lang/Character") rfl (fun m => ef_rm_isSur m q0) ?_
  intro p e s m below meth c s₁ hx hby hml hown hnm hZ X0 e0 hret hlk
  have N0 := Fr.nil n0
  show Goes p e below s _ _ _ (s₁.setTop (mkF m 0 #[.val (.int q0)] []))
  refine Goes.pre (U' := s₁.setTop (mkF m 3 #[.val (.int q0)] [(.int (55296 : Int32)), (.int q0)])) (fun t k => XS.iloadN X0.here hx rfl (hb hby d22_0) rfl (X0.ldcInt hx hown (mvT hZ (wq hw 99 rfl)) (g := (mkF m 1 #[.val (.int q0)] [(.int q0)])) rfl (hb hby d22_1) _ k)) ?_
  by_cases hc3 : q0 < (55296 : Int32)
  ·
    refine Goes.pre (U' := s₁.setTop (mkF m 17 #[.val (.int q0)] [(.int (0 : Int32))])) (fun t k => XS.icmpYes X0.here hx rfl (pc0 := 3) (pc' := 16) rfl (hb hby d22_3) rfl (tlt hc3).1 (by decide) (by decide) (XS.iconst X0.here hx rfl (hb hby d22_16) k)) ?_
    refine Goes.ret X0 (v := (some (.int (0 : Int32)))) (fun h => by rw [hret] at h; cases h) hlk (by decide) (by decide) e0 (fun fs hr => retN X0 hx (t := .boolean) hret (by simp) (hb hby d22_17) hr) ?_
    exact ⟨congrArg (fun z => some (Value.int z)) (show (0 : Int32) = own_isSur q0 from (show own_isSur q0 = (0 : Int32) from by unfold own_isSur; rw [if_pos hc3]).symm), N0, rfl⟩
  ·
    refine Goes.pre (U' := s₁.setTop (mkF m 9 #[.val (.int q0)] [(.int (57344 : Int32)), (.int q0)])) (fun t k => XS.icmpNo X0.here hx rfl (hb hby d22_3) rfl (flt hc3).1 (XS.iloadN X0.here hx rfl (hb hby d22_6) rfl (X0.ldcInt hx hown (mvT hZ (wq hw 134 rfl)) (g := (mkF m 7 #[.val (.int q0)] [(.int q0)])) rfl (hb hby d22_7) _ k))) ?_
    by_cases hc9 : q0 < (57344 : Int32)
    ·
      refine Goes.pre (U' := s₁.setTop (mkF m 17 #[.val (.int q0)] [(.int (1 : Int32))])) (fun t k => XS.icmpNo X0.here hx rfl (hb hby d22_9) rfl (tlt hc9).2.1 (XS.iconst X0.here hx rfl (hb hby d22_12) (XS.goto X0.here hx rfl (pc0 := 13) (pc' := 17) rfl (hb hby d22_13) (by decide) (by decide) k))) ?_
      refine Goes.ret X0 (v := (some (.int (1 : Int32)))) (fun h => by rw [hret] at h; cases h) hlk (by decide) (by decide) e0 (fun fs hr => retN X0 hx (t := .boolean) hret (by simp) (hb hby d22_17) hr) ?_
      exact ⟨congrArg (fun z => some (Value.int z)) (show (1 : Int32) = own_isSur q0 from (show own_isSur q0 = (1 : Int32) from by unfold own_isSur; rw [if_neg hc3, if_pos hc9]).symm), N0, rfl⟩
    ·
      refine Goes.pre (U' := s₁.setTop (mkF m 17 #[.val (.int q0)] [(.int (0 : Int32))])) (fun t k => XS.icmpYes X0.here hx rfl (pc0 := 9) (pc' := 16) rfl (hb hby d22_9) rfl (flt hc9).2.1 (by decide) (by decide) (XS.iconst X0.here hx rfl (hb hby d22_16) k)) ?_
      refine Goes.ret X0 (v := (some (.int (0 : Int32)))) (fun h => by rw [hret] at h; cases h) hlk (by decide) (by decide) e0 (fun fs hr => retN X0 hx (t := .boolean) hret (by simp) (hb hby d22_17) hr) ?_
      exact ⟨congrArg (fun z => some (Value.int z)) (show (0 : Int32) = own_isSur q0 from (show own_isSur q0 = (0 : Int32) from by unfold own_isSur; rw [if_neg hc3, if_neg hc9]).symm), N0, rfl⟩
theorem ef_rm_rank (m : MethodId) (x0 : Int32) : entryFrame m #[(.int x0)] 1 = mkF m 0 #[.val (.int x0)] [] := by first | (simp [entryFrame, mkF, argsToLocals, Value.category]; done) | rfl
theorem pn_com_example_known_paths_knownpaths_item_CodePointOrder : plainName "com/example/known_paths/knownpaths/item/CodePointOrder" = true := by first | (simp [plainName, overriddenIn]; done) | decide +kernel
abbrev M21 : MethodName := ⟨"com/example/known_paths/knownpaths/item/CodePointOrder", "rank", "(C)I"⟩
theorem d21_0 : decode prog_5_method_3_code 0 = .ok (.iload_n 0, 1) := by decide +kernel
theorem d21_1 : decode prog_5_method_3_code 1 = .ok (.invokestatic 33, 3) := by decide +kernel
theorem pd__28C_29Z : parseMethodDescriptor "(C)Z" = some ⟨[.char], some .boolean⟩ := by decide +kernel
theorem d21_4 : decode prog_5_method_3_code 4 = .ok (.ifCond .eq 9, 3) := by decide +kernel
theorem d21_13 : decode prog_5_method_3_code 13 = .ok (.iload_n 0, 1) := by decide +kernel
theorem d21_14 : decode prog_5_method_3_code 14 = .ok (.ldc 39, 2) := by decide +kernel
theorem d21_16 : decode prog_5_method_3_code 16 = .ok (.if_icmp .lt 11, 3) := by decide +kernel
theorem d21_27 : decode prog_5_method_3_code 27 = .ok (.iload_n 0, 1) := by decide +kernel
theorem d21_28 : decode prog_5_method_3_code 28 = .ok (.ireturn, 1) := by decide +kernel
theorem d21_19 : decode prog_5_method_3_code 19 = .ok (.iload_n 0, 1) := by decide +kernel
theorem d21_20 : decode prog_5_method_3_code 20 = .ok (.sipush 2048, 3) := by decide +kernel
theorem d21_23 : decode prog_5_method_3_code 23 = .ok (.isub, 1) := by decide +kernel
theorem d21_24 : decode prog_5_method_3_code 24 = .ok (.goto 4, 3) := by decide +kernel
theorem d21_7 : decode prog_5_method_3_code 7 = .ok (.iload_n 0, 1) := by decide +kernel
theorem d21_8 : decode prog_5_method_3_code 8 = .ok (.sipush 8192, 3) := by decide +kernel
theorem d21_11 : decode prog_5_method_3_code 11 = .ok (.iadd, 1) := by decide +kernel
theorem d21_12 : decode prog_5_method_3_code 12 = .ok (.ireturn, 1) := by decide +kernel
def own_rank (q0 : Int32) : Int32 := (if (own_isSur q0) = (0 : Int32) then (if q0 < (57344 : Int32) then q0 else (q0 - (2048 : Int32))) else (q0 + (8192 : Int32)))
def Q_rm_rank (Z : State) (q0 : Int32) (h0 : Heap) (n0 : Nat) (v : Option Value) (h : Heap) (L : List Loc) : Prop := v = some (.int (own_rank q0)) ∧ Fr n0 L ∧ h = h0
set_option maxRecDepth 65536 in
set_option maxHeartbeats 40000000 in
theorem rm_rank (l : Launch) (Z : State) (a0 : Array Value) (hw : ∀ d ∈ tables_1, d.before a0 Z = true) (ws : List Jvm.Cond) (q0 : Int32) (h0 : Heap) (n0 : Nat) (Z0 : n0 ≤ h0.size)  :
    Met l Z M21 prog_5_method_3_code 1 (some .int) ws (Rm 1 0 0 12) #[(.int q0)] h0 (Q_rm_rank Z q0 h0 n0) := by
  refine met_of (plainFor_of_name pn_com_example_known_paths_knownpaths_item_CodePointOrder) (own := "com/example/known_paths/knownpaths/item/CodePointOrder") rfl (fun m => ef_rm_rank m q0) ?_
  intro p e s m below meth c s₁ hx hby hml hown hnm hZ X0 e0 hret hlk
  have N0 := Fr.nil n0
  show Goes p e below s _ _ _ (s₁.setTop (mkF m 0 #[.val (.int q0)] []))
  refine Goes.pre (U' := s₁.setTop (mkF m 1 #[.val (.int q0)] [(.int q0)])) (fun t k => XS.iloadN X0.here hx rfl (hb hby d21_0) rfl k) ?_
  obtain ⟨_, _, ⟨T1, L1, k1, n1⟩, -, X1, ⟨Lc1, hQ1, l1, y1, z1⟩, st1⟩ := Jvm.LawKit.callS X0 hx (y := (⟨"java/lang/Character", "isSurrogate", "(C)Z"⟩ : MethodName)) hown (mvT hZ (wq hw 95 rfl)) (mvT hZ (wq hw 96 rfl)) (mvT hZ (wq hw 97 rfl)) (mvT hZ (wq hw 98 rfl)) (by decide) (backOf (W := 0) (rm_isSur l Z a0 hw [] q0 h0 n0 Z0) hZ (wq hw 98 rfl) (wq hw 97 rfl) (by decide) (by decide)) (g := (mkF m 1 #[.val (.int q0)] [(.int q0)])) rfl (by rw [hml]; rfl) (argsL := [(.int q0)]) (rest := []) (lenOf pd__28C_29Z rfl) rfl (by show 2 * 0 + _ ≤ _; exact Nat.le_of_eq rfl) (hb hby d21_1) (fun _ _ => ⟨rfl, e0, (by decide : 0 + 0 ≤ _), (by decide : 0 + 0 ≤ _)⟩)
  dsimp only [Pt.U, Pt.locs, Pt.cells, Pt.slots] at X1 l1 y1 z1 st1 hQ1
  subst l1 y1 z1
  obtain ⟨rfl, N1q, HQ1⟩ := hQ1
  have N1 := Fr.app N0 N1q
  refine Goes.pre (U' := T1.setTop (mkF m 4 #[.val (.int q0)] [(.int (own_isSur q0))])) (fun t k => st1 t k) ?_
  by_cases hc4 : (own_isSur q0) = (0 : Int32)
  ·
    refine Goes.pre (U' := T1.setTop (mkF m 16 #[.val (.int q0)] [(.int (57344 : Int32)), (.int q0)])) (fun t k => XS.ifYes X1.here hx rfl (pc0 := 4) (pc' := 13) rfl (hb hby d21_4) rfl ((if0 _ _).trans (teq hc4).1) (by decide) (by decide) (XS.iloadN X1.here hx rfl (hb hby d21_13) rfl (X1.ldcInt hx hown (mvT hZ (wq hw 100 rfl)) (g := (mkF m 14 #[.val (.int q0)] [(.int q0)])) rfl (hb hby d21_14) _ k))) ?_
    by_cases hc16 : q0 < (57344 : Int32)
    ·
      refine Goes.pre (U' := T1.setTop (mkF m 28 #[.val (.int q0)] [(.int q0)])) (fun t k => XS.icmpYes X1.here hx rfl (pc0 := 16) (pc' := 27) rfl (hb hby d21_16) rfl (tlt hc16).1 (by decide) (by decide) (XS.iloadN X1.here hx rfl (hb hby d21_27) rfl k)) ?_
      refine Goes.ret X1 (v := (some (.int q0))) (fun h => by rw [hret] at h; cases h) hlk (by decide) (by decide) HQ1 (fun fs hr => retI X1 hx hret (hb hby d21_28) hr) ?_
      exact ⟨congrArg (fun z => some (Value.int z)) (show q0 = own_rank q0 from (show own_rank q0 = q0 from by unfold own_rank; rw [if_pos hc4, if_pos hc16]).symm), N1, rfl⟩
    ·
      refine Goes.pre (U' := T1.setTop (mkF m 28 #[.val (.int q0)] [(.int (q0 - (2048 : Int32)))])) (fun t k => XS.icmpNo X1.here hx rfl (hb hby d21_16) rfl (flt hc16).1 (XS.iloadN X1.here hx rfl (hb hby d21_19) rfl (XS.sipush X1.here hx rfl (hb hby d21_20) (XS.isub X1.here hx rfl (hb hby d21_23) rfl (XS.goto X1.here hx rfl (pc0 := 24) (pc' := 28) rfl (hb hby d21_24) (by decide) (by decide) k))))) ?_
      refine Goes.ret X1 (v := (some (.int (q0 - (2048 : Int32))))) (fun h => by rw [hret] at h; cases h) hlk (by decide) (by decide) HQ1 (fun fs hr => retI X1 hx hret (hb hby d21_28) hr) ?_
      exact ⟨congrArg (fun z => some (Value.int z)) (show (q0 - (2048 : Int32)) = own_rank q0 from (show own_rank q0 = (q0 - (2048 : Int32)) from by unfold own_rank; rw [if_pos hc4, if_neg hc16]).symm), N1, rfl⟩
  ·
    refine Goes.pre (U' := T1.setTop (mkF m 12 #[.val (.int q0)] [(.int (q0 + (8192 : Int32)))])) (fun t k => XS.ifNo X1.here hx rfl (hb hby d21_4) rfl ((if0 _ _).trans (feq hc4).1) (XS.iloadN X1.here hx rfl (hb hby d21_7) rfl (XS.sipush X1.here hx rfl (hb hby d21_8) (XS.iadd X1.here hx rfl (hb hby d21_11) rfl k)))) ?_
    refine Goes.ret X1 (v := (some (.int (q0 + (8192 : Int32))))) (fun h => by rw [hret] at h; cases h) hlk (by decide) (by decide) HQ1 (fun fs hr => retI X1 hx hret (hb hby d21_12) hr) ?_
    exact ⟨congrArg (fun z => some (Value.int z)) (show (q0 + (8192 : Int32)) = own_rank q0 from (show own_rank q0 = (q0 + (8192 : Int32)) from by unfold own_rank; rw [if_neg hc4]).symm), N1, rfl⟩
theorem ef_rm_sgn (m : MethodId) (x0 : Int32) : entryFrame m #[(.int x0)] 1 = mkF m 0 #[.val (.int x0)] [] := by first | (simp [entryFrame, mkF, argsToLocals, Value.category]; done) | rfl
theorem pn_com_example_known_paths_knownpaths_item_CodePointOrderComparePinLaw : plainName "com/example/known_paths/knownpaths/item/CodePointOrderComparePinLaw" = true := by first | (simp [plainName, overriddenIn]; done) | decide +kernel
abbrev M4 : MethodName := ⟨"com/example/known_paths/knownpaths/item/CodePointOrderComparePinLaw", "sgn", "(I)I"⟩
theorem d4_0 : decode method_5_code 0 = .ok (.iload_n 0, 1) := by decide +kernel
theorem d4_1 : decode method_5_code 1 = .ok (.ifCond .ge 5, 3) := by decide +kernel
theorem d4_4 : decode method_5_code 4 = .ok (.iconst (-1), 1) := by decide +kernel
theorem d4_5 : decode method_5_code 5 = .ok (.ireturn, 1) := by decide +kernel
theorem d4_6 : decode method_5_code 6 = .ok (.iload_n 0, 1) := by decide +kernel
theorem d4_7 : decode method_5_code 7 = .ok (.ifCond .le 5, 3) := by decide +kernel
theorem d4_10 : decode method_5_code 10 = .ok (.iconst 1, 1) := by decide +kernel
theorem d4_11 : decode method_5_code 11 = .ok (.ireturn, 1) := by decide +kernel
theorem d4_12 : decode method_5_code 12 = .ok (.iconst 0, 1) := by decide +kernel
theorem d4_13 : decode method_5_code 13 = .ok (.ireturn, 1) := by decide +kernel
def own_sgn (q0 : Int32) : Int32 := (if q0 < (0 : Int32) then (-1 : Int32) else (if (0 : Int32) < q0 then (1 : Int32) else (0 : Int32)))
def Q_rm_sgn (Z : State) (q0 : Int32) (h0 : Heap) (n0 : Nat) (v : Option Value) (h : Heap) (L : List Loc) : Prop := v = some (.int (own_sgn q0)) ∧ Fr n0 L ∧ h = h0
set_option maxRecDepth 65536 in
set_option maxHeartbeats 40000000 in
theorem rm_sgn (l : Launch) (Z : State) (a0 : Array Value) (hw : ∀ d ∈ tables_1, d.before a0 Z = true) (ws : List Jvm.Cond) (q0 : Int32) (h0 : Heap) (n0 : Nat) (Z0 : n0 ≤ h0.size)  :
    Met l Z M4 method_5_code 1 (some .int) ws (Rm 0 0 0 0) #[(.int q0)] h0 (Q_rm_sgn Z q0 h0 n0) := by
  refine met_of (plainFor_of_name pn_com_example_known_paths_knownpaths_item_CodePointOrderComparePinLaw) (own := "com/example/known_paths/knownpaths/item/CodePointOrderComparePinLaw") rfl (fun m => ef_rm_sgn m q0) ?_
  intro p e s m below meth c s₁ hx hby hml hown hnm hZ X0 e0 hret hlk
  have N0 := Fr.nil n0
  show Goes p e below s _ _ _ (s₁.setTop (mkF m 0 #[.val (.int q0)] []))
  refine Goes.pre (U' := s₁.setTop (mkF m 1 #[.val (.int q0)] [(.int q0)])) (fun t k => XS.iloadN X0.here hx rfl (hb hby d4_0) rfl k) ?_
  by_cases hc1 : q0 < (0 : Int32)
  ·
    refine Goes.pre (U' := s₁.setTop (mkF m 5 #[.val (.int q0)] [(.int (-1 : Int32))])) (fun t k => XS.ifNo X0.here hx rfl (hb hby d4_1) rfl ((if0 _ _).trans (tlt hc1).2.1) (XS.iconst X0.here hx rfl (hb hby d4_4) k)) ?_
    refine Goes.ret X0 (v := (some (.int (-1 : Int32)))) (fun h => by rw [hret] at h; cases h) hlk (by decide) (by decide) e0 (fun fs hr => retI X0 hx hret (hb hby d4_5) hr) ?_
    exact ⟨congrArg (fun z => some (Value.int z)) (show (-1 : Int32) = own_sgn q0 from (show own_sgn q0 = (-1 : Int32) from by unfold own_sgn; rw [if_pos hc1]).symm), N0, rfl⟩
  ·
    refine Goes.pre (U' := s₁.setTop (mkF m 7 #[.val (.int q0)] [(.int q0)])) (fun t k => XS.ifYes X0.here hx rfl (pc0 := 1) (pc' := 6) rfl (hb hby d4_1) rfl ((if0 _ _).trans (flt hc1).2.1) (by decide) (by decide) (XS.iloadN X0.here hx rfl (hb hby d4_6) rfl k)) ?_
    by_cases hc7 : (0 : Int32) < q0
    ·
      refine Goes.pre (U' := s₁.setTop (mkF m 11 #[.val (.int q0)] [(.int (1 : Int32))])) (fun t k => XS.ifNo X0.here hx rfl (hb hby d4_7) rfl ((if0 _ _).trans (tlt hc7).2.2.2) (XS.iconst X0.here hx rfl (hb hby d4_10) k)) ?_
      refine Goes.ret X0 (v := (some (.int (1 : Int32)))) (fun h => by rw [hret] at h; cases h) hlk (by decide) (by decide) e0 (fun fs hr => retI X0 hx hret (hb hby d4_11) hr) ?_
      exact ⟨congrArg (fun z => some (Value.int z)) (show (1 : Int32) = own_sgn q0 from (show own_sgn q0 = (1 : Int32) from by unfold own_sgn; rw [if_neg hc1, if_pos hc7]).symm), N0, rfl⟩
    ·
      refine Goes.pre (U' := s₁.setTop (mkF m 13 #[.val (.int q0)] [(.int (0 : Int32))])) (fun t k => XS.ifYes X0.here hx rfl (pc0 := 7) (pc' := 12) rfl (hb hby d4_7) rfl ((if0 _ _).trans (flt hc7).2.2.2) (by decide) (by decide) (XS.iconst X0.here hx rfl (hb hby d4_12) k)) ?_
      refine Goes.ret X0 (v := (some (.int (0 : Int32)))) (fun h => by rw [hret] at h; cases h) hlk (by decide) (by decide) e0 (fun fs hr => retI X0 hx hret (hb hby d4_13) hr) ?_
      exact ⟨congrArg (fun z => some (Value.int z)) (show (0 : Int32) = own_sgn q0 from (show own_sgn q0 = (0 : Int32) from by unfold own_sgn; rw [if_neg hc1, if_neg hc7]).symm), N0, rfl⟩
theorem ef_rm_key (m : MethodId) (x0 : Int32) : entryFrame m #[(.int x0)] 1 = mkF m 0 #[.val (.int x0)] [] := by first | (simp [entryFrame, mkF, argsToLocals, Value.category]; done) | rfl
abbrev M23 : MethodName := ⟨"com/example/known_paths/knownpaths/item/CodePointOrderComparePinLaw", "key", "(C)I"⟩
theorem d23_0 : decode method_4_code 0 = .ok (.iload_n 0, 1) := by decide +kernel
theorem d23_1 : decode method_4_code 1 = .ok (.ldc 34, 2) := by decide +kernel
theorem d23_3 : decode method_4_code 3 = .ok (.if_icmp .lt 14, 3) := by decide +kernel
theorem d23_17 : decode method_4_code 17 = .ok (.iload_n 0, 1) := by decide +kernel
theorem d23_18 : decode method_4_code 18 = .ok (.ireturn, 1) := by decide +kernel
theorem d23_6 : decode method_4_code 6 = .ok (.iload_n 0, 1) := by decide +kernel
theorem d23_7 : decode method_4_code 7 = .ok (.ldc 35, 2) := by decide +kernel
theorem d23_9 : decode method_4_code 9 = .ok (.if_icmp .gt 8, 3) := by decide +kernel
theorem d23_12 : decode method_4_code 12 = .ok (.iload_n 0, 1) := by decide +kernel
theorem d23_13 : decode method_4_code 13 = .ok (.ldc 36, 2) := by decide +kernel
theorem d23_15 : decode method_4_code 15 = .ok (.iadd, 1) := by decide +kernel
theorem d23_16 : decode method_4_code 16 = .ok (.ireturn, 1) := by decide +kernel
def own_key (q0 : Int32) : Int32 := (if q0 < (55296 : Int32) then q0 else (if (57343 : Int32) < q0 then q0 else (q0 + (65536 : Int32))))
def Q_rm_key (Z : State) (q0 : Int32) (h0 : Heap) (n0 : Nat) (v : Option Value) (h : Heap) (L : List Loc) : Prop := v = some (.int (own_key q0)) ∧ Fr n0 L ∧ h = h0
set_option maxRecDepth 65536 in
set_option maxHeartbeats 40000000 in
theorem rm_key (l : Launch) (Z : State) (a0 : Array Value) (hw : ∀ d ∈ tables_1, d.before a0 Z = true) (ws : List Jvm.Cond) (q0 : Int32) (h0 : Heap) (n0 : Nat) (Z0 : n0 ≤ h0.size)  :
    Met l Z M23 method_4_code 1 (some .int) ws (Rm 0 0 0 0) #[(.int q0)] h0 (Q_rm_key Z q0 h0 n0) := by
  refine met_of (plainFor_of_name pn_com_example_known_paths_knownpaths_item_CodePointOrderComparePinLaw) (own := "com/example/known_paths/knownpaths/item/CodePointOrderComparePinLaw") rfl (fun m => ef_rm_key m q0) ?_
  intro p e s m below meth c s₁ hx hby hml hown hnm hZ X0 e0 hret hlk
  have N0 := Fr.nil n0
  show Goes p e below s _ _ _ (s₁.setTop (mkF m 0 #[.val (.int q0)] []))
  refine Goes.pre (U' := s₁.setTop (mkF m 3 #[.val (.int q0)] [(.int (55296 : Int32)), (.int q0)])) (fun t k => XS.iloadN X0.here hx rfl (hb hby d23_0) rfl (X0.ldcInt hx hown (mvT hZ (wq hw 104 rfl)) (g := (mkF m 1 #[.val (.int q0)] [(.int q0)])) rfl (hb hby d23_1) _ k)) ?_
  by_cases hc3 : q0 < (55296 : Int32)
  ·
    refine Goes.pre (U' := s₁.setTop (mkF m 18 #[.val (.int q0)] [(.int q0)])) (fun t k => XS.icmpYes X0.here hx rfl (pc0 := 3) (pc' := 17) rfl (hb hby d23_3) rfl (tlt hc3).1 (by decide) (by decide) (XS.iloadN X0.here hx rfl (hb hby d23_17) rfl k)) ?_
    refine Goes.ret X0 (v := (some (.int q0))) (fun h => by rw [hret] at h; cases h) hlk (by decide) (by decide) e0 (fun fs hr => retI X0 hx hret (hb hby d23_18) hr) ?_
    exact ⟨congrArg (fun z => some (Value.int z)) (show q0 = own_key q0 from (show own_key q0 = q0 from by unfold own_key; rw [if_pos hc3]).symm), N0, rfl⟩
  ·
    refine Goes.pre (U' := s₁.setTop (mkF m 9 #[.val (.int q0)] [(.int (57343 : Int32)), (.int q0)])) (fun t k => XS.icmpNo X0.here hx rfl (hb hby d23_3) rfl (flt hc3).1 (XS.iloadN X0.here hx rfl (hb hby d23_6) rfl (X0.ldcInt hx hown (mvT hZ (wq hw 135 rfl)) (g := (mkF m 7 #[.val (.int q0)] [(.int q0)])) rfl (hb hby d23_7) _ k))) ?_
    by_cases hc9 : (57343 : Int32) < q0
    ·
      refine Goes.pre (U' := s₁.setTop (mkF m 18 #[.val (.int q0)] [(.int q0)])) (fun t k => XS.icmpYes X0.here hx rfl (pc0 := 9) (pc' := 17) rfl (hb hby d23_9) rfl (tlt hc9).2.2.1 (by decide) (by decide) (XS.iloadN X0.here hx rfl (hb hby d23_17) rfl k)) ?_
      refine Goes.ret X0 (v := (some (.int q0))) (fun h => by rw [hret] at h; cases h) hlk (by decide) (by decide) e0 (fun fs hr => retI X0 hx hret (hb hby d23_18) hr) ?_
      exact ⟨congrArg (fun z => some (Value.int z)) (show q0 = own_key q0 from (show own_key q0 = q0 from by unfold own_key; rw [if_neg hc3, if_pos hc9]).symm), N0, rfl⟩
    ·
      refine Goes.pre (U' := s₁.setTop (mkF m 16 #[.val (.int q0)] [(.int (q0 + (65536 : Int32)))])) (fun t k => XS.icmpNo X0.here hx rfl (hb hby d23_9) rfl (flt hc9).2.2.1 (XS.iloadN X0.here hx rfl (hb hby d23_12) rfl (X0.ldcInt hx hown (mvT hZ (wq hw 136 rfl)) (g := (mkF m 13 #[.val (.int q0)] [(.int q0)])) rfl (hb hby d23_13) _ (XS.iadd X0.here hx rfl (hb hby d23_15) rfl k)))) ?_
      refine Goes.ret X0 (v := (some (.int (q0 + (65536 : Int32))))) (fun h => by rw [hret] at h; cases h) hlk (by decide) (by decide) e0 (fun fs hr => retI X0 hx hret (hb hby d23_16) hr) ?_
      exact ⟨congrArg (fun z => some (Value.int z)) (show (q0 + (65536 : Int32)) = own_key q0 from (show own_key q0 = (q0 + (65536 : Int32)) from by unfold own_key; rw [if_neg hc3, if_neg hc9]).symm), N0, rfl⟩
theorem ef_rm_ref (m : MethodId) (x0 : Int32) (x1 : Int32) (x2 : Int32) (x3 : Int32) (x4 : Int32) (x5 : Int32) (x6 : Int32) (x7 : Int32) : entryFrame m #[(.int x0), (.int x1), (.int x2), (.int x3), (.int x4), (.int x5), (.int x6), (.int x7)] 8 = mkF m 0 #[.val (.int x0), .val (.int x1), .val (.int x2), .val (.int x3), .val (.int x4), .val (.int x5), .val (.int x6), .val (.int x7)] [] := by first | (simp [entryFrame, mkF, argsToLocals, Value.category]; done) | rfl
abbrev M5 : MethodName := ⟨"com/example/known_paths/knownpaths/item/CodePointOrderComparePinLaw", "ref", "(ICCCICCC)I"⟩
theorem d5_0 : decode method_6_code 0 = .ok (.iload_n 0, 1) := by decide +kernel
theorem d5_1 : decode method_6_code 1 = .ok (.ifCond .eq 8, 3) := by decide +kernel
theorem d5_9 : decode method_6_code 9 = .ok (.iload_n 0, 1) := by decide +kernel
theorem d5_10 : decode method_6_code 10 = .ok (.iload 4, 2) := by decide +kernel
theorem d5_12 : decode method_6_code 12 = .ok (.isub, 1) := by decide +kernel
theorem d5_13 : decode method_6_code 13 = .ok (.invokestatic 19, 3) := by decide +kernel
theorem d5_16 : decode method_6_code 16 = .ok (.ireturn, 1) := by decide +kernel
theorem d5_4 : decode method_6_code 4 = .ok (.iload 4, 2) := by decide +kernel
theorem d5_6 : decode method_6_code 6 = .ok (.ifCond .ne 11, 3) := by decide +kernel
theorem d5_17 : decode method_6_code 17 = .ok (.iload_n 1, 1) := by decide +kernel
theorem d5_18 : decode method_6_code 18 = .ok (.iload 5, 2) := by decide +kernel
theorem d5_20 : decode method_6_code 20 = .ok (.if_icmp .eq 17, 3) := by decide +kernel
theorem d5_37 : decode method_6_code 37 = .ok (.iload_n 0, 1) := by decide +kernel
theorem d5_38 : decode method_6_code 38 = .ok (.iconst 1, 1) := by decide +kernel
theorem d5_39 : decode method_6_code 39 = .ok (.if_icmp .eq 9, 3) := by decide +kernel
theorem d5_48 : decode method_6_code 48 = .ok (.iload_n 0, 1) := by decide +kernel
theorem d5_49 : decode method_6_code 49 = .ok (.iload 4, 2) := by decide +kernel
theorem d5_51 : decode method_6_code 51 = .ok (.isub, 1) := by decide +kernel
theorem d5_52 : decode method_6_code 52 = .ok (.invokestatic 19, 3) := by decide +kernel
theorem d5_55 : decode method_6_code 55 = .ok (.ireturn, 1) := by decide +kernel
theorem d5_42 : decode method_6_code 42 = .ok (.iload 4, 2) := by decide +kernel
theorem d5_44 : decode method_6_code 44 = .ok (.iconst 1, 1) := by decide +kernel
theorem d5_45 : decode method_6_code 45 = .ok (.if_icmp .ne 11, 3) := by decide +kernel
theorem d5_56 : decode method_6_code 56 = .ok (.iload_n 2, 1) := by decide +kernel
theorem d5_57 : decode method_6_code 57 = .ok (.iload 6, 2) := by decide +kernel
theorem d5_59 : decode method_6_code 59 = .ok (.if_icmp .eq 17, 3) := by decide +kernel
theorem d5_76 : decode method_6_code 76 = .ok (.iload_n 0, 1) := by decide +kernel
theorem d5_77 : decode method_6_code 77 = .ok (.iconst 2, 1) := by decide +kernel
theorem d5_78 : decode method_6_code 78 = .ok (.if_icmp .eq 9, 3) := by decide +kernel
theorem d5_87 : decode method_6_code 87 = .ok (.iload_n 0, 1) := by decide +kernel
theorem d5_88 : decode method_6_code 88 = .ok (.iload 4, 2) := by decide +kernel
theorem d5_90 : decode method_6_code 90 = .ok (.isub, 1) := by decide +kernel
theorem d5_91 : decode method_6_code 91 = .ok (.invokestatic 19, 3) := by decide +kernel
theorem d5_94 : decode method_6_code 94 = .ok (.ireturn, 1) := by decide +kernel
theorem d5_81 : decode method_6_code 81 = .ok (.iload 4, 2) := by decide +kernel
theorem d5_83 : decode method_6_code 83 = .ok (.iconst 2, 1) := by decide +kernel
theorem d5_84 : decode method_6_code 84 = .ok (.if_icmp .ne 11, 3) := by decide +kernel
theorem d5_95 : decode method_6_code 95 = .ok (.iload_n 3, 1) := by decide +kernel
theorem d5_96 : decode method_6_code 96 = .ok (.iload 7, 2) := by decide +kernel
theorem d5_98 : decode method_6_code 98 = .ok (.if_icmp .eq 17, 3) := by decide +kernel
theorem d5_115 : decode method_6_code 115 = .ok (.iload_n 0, 1) := by decide +kernel
theorem d5_116 : decode method_6_code 116 = .ok (.iload 4, 2) := by decide +kernel
theorem d5_118 : decode method_6_code 118 = .ok (.isub, 1) := by decide +kernel
theorem d5_119 : decode method_6_code 119 = .ok (.invokestatic 19, 3) := by decide +kernel
theorem d5_122 : decode method_6_code 122 = .ok (.ireturn, 1) := by decide +kernel
theorem d5_101 : decode method_6_code 101 = .ok (.iload_n 3, 1) := by decide +kernel
theorem d5_102 : decode method_6_code 102 = .ok (.invokestatic 37, 3) := by decide +kernel
theorem pd__28C_29I : parseMethodDescriptor "(C)I" = some ⟨[.char], some .int⟩ := by decide +kernel
theorem d5_105 : decode method_6_code 105 = .ok (.iload 7, 2) := by decide +kernel
theorem d5_107 : decode method_6_code 107 = .ok (.invokestatic 37, 3) := by decide +kernel
theorem d5_110 : decode method_6_code 110 = .ok (.isub, 1) := by decide +kernel
theorem d5_111 : decode method_6_code 111 = .ok (.invokestatic 19, 3) := by decide +kernel
theorem d5_114 : decode method_6_code 114 = .ok (.ireturn, 1) := by decide +kernel
theorem d5_62 : decode method_6_code 62 = .ok (.iload_n 2, 1) := by decide +kernel
theorem d5_63 : decode method_6_code 63 = .ok (.invokestatic 37, 3) := by decide +kernel
theorem d5_66 : decode method_6_code 66 = .ok (.iload 6, 2) := by decide +kernel
theorem d5_68 : decode method_6_code 68 = .ok (.invokestatic 37, 3) := by decide +kernel
theorem d5_71 : decode method_6_code 71 = .ok (.isub, 1) := by decide +kernel
theorem d5_72 : decode method_6_code 72 = .ok (.invokestatic 19, 3) := by decide +kernel
theorem d5_75 : decode method_6_code 75 = .ok (.ireturn, 1) := by decide +kernel
theorem d5_23 : decode method_6_code 23 = .ok (.iload_n 1, 1) := by decide +kernel
theorem d5_24 : decode method_6_code 24 = .ok (.invokestatic 37, 3) := by decide +kernel
theorem d5_27 : decode method_6_code 27 = .ok (.iload 5, 2) := by decide +kernel
theorem d5_29 : decode method_6_code 29 = .ok (.invokestatic 37, 3) := by decide +kernel
theorem d5_32 : decode method_6_code 32 = .ok (.isub, 1) := by decide +kernel
theorem d5_33 : decode method_6_code 33 = .ok (.invokestatic 19, 3) := by decide +kernel
theorem d5_36 : decode method_6_code 36 = .ok (.ireturn, 1) := by decide +kernel
def own_ref (q0 q1 q2 q3 q4 q5 q6 q7 : Int32) : Int32 := (if q0 = (0 : Int32) then (own_sgn (q0 - q4)) else (if q4 = (0 : Int32) then (own_sgn (q0 - q4)) else (if q1 = q5 then (if q0 = (1 : Int32) then (own_sgn (q0 - q4)) else (if q4 = (1 : Int32) then (own_sgn (q0 - q4)) else (if q2 = q6 then (if q0 = (2 : Int32) then (own_sgn (q0 - q4)) else (if q4 = (2 : Int32) then (own_sgn (q0 - q4)) else (if q3 = q7 then (own_sgn (q0 - q4)) else (own_sgn ((own_key q3) - (own_key q7)))))) else (own_sgn ((own_key q2) - (own_key q6)))))) else (own_sgn ((own_key q1) - (own_key q5))))))
def Q_rm_ref (Z : State) (q0 q1 q2 q3 q4 q5 q6 q7 : Int32) (h0 : Heap) (n0 : Nat) (v : Option Value) (h : Heap) (L : List Loc) : Prop := v = some (.int (own_ref q0 q1 q2 q3 q4 q5 q6 q7)) ∧ Fr n0 L ∧ h = h0
set_option maxRecDepth 65536 in
set_option maxHeartbeats 40000000 in
theorem rm_ref (l : Launch) (Z : State) (a0 : Array Value) (hw : ∀ d ∈ tables_1, d.before a0 Z = true) (ws : List Jvm.Cond) (q0 q1 q2 q3 q4 q5 q6 q7 : Int32) (h0 : Heap) (n0 : Nat) (Z0 : n0 ≤ h0.size)  :
    Met l Z M5 method_6_code 8 (some .int) ws (Rm 1 0 0 13) #[(.int q0), (.int q1), (.int q2), (.int q3), (.int q4), (.int q5), (.int q6), (.int q7)] h0 (Q_rm_ref Z q0 q1 q2 q3 q4 q5 q6 q7 h0 n0) := by
  refine met_of (plainFor_of_name pn_com_example_known_paths_knownpaths_item_CodePointOrderComparePinLaw) (own := "com/example/known_paths/knownpaths/item/CodePointOrderComparePinLaw") rfl (fun m => ef_rm_ref m q0 q1 q2 q3 q4 q5 q6 q7) ?_
  intro p e s m below meth c s₁ hx hby hml hown hnm hZ X0 e0 hret hlk
  have N0 := Fr.nil n0
  show Goes p e below s _ _ _ (s₁.setTop (mkF m 0 #[.val (.int q0), .val (.int q1), .val (.int q2), .val (.int q3), .val (.int q4), .val (.int q5), .val (.int q6), .val (.int q7)] []))
  refine Goes.pre (U' := s₁.setTop (mkF m 1 #[.val (.int q0), .val (.int q1), .val (.int q2), .val (.int q3), .val (.int q4), .val (.int q5), .val (.int q6), .val (.int q7)] [(.int q0)])) (fun t k => XS.iloadN X0.here hx rfl (hb hby d5_0) rfl k) ?_
  by_cases hc1 : q0 = (0 : Int32)
  ·
    refine Goes.pre (U' := s₁.setTop (mkF m 13 #[.val (.int q0), .val (.int q1), .val (.int q2), .val (.int q3), .val (.int q4), .val (.int q5), .val (.int q6), .val (.int q7)] [(.int (q0 - q4))])) (fun t k => XS.ifYes X0.here hx rfl (pc0 := 1) (pc' := 9) rfl (hb hby d5_1) rfl ((if0 _ _).trans (teq hc1).1) (by decide) (by decide) (XS.iloadN X0.here hx rfl (hb hby d5_9) rfl (XS.iload X0.here hx rfl (hb hby d5_10) rfl (XS.isub X0.here hx rfl (hb hby d5_12) rfl k)))) ?_
    obtain ⟨_, _, ⟨T1, L1, k1, n1⟩, -, X1, ⟨Lc1, hQ1, l1, y1, z1⟩, st1⟩ := Jvm.LawKit.callS X0 hx (y := (⟨"com/example/known_paths/knownpaths/item/CodePointOrderComparePinLaw", "sgn", "(I)I"⟩ : MethodName)) hown (mvT hZ (wq hw 21 rfl)) (mvT hZ (wq hw 22 rfl)) (mvT hZ (wq hw 2 rfl)) (mvT hZ (wq hw 23 rfl)) (by decide) (backOf (W := 0) (rm_sgn l Z a0 hw [] (q0 - q4) h0 n0 Z0) hZ (wq hw 23 rfl) (wq hw 2 rfl) (by decide) (by decide)) (g := (mkF m 13 #[.val (.int q0), .val (.int q1), .val (.int q2), .val (.int q3), .val (.int q4), .val (.int q5), .val (.int q6), .val (.int q7)] [(.int (q0 - q4))])) rfl (by rw [hml]; rfl) (argsL := [(.int (q0 - q4))]) (rest := []) (lenOf pd__28I_29I rfl) rfl (by show 2 * 0 + _ ≤ _; exact Nat.le_of_eq rfl) (hb hby d5_13) (fun _ _ => ⟨rfl, e0, (by decide : 0 + 0 ≤ _), (by decide : 0 + 0 ≤ _)⟩)
    dsimp only [Pt.U, Pt.locs, Pt.cells, Pt.slots] at X1 l1 y1 z1 st1 hQ1
    subst l1 y1 z1
    obtain ⟨rfl, N1q, HQ1⟩ := hQ1
    have N1 := Fr.app N0 N1q
    refine Goes.pre (U' := T1.setTop (mkF m 16 #[.val (.int q0), .val (.int q1), .val (.int q2), .val (.int q3), .val (.int q4), .val (.int q5), .val (.int q6), .val (.int q7)] [(.int (own_sgn (q0 - q4)))])) (fun t k => st1 t k) ?_
    refine Goes.ret X1 (v := (some (.int (own_sgn (q0 - q4))))) (fun h => by rw [hret] at h; cases h) hlk (by decide) (by decide) HQ1 (fun fs hr => retI X1 hx hret (hb hby d5_16) hr) ?_
    exact ⟨congrArg (fun z => some (Value.int z)) (show (own_sgn (q0 - q4)) = own_ref q0 q1 q2 q3 q4 q5 q6 q7 from (show own_ref q0 q1 q2 q3 q4 q5 q6 q7 = (own_sgn (q0 - q4)) from by unfold own_ref; rw [if_pos hc1]).symm), N1, rfl⟩
  ·
    refine Goes.pre (U' := s₁.setTop (mkF m 6 #[.val (.int q0), .val (.int q1), .val (.int q2), .val (.int q3), .val (.int q4), .val (.int q5), .val (.int q6), .val (.int q7)] [(.int q4)])) (fun t k => XS.ifNo X0.here hx rfl (hb hby d5_1) rfl ((if0 _ _).trans (feq hc1).1) (XS.iload X0.here hx rfl (hb hby d5_4) rfl k)) ?_
    by_cases hc6 : q4 = (0 : Int32)
    ·
      refine Goes.pre (U' := s₁.setTop (mkF m 13 #[.val (.int q0), .val (.int q1), .val (.int q2), .val (.int q3), .val (.int q4), .val (.int q5), .val (.int q6), .val (.int q7)] [(.int (q0 - q4))])) (fun t k => XS.ifNo X0.here hx rfl (hb hby d5_6) rfl ((if0 _ _).trans (teq hc6).2) (XS.iloadN X0.here hx rfl (hb hby d5_9) rfl (XS.iload X0.here hx rfl (hb hby d5_10) rfl (XS.isub X0.here hx rfl (hb hby d5_12) rfl k)))) ?_
      obtain ⟨_, _, ⟨T2, L2, k2, n2⟩, -, X2, ⟨Lc2, hQ2, l2, y2, z2⟩, st2⟩ := Jvm.LawKit.callS X0 hx (y := (⟨"com/example/known_paths/knownpaths/item/CodePointOrderComparePinLaw", "sgn", "(I)I"⟩ : MethodName)) hown (mvT hZ (wq hw 21 rfl)) (mvT hZ (wq hw 22 rfl)) (mvT hZ (wq hw 2 rfl)) (mvT hZ (wq hw 23 rfl)) (by decide) (backOf (W := 0) (rm_sgn l Z a0 hw [] (q0 - q4) h0 n0 Z0) hZ (wq hw 23 rfl) (wq hw 2 rfl) (by decide) (by decide)) (g := (mkF m 13 #[.val (.int q0), .val (.int q1), .val (.int q2), .val (.int q3), .val (.int q4), .val (.int q5), .val (.int q6), .val (.int q7)] [(.int (q0 - q4))])) rfl (by rw [hml]; rfl) (argsL := [(.int (q0 - q4))]) (rest := []) (lenOf pd__28I_29I rfl) rfl (by show 2 * 0 + _ ≤ _; exact Nat.le_of_eq rfl) (hb hby d5_13) (fun _ _ => ⟨rfl, e0, (by decide : 0 + 0 ≤ _), (by decide : 0 + 0 ≤ _)⟩)
      dsimp only [Pt.U, Pt.locs, Pt.cells, Pt.slots] at X2 l2 y2 z2 st2 hQ2
      subst l2 y2 z2
      obtain ⟨rfl, N2q, HQ2⟩ := hQ2
      have N2 := Fr.app N0 N2q
      refine Goes.pre (U' := T2.setTop (mkF m 16 #[.val (.int q0), .val (.int q1), .val (.int q2), .val (.int q3), .val (.int q4), .val (.int q5), .val (.int q6), .val (.int q7)] [(.int (own_sgn (q0 - q4)))])) (fun t k => st2 t k) ?_
      refine Goes.ret X2 (v := (some (.int (own_sgn (q0 - q4))))) (fun h => by rw [hret] at h; cases h) hlk (by decide) (by decide) HQ2 (fun fs hr => retI X2 hx hret (hb hby d5_16) hr) ?_
      exact ⟨congrArg (fun z => some (Value.int z)) (show (own_sgn (q0 - q4)) = own_ref q0 q1 q2 q3 q4 q5 q6 q7 from (show own_ref q0 q1 q2 q3 q4 q5 q6 q7 = (own_sgn (q0 - q4)) from by unfold own_ref; rw [if_neg hc1, if_pos hc6]).symm), N2, rfl⟩
    ·
      refine Goes.pre (U' := s₁.setTop (mkF m 20 #[.val (.int q0), .val (.int q1), .val (.int q2), .val (.int q3), .val (.int q4), .val (.int q5), .val (.int q6), .val (.int q7)] [(.int q5), (.int q1)])) (fun t k => XS.ifYes X0.here hx rfl (pc0 := 6) (pc' := 17) rfl (hb hby d5_6) rfl ((if0 _ _).trans (feq hc6).2) (by decide) (by decide) (XS.iloadN X0.here hx rfl (hb hby d5_17) rfl (XS.iload X0.here hx rfl (hb hby d5_18) rfl k))) ?_
      by_cases hc20 : q1 = q5
      ·
        refine Goes.pre (U' := s₁.setTop (mkF m 39 #[.val (.int q0), .val (.int q1), .val (.int q2), .val (.int q3), .val (.int q4), .val (.int q5), .val (.int q6), .val (.int q7)] [(.int (1 : Int32)), (.int q0)])) (fun t k => XS.icmpYes X0.here hx rfl (pc0 := 20) (pc' := 37) rfl (hb hby d5_20) rfl (teq hc20).1 (by decide) (by decide) (XS.iloadN X0.here hx rfl (hb hby d5_37) rfl (XS.iconst X0.here hx rfl (hb hby d5_38) k))) ?_
        by_cases hc39 : q0 = (1 : Int32)
        ·
          refine Goes.pre (U' := s₁.setTop (mkF m 52 #[.val (.int q0), .val (.int q1), .val (.int q2), .val (.int q3), .val (.int q4), .val (.int q5), .val (.int q6), .val (.int q7)] [(.int (q0 - q4))])) (fun t k => XS.icmpYes X0.here hx rfl (pc0 := 39) (pc' := 48) rfl (hb hby d5_39) rfl (teq hc39).1 (by decide) (by decide) (XS.iloadN X0.here hx rfl (hb hby d5_48) rfl (XS.iload X0.here hx rfl (hb hby d5_49) rfl (XS.isub X0.here hx rfl (hb hby d5_51) rfl k)))) ?_
          obtain ⟨_, _, ⟨T3, L3, k3, n3⟩, -, X3, ⟨Lc3, hQ3, l3, y3, z3⟩, st3⟩ := Jvm.LawKit.callS X0 hx (y := (⟨"com/example/known_paths/knownpaths/item/CodePointOrderComparePinLaw", "sgn", "(I)I"⟩ : MethodName)) hown (mvT hZ (wq hw 21 rfl)) (mvT hZ (wq hw 22 rfl)) (mvT hZ (wq hw 2 rfl)) (mvT hZ (wq hw 23 rfl)) (by decide) (backOf (W := 0) (rm_sgn l Z a0 hw [] (q0 - q4) h0 n0 Z0) hZ (wq hw 23 rfl) (wq hw 2 rfl) (by decide) (by decide)) (g := (mkF m 52 #[.val (.int q0), .val (.int q1), .val (.int q2), .val (.int q3), .val (.int q4), .val (.int q5), .val (.int q6), .val (.int q7)] [(.int (q0 - q4))])) rfl (by rw [hml]; rfl) (argsL := [(.int (q0 - q4))]) (rest := []) (lenOf pd__28I_29I rfl) rfl (by show 2 * 0 + _ ≤ _; exact Nat.le_of_eq rfl) (hb hby d5_52) (fun _ _ => ⟨rfl, e0, (by decide : 0 + 0 ≤ _), (by decide : 0 + 0 ≤ _)⟩)
          dsimp only [Pt.U, Pt.locs, Pt.cells, Pt.slots] at X3 l3 y3 z3 st3 hQ3
          subst l3 y3 z3
          obtain ⟨rfl, N3q, HQ3⟩ := hQ3
          have N3 := Fr.app N0 N3q
          refine Goes.pre (U' := T3.setTop (mkF m 55 #[.val (.int q0), .val (.int q1), .val (.int q2), .val (.int q3), .val (.int q4), .val (.int q5), .val (.int q6), .val (.int q7)] [(.int (own_sgn (q0 - q4)))])) (fun t k => st3 t k) ?_
          refine Goes.ret X3 (v := (some (.int (own_sgn (q0 - q4))))) (fun h => by rw [hret] at h; cases h) hlk (by decide) (by decide) HQ3 (fun fs hr => retI X3 hx hret (hb hby d5_55) hr) ?_
          exact ⟨congrArg (fun z => some (Value.int z)) (show (own_sgn (q0 - q4)) = own_ref q0 q1 q2 q3 q4 q5 q6 q7 from (show own_ref q0 q1 q2 q3 q4 q5 q6 q7 = (own_sgn (q0 - q4)) from by unfold own_ref; rw [if_neg hc1, if_neg hc6, if_pos hc20, if_pos hc39]).symm), N3, rfl⟩
        ·
          refine Goes.pre (U' := s₁.setTop (mkF m 45 #[.val (.int q0), .val (.int q1), .val (.int q2), .val (.int q3), .val (.int q4), .val (.int q5), .val (.int q6), .val (.int q7)] [(.int (1 : Int32)), (.int q4)])) (fun t k => XS.icmpNo X0.here hx rfl (hb hby d5_39) rfl (feq hc39).1 (XS.iload X0.here hx rfl (hb hby d5_42) rfl (XS.iconst X0.here hx rfl (hb hby d5_44) k))) ?_
          by_cases hc45 : q4 = (1 : Int32)
          ·
            refine Goes.pre (U' := s₁.setTop (mkF m 52 #[.val (.int q0), .val (.int q1), .val (.int q2), .val (.int q3), .val (.int q4), .val (.int q5), .val (.int q6), .val (.int q7)] [(.int (q0 - q4))])) (fun t k => XS.icmpNo X0.here hx rfl (hb hby d5_45) rfl (teq hc45).2 (XS.iloadN X0.here hx rfl (hb hby d5_48) rfl (XS.iload X0.here hx rfl (hb hby d5_49) rfl (XS.isub X0.here hx rfl (hb hby d5_51) rfl k)))) ?_
            obtain ⟨_, _, ⟨T4, L4, k4, n4⟩, -, X4, ⟨Lc4, hQ4, l4, y4, z4⟩, st4⟩ := Jvm.LawKit.callS X0 hx (y := (⟨"com/example/known_paths/knownpaths/item/CodePointOrderComparePinLaw", "sgn", "(I)I"⟩ : MethodName)) hown (mvT hZ (wq hw 21 rfl)) (mvT hZ (wq hw 22 rfl)) (mvT hZ (wq hw 2 rfl)) (mvT hZ (wq hw 23 rfl)) (by decide) (backOf (W := 0) (rm_sgn l Z a0 hw [] (q0 - q4) h0 n0 Z0) hZ (wq hw 23 rfl) (wq hw 2 rfl) (by decide) (by decide)) (g := (mkF m 52 #[.val (.int q0), .val (.int q1), .val (.int q2), .val (.int q3), .val (.int q4), .val (.int q5), .val (.int q6), .val (.int q7)] [(.int (q0 - q4))])) rfl (by rw [hml]; rfl) (argsL := [(.int (q0 - q4))]) (rest := []) (lenOf pd__28I_29I rfl) rfl (by show 2 * 0 + _ ≤ _; exact Nat.le_of_eq rfl) (hb hby d5_52) (fun _ _ => ⟨rfl, e0, (by decide : 0 + 0 ≤ _), (by decide : 0 + 0 ≤ _)⟩)
            dsimp only [Pt.U, Pt.locs, Pt.cells, Pt.slots] at X4 l4 y4 z4 st4 hQ4
            subst l4 y4 z4
            obtain ⟨rfl, N4q, HQ4⟩ := hQ4
            have N4 := Fr.app N0 N4q
            refine Goes.pre (U' := T4.setTop (mkF m 55 #[.val (.int q0), .val (.int q1), .val (.int q2), .val (.int q3), .val (.int q4), .val (.int q5), .val (.int q6), .val (.int q7)] [(.int (own_sgn (q0 - q4)))])) (fun t k => st4 t k) ?_
            refine Goes.ret X4 (v := (some (.int (own_sgn (q0 - q4))))) (fun h => by rw [hret] at h; cases h) hlk (by decide) (by decide) HQ4 (fun fs hr => retI X4 hx hret (hb hby d5_55) hr) ?_
            exact ⟨congrArg (fun z => some (Value.int z)) (show (own_sgn (q0 - q4)) = own_ref q0 q1 q2 q3 q4 q5 q6 q7 from (show own_ref q0 q1 q2 q3 q4 q5 q6 q7 = (own_sgn (q0 - q4)) from by unfold own_ref; rw [if_neg hc1, if_neg hc6, if_pos hc20, if_neg hc39, if_pos hc45]).symm), N4, rfl⟩
          ·
            refine Goes.pre (U' := s₁.setTop (mkF m 59 #[.val (.int q0), .val (.int q1), .val (.int q2), .val (.int q3), .val (.int q4), .val (.int q5), .val (.int q6), .val (.int q7)] [(.int q6), (.int q2)])) (fun t k => XS.icmpYes X0.here hx rfl (pc0 := 45) (pc' := 56) rfl (hb hby d5_45) rfl (feq hc45).2 (by decide) (by decide) (XS.iloadN X0.here hx rfl (hb hby d5_56) rfl (XS.iload X0.here hx rfl (hb hby d5_57) rfl k))) ?_
            by_cases hc59 : q2 = q6
            ·
              refine Goes.pre (U' := s₁.setTop (mkF m 78 #[.val (.int q0), .val (.int q1), .val (.int q2), .val (.int q3), .val (.int q4), .val (.int q5), .val (.int q6), .val (.int q7)] [(.int (2 : Int32)), (.int q0)])) (fun t k => XS.icmpYes X0.here hx rfl (pc0 := 59) (pc' := 76) rfl (hb hby d5_59) rfl (teq hc59).1 (by decide) (by decide) (XS.iloadN X0.here hx rfl (hb hby d5_76) rfl (XS.iconst X0.here hx rfl (hb hby d5_77) k))) ?_
              by_cases hc78 : q0 = (2 : Int32)
              ·
                refine Goes.pre (U' := s₁.setTop (mkF m 91 #[.val (.int q0), .val (.int q1), .val (.int q2), .val (.int q3), .val (.int q4), .val (.int q5), .val (.int q6), .val (.int q7)] [(.int (q0 - q4))])) (fun t k => XS.icmpYes X0.here hx rfl (pc0 := 78) (pc' := 87) rfl (hb hby d5_78) rfl (teq hc78).1 (by decide) (by decide) (XS.iloadN X0.here hx rfl (hb hby d5_87) rfl (XS.iload X0.here hx rfl (hb hby d5_88) rfl (XS.isub X0.here hx rfl (hb hby d5_90) rfl k)))) ?_
                obtain ⟨_, _, ⟨T5, L5, k5, n5⟩, -, X5, ⟨Lc5, hQ5, l5, y5, z5⟩, st5⟩ := Jvm.LawKit.callS X0 hx (y := (⟨"com/example/known_paths/knownpaths/item/CodePointOrderComparePinLaw", "sgn", "(I)I"⟩ : MethodName)) hown (mvT hZ (wq hw 21 rfl)) (mvT hZ (wq hw 22 rfl)) (mvT hZ (wq hw 2 rfl)) (mvT hZ (wq hw 23 rfl)) (by decide) (backOf (W := 0) (rm_sgn l Z a0 hw [] (q0 - q4) h0 n0 Z0) hZ (wq hw 23 rfl) (wq hw 2 rfl) (by decide) (by decide)) (g := (mkF m 91 #[.val (.int q0), .val (.int q1), .val (.int q2), .val (.int q3), .val (.int q4), .val (.int q5), .val (.int q6), .val (.int q7)] [(.int (q0 - q4))])) rfl (by rw [hml]; rfl) (argsL := [(.int (q0 - q4))]) (rest := []) (lenOf pd__28I_29I rfl) rfl (by show 2 * 0 + _ ≤ _; exact Nat.le_of_eq rfl) (hb hby d5_91) (fun _ _ => ⟨rfl, e0, (by decide : 0 + 0 ≤ _), (by decide : 0 + 0 ≤ _)⟩)
                dsimp only [Pt.U, Pt.locs, Pt.cells, Pt.slots] at X5 l5 y5 z5 st5 hQ5
                subst l5 y5 z5
                obtain ⟨rfl, N5q, HQ5⟩ := hQ5
                have N5 := Fr.app N0 N5q
                refine Goes.pre (U' := T5.setTop (mkF m 94 #[.val (.int q0), .val (.int q1), .val (.int q2), .val (.int q3), .val (.int q4), .val (.int q5), .val (.int q6), .val (.int q7)] [(.int (own_sgn (q0 - q4)))])) (fun t k => st5 t k) ?_
                refine Goes.ret X5 (v := (some (.int (own_sgn (q0 - q4))))) (fun h => by rw [hret] at h; cases h) hlk (by decide) (by decide) HQ5 (fun fs hr => retI X5 hx hret (hb hby d5_94) hr) ?_
                exact ⟨congrArg (fun z => some (Value.int z)) (show (own_sgn (q0 - q4)) = own_ref q0 q1 q2 q3 q4 q5 q6 q7 from (show own_ref q0 q1 q2 q3 q4 q5 q6 q7 = (own_sgn (q0 - q4)) from by unfold own_ref; rw [if_neg hc1, if_neg hc6, if_pos hc20, if_neg hc39, if_neg hc45, if_pos hc59, if_pos hc78]).symm), N5, rfl⟩
              ·
                refine Goes.pre (U' := s₁.setTop (mkF m 84 #[.val (.int q0), .val (.int q1), .val (.int q2), .val (.int q3), .val (.int q4), .val (.int q5), .val (.int q6), .val (.int q7)] [(.int (2 : Int32)), (.int q4)])) (fun t k => XS.icmpNo X0.here hx rfl (hb hby d5_78) rfl (feq hc78).1 (XS.iload X0.here hx rfl (hb hby d5_81) rfl (XS.iconst X0.here hx rfl (hb hby d5_83) k))) ?_
                by_cases hc84 : q4 = (2 : Int32)
                ·
                  refine Goes.pre (U' := s₁.setTop (mkF m 91 #[.val (.int q0), .val (.int q1), .val (.int q2), .val (.int q3), .val (.int q4), .val (.int q5), .val (.int q6), .val (.int q7)] [(.int (q0 - q4))])) (fun t k => XS.icmpNo X0.here hx rfl (hb hby d5_84) rfl (teq hc84).2 (XS.iloadN X0.here hx rfl (hb hby d5_87) rfl (XS.iload X0.here hx rfl (hb hby d5_88) rfl (XS.isub X0.here hx rfl (hb hby d5_90) rfl k)))) ?_
                  obtain ⟨_, _, ⟨T6, L6, k6, n6⟩, -, X6, ⟨Lc6, hQ6, l6, y6, z6⟩, st6⟩ := Jvm.LawKit.callS X0 hx (y := (⟨"com/example/known_paths/knownpaths/item/CodePointOrderComparePinLaw", "sgn", "(I)I"⟩ : MethodName)) hown (mvT hZ (wq hw 21 rfl)) (mvT hZ (wq hw 22 rfl)) (mvT hZ (wq hw 2 rfl)) (mvT hZ (wq hw 23 rfl)) (by decide) (backOf (W := 0) (rm_sgn l Z a0 hw [] (q0 - q4) h0 n0 Z0) hZ (wq hw 23 rfl) (wq hw 2 rfl) (by decide) (by decide)) (g := (mkF m 91 #[.val (.int q0), .val (.int q1), .val (.int q2), .val (.int q3), .val (.int q4), .val (.int q5), .val (.int q6), .val (.int q7)] [(.int (q0 - q4))])) rfl (by rw [hml]; rfl) (argsL := [(.int (q0 - q4))]) (rest := []) (lenOf pd__28I_29I rfl) rfl (by show 2 * 0 + _ ≤ _; exact Nat.le_of_eq rfl) (hb hby d5_91) (fun _ _ => ⟨rfl, e0, (by decide : 0 + 0 ≤ _), (by decide : 0 + 0 ≤ _)⟩)
                  dsimp only [Pt.U, Pt.locs, Pt.cells, Pt.slots] at X6 l6 y6 z6 st6 hQ6
                  subst l6 y6 z6
                  obtain ⟨rfl, N6q, HQ6⟩ := hQ6
                  have N6 := Fr.app N0 N6q
                  refine Goes.pre (U' := T6.setTop (mkF m 94 #[.val (.int q0), .val (.int q1), .val (.int q2), .val (.int q3), .val (.int q4), .val (.int q5), .val (.int q6), .val (.int q7)] [(.int (own_sgn (q0 - q4)))])) (fun t k => st6 t k) ?_
                  refine Goes.ret X6 (v := (some (.int (own_sgn (q0 - q4))))) (fun h => by rw [hret] at h; cases h) hlk (by decide) (by decide) HQ6 (fun fs hr => retI X6 hx hret (hb hby d5_94) hr) ?_
                  exact ⟨congrArg (fun z => some (Value.int z)) (show (own_sgn (q0 - q4)) = own_ref q0 q1 q2 q3 q4 q5 q6 q7 from (show own_ref q0 q1 q2 q3 q4 q5 q6 q7 = (own_sgn (q0 - q4)) from by unfold own_ref; rw [if_neg hc1, if_neg hc6, if_pos hc20, if_neg hc39, if_neg hc45, if_pos hc59, if_neg hc78, if_pos hc84]).symm), N6, rfl⟩
                ·
                  refine Goes.pre (U' := s₁.setTop (mkF m 98 #[.val (.int q0), .val (.int q1), .val (.int q2), .val (.int q3), .val (.int q4), .val (.int q5), .val (.int q6), .val (.int q7)] [(.int q7), (.int q3)])) (fun t k => XS.icmpYes X0.here hx rfl (pc0 := 84) (pc' := 95) rfl (hb hby d5_84) rfl (feq hc84).2 (by decide) (by decide) (XS.iloadN X0.here hx rfl (hb hby d5_95) rfl (XS.iload X0.here hx rfl (hb hby d5_96) rfl k))) ?_
                  by_cases hc98 : q3 = q7
                  ·
                    refine Goes.pre (U' := s₁.setTop (mkF m 119 #[.val (.int q0), .val (.int q1), .val (.int q2), .val (.int q3), .val (.int q4), .val (.int q5), .val (.int q6), .val (.int q7)] [(.int (q0 - q4))])) (fun t k => XS.icmpYes X0.here hx rfl (pc0 := 98) (pc' := 115) rfl (hb hby d5_98) rfl (teq hc98).1 (by decide) (by decide) (XS.iloadN X0.here hx rfl (hb hby d5_115) rfl (XS.iload X0.here hx rfl (hb hby d5_116) rfl (XS.isub X0.here hx rfl (hb hby d5_118) rfl k)))) ?_
                    obtain ⟨_, _, ⟨T7, L7, k7, n7⟩, -, X7, ⟨Lc7, hQ7, l7, y7, z7⟩, st7⟩ := Jvm.LawKit.callS X0 hx (y := (⟨"com/example/known_paths/knownpaths/item/CodePointOrderComparePinLaw", "sgn", "(I)I"⟩ : MethodName)) hown (mvT hZ (wq hw 21 rfl)) (mvT hZ (wq hw 22 rfl)) (mvT hZ (wq hw 2 rfl)) (mvT hZ (wq hw 23 rfl)) (by decide) (backOf (W := 0) (rm_sgn l Z a0 hw [] (q0 - q4) h0 n0 Z0) hZ (wq hw 23 rfl) (wq hw 2 rfl) (by decide) (by decide)) (g := (mkF m 119 #[.val (.int q0), .val (.int q1), .val (.int q2), .val (.int q3), .val (.int q4), .val (.int q5), .val (.int q6), .val (.int q7)] [(.int (q0 - q4))])) rfl (by rw [hml]; rfl) (argsL := [(.int (q0 - q4))]) (rest := []) (lenOf pd__28I_29I rfl) rfl (by show 2 * 0 + _ ≤ _; exact Nat.le_of_eq rfl) (hb hby d5_119) (fun _ _ => ⟨rfl, e0, (by decide : 0 + 0 ≤ _), (by decide : 0 + 0 ≤ _)⟩)
                    dsimp only [Pt.U, Pt.locs, Pt.cells, Pt.slots] at X7 l7 y7 z7 st7 hQ7
                    subst l7 y7 z7
                    obtain ⟨rfl, N7q, HQ7⟩ := hQ7
                    have N7 := Fr.app N0 N7q
                    refine Goes.pre (U' := T7.setTop (mkF m 122 #[.val (.int q0), .val (.int q1), .val (.int q2), .val (.int q3), .val (.int q4), .val (.int q5), .val (.int q6), .val (.int q7)] [(.int (own_sgn (q0 - q4)))])) (fun t k => st7 t k) ?_
                    refine Goes.ret X7 (v := (some (.int (own_sgn (q0 - q4))))) (fun h => by rw [hret] at h; cases h) hlk (by decide) (by decide) HQ7 (fun fs hr => retI X7 hx hret (hb hby d5_122) hr) ?_
                    exact ⟨congrArg (fun z => some (Value.int z)) (show (own_sgn (q0 - q4)) = own_ref q0 q1 q2 q3 q4 q5 q6 q7 from (show own_ref q0 q1 q2 q3 q4 q5 q6 q7 = (own_sgn (q0 - q4)) from by unfold own_ref; rw [if_neg hc1, if_neg hc6, if_pos hc20, if_neg hc39, if_neg hc45, if_pos hc59, if_neg hc78, if_neg hc84, if_pos hc98]).symm), N7, rfl⟩
                  ·
                    refine Goes.pre (U' := s₁.setTop (mkF m 102 #[.val (.int q0), .val (.int q1), .val (.int q2), .val (.int q3), .val (.int q4), .val (.int q5), .val (.int q6), .val (.int q7)] [(.int q3)])) (fun t k => XS.icmpNo X0.here hx rfl (hb hby d5_98) rfl (feq hc98).1 (XS.iloadN X0.here hx rfl (hb hby d5_101) rfl k)) ?_
                    obtain ⟨_, _, ⟨T8, L8, k8, n8⟩, -, X8, ⟨Lc8, hQ8, l8, y8, z8⟩, st8⟩ := Jvm.LawKit.callS X0 hx (y := (⟨"com/example/known_paths/knownpaths/item/CodePointOrderComparePinLaw", "key", "(C)I"⟩ : MethodName)) hown (mvT hZ (wq hw 101 rfl)) (mvT hZ (wq hw 102 rfl)) (mvT hZ (wq hw 2 rfl)) (mvT hZ (wq hw 103 rfl)) (by decide) (backOf (W := 0) (rm_key l Z a0 hw [] q3 h0 n0 Z0) hZ (wq hw 103 rfl) (wq hw 2 rfl) (by decide) (by decide)) (g := (mkF m 102 #[.val (.int q0), .val (.int q1), .val (.int q2), .val (.int q3), .val (.int q4), .val (.int q5), .val (.int q6), .val (.int q7)] [(.int q3)])) rfl (by rw [hml]; rfl) (argsL := [(.int q3)]) (rest := []) (lenOf pd__28C_29I rfl) rfl (by show 2 * 0 + _ ≤ _; exact Nat.le_of_eq rfl) (hb hby d5_102) (fun _ _ => ⟨rfl, e0, (by decide : 0 + 0 ≤ _), (by decide : 0 + 0 ≤ _)⟩)
                    dsimp only [Pt.U, Pt.locs, Pt.cells, Pt.slots] at X8 l8 y8 z8 st8 hQ8
                    subst l8 y8 z8
                    obtain ⟨rfl, N8q, HQ8⟩ := hQ8
                    have N8 := Fr.app N0 N8q
                    refine Goes.pre (U' := T8.setTop (mkF m 107 #[.val (.int q0), .val (.int q1), .val (.int q2), .val (.int q3), .val (.int q4), .val (.int q5), .val (.int q6), .val (.int q7)] [(.int q7), (.int (own_key q3))])) (fun t k => st8 t (XS.iload X8.here hx rfl (hb hby d5_105) rfl k)) ?_
                    obtain ⟨_, _, ⟨T9, L9, k9, n9⟩, -, X9, ⟨Lc9, hQ9, l9, y9, z9⟩, st9⟩ := Jvm.LawKit.callS X8 hx (y := (⟨"com/example/known_paths/knownpaths/item/CodePointOrderComparePinLaw", "key", "(C)I"⟩ : MethodName)) hown (mvT hZ (wq hw 101 rfl)) (mvT hZ (wq hw 102 rfl)) (mvT hZ (wq hw 2 rfl)) (mvT hZ (wq hw 103 rfl)) (by decide) (backOf (W := 1) (rm_key l Z a0 hw [] q7 h0 n0 Z0) hZ (wq hw 103 rfl) (wq hw 2 rfl) (by decide) (by decide)) (g := (mkF m 107 #[.val (.int q0), .val (.int q1), .val (.int q2), .val (.int q3), .val (.int q4), .val (.int q5), .val (.int q6), .val (.int q7)] [(.int q7), (.int (own_key q3))])) rfl (by rw [hml]; rfl) (argsL := [(.int q7)]) (rest := [(.int (own_key q3))]) (lenOf pd__28C_29I rfl) rfl (by show 2 * 0 + _ ≤ _; exact Nat.le_of_eq rfl) (hb hby d5_107) (fun _ _ => ⟨rfl, HQ8, (by decide : 0 + 0 ≤ _), (by decide : 0 + 0 ≤ _)⟩)
                    dsimp only [Pt.U, Pt.locs, Pt.cells, Pt.slots] at X9 l9 y9 z9 st9 hQ9
                    subst l9 y9 z9
                    obtain ⟨rfl, N9q, HQ9⟩ := hQ9
                    have N9 := Fr.app N8 N9q
                    refine Goes.pre (U' := T9.setTop (mkF m 111 #[.val (.int q0), .val (.int q1), .val (.int q2), .val (.int q3), .val (.int q4), .val (.int q5), .val (.int q6), .val (.int q7)] [(.int ((own_key q3) - (own_key q7)))])) (fun t k => st9 t (XS.isub X9.here hx rfl (hb hby d5_110) rfl k)) ?_
                    obtain ⟨_, _, ⟨T10, L10, k10, n10⟩, -, X10, ⟨Lc10, hQ10, l10, y10, z10⟩, st10⟩ := Jvm.LawKit.callS X9 hx (y := (⟨"com/example/known_paths/knownpaths/item/CodePointOrderComparePinLaw", "sgn", "(I)I"⟩ : MethodName)) hown (mvT hZ (wq hw 21 rfl)) (mvT hZ (wq hw 22 rfl)) (mvT hZ (wq hw 2 rfl)) (mvT hZ (wq hw 23 rfl)) (by decide) (backOf (W := 0) (rm_sgn l Z a0 hw [] ((own_key q3) - (own_key q7)) h0 n0 Z0) hZ (wq hw 23 rfl) (wq hw 2 rfl) (by decide) (by decide)) (g := (mkF m 111 #[.val (.int q0), .val (.int q1), .val (.int q2), .val (.int q3), .val (.int q4), .val (.int q5), .val (.int q6), .val (.int q7)] [(.int ((own_key q3) - (own_key q7)))])) rfl (by rw [hml]; rfl) (argsL := [(.int ((own_key q3) - (own_key q7)))]) (rest := []) (lenOf pd__28I_29I rfl) rfl (by show 2 * 0 + _ ≤ _; exact Nat.le_of_eq rfl) (hb hby d5_111) (fun _ _ => ⟨rfl, HQ9, (by decide : 0 + 0 ≤ _), (by decide : 0 + 0 ≤ _)⟩)
                    dsimp only [Pt.U, Pt.locs, Pt.cells, Pt.slots] at X10 l10 y10 z10 st10 hQ10
                    subst l10 y10 z10
                    obtain ⟨rfl, N10q, HQ10⟩ := hQ10
                    have N10 := Fr.app N9 N10q
                    refine Goes.pre (U' := T10.setTop (mkF m 114 #[.val (.int q0), .val (.int q1), .val (.int q2), .val (.int q3), .val (.int q4), .val (.int q5), .val (.int q6), .val (.int q7)] [(.int (own_sgn ((own_key q3) - (own_key q7))))])) (fun t k => st10 t k) ?_
                    refine Goes.ret X10 (v := (some (.int (own_sgn ((own_key q3) - (own_key q7)))))) (fun h => by rw [hret] at h; cases h) hlk (by decide) (by decide) HQ10 (fun fs hr => retI X10 hx hret (hb hby d5_114) hr) ?_
                    exact ⟨congrArg (fun z => some (Value.int z)) (show (own_sgn ((own_key q3) - (own_key q7))) = own_ref q0 q1 q2 q3 q4 q5 q6 q7 from (show own_ref q0 q1 q2 q3 q4 q5 q6 q7 = (own_sgn ((own_key q3) - (own_key q7))) from by unfold own_ref; rw [if_neg hc1, if_neg hc6, if_pos hc20, if_neg hc39, if_neg hc45, if_pos hc59, if_neg hc78, if_neg hc84, if_neg hc98]).symm), N10, rfl⟩
            ·
              refine Goes.pre (U' := s₁.setTop (mkF m 63 #[.val (.int q0), .val (.int q1), .val (.int q2), .val (.int q3), .val (.int q4), .val (.int q5), .val (.int q6), .val (.int q7)] [(.int q2)])) (fun t k => XS.icmpNo X0.here hx rfl (hb hby d5_59) rfl (feq hc59).1 (XS.iloadN X0.here hx rfl (hb hby d5_62) rfl k)) ?_
              obtain ⟨_, _, ⟨T11, L11, k11, n11⟩, -, X11, ⟨Lc11, hQ11, l11, y11, z11⟩, st11⟩ := Jvm.LawKit.callS X0 hx (y := (⟨"com/example/known_paths/knownpaths/item/CodePointOrderComparePinLaw", "key", "(C)I"⟩ : MethodName)) hown (mvT hZ (wq hw 101 rfl)) (mvT hZ (wq hw 102 rfl)) (mvT hZ (wq hw 2 rfl)) (mvT hZ (wq hw 103 rfl)) (by decide) (backOf (W := 0) (rm_key l Z a0 hw [] q2 h0 n0 Z0) hZ (wq hw 103 rfl) (wq hw 2 rfl) (by decide) (by decide)) (g := (mkF m 63 #[.val (.int q0), .val (.int q1), .val (.int q2), .val (.int q3), .val (.int q4), .val (.int q5), .val (.int q6), .val (.int q7)] [(.int q2)])) rfl (by rw [hml]; rfl) (argsL := [(.int q2)]) (rest := []) (lenOf pd__28C_29I rfl) rfl (by show 2 * 0 + _ ≤ _; exact Nat.le_of_eq rfl) (hb hby d5_63) (fun _ _ => ⟨rfl, e0, (by decide : 0 + 0 ≤ _), (by decide : 0 + 0 ≤ _)⟩)
              dsimp only [Pt.U, Pt.locs, Pt.cells, Pt.slots] at X11 l11 y11 z11 st11 hQ11
              subst l11 y11 z11
              obtain ⟨rfl, N11q, HQ11⟩ := hQ11
              have N11 := Fr.app N0 N11q
              refine Goes.pre (U' := T11.setTop (mkF m 68 #[.val (.int q0), .val (.int q1), .val (.int q2), .val (.int q3), .val (.int q4), .val (.int q5), .val (.int q6), .val (.int q7)] [(.int q6), (.int (own_key q2))])) (fun t k => st11 t (XS.iload X11.here hx rfl (hb hby d5_66) rfl k)) ?_
              obtain ⟨_, _, ⟨T12, L12, k12, n12⟩, -, X12, ⟨Lc12, hQ12, l12, y12, z12⟩, st12⟩ := Jvm.LawKit.callS X11 hx (y := (⟨"com/example/known_paths/knownpaths/item/CodePointOrderComparePinLaw", "key", "(C)I"⟩ : MethodName)) hown (mvT hZ (wq hw 101 rfl)) (mvT hZ (wq hw 102 rfl)) (mvT hZ (wq hw 2 rfl)) (mvT hZ (wq hw 103 rfl)) (by decide) (backOf (W := 1) (rm_key l Z a0 hw [] q6 h0 n0 Z0) hZ (wq hw 103 rfl) (wq hw 2 rfl) (by decide) (by decide)) (g := (mkF m 68 #[.val (.int q0), .val (.int q1), .val (.int q2), .val (.int q3), .val (.int q4), .val (.int q5), .val (.int q6), .val (.int q7)] [(.int q6), (.int (own_key q2))])) rfl (by rw [hml]; rfl) (argsL := [(.int q6)]) (rest := [(.int (own_key q2))]) (lenOf pd__28C_29I rfl) rfl (by show 2 * 0 + _ ≤ _; exact Nat.le_of_eq rfl) (hb hby d5_68) (fun _ _ => ⟨rfl, HQ11, (by decide : 0 + 0 ≤ _), (by decide : 0 + 0 ≤ _)⟩)
              dsimp only [Pt.U, Pt.locs, Pt.cells, Pt.slots] at X12 l12 y12 z12 st12 hQ12
              subst l12 y12 z12
              obtain ⟨rfl, N12q, HQ12⟩ := hQ12
              have N12 := Fr.app N11 N12q
              refine Goes.pre (U' := T12.setTop (mkF m 72 #[.val (.int q0), .val (.int q1), .val (.int q2), .val (.int q3), .val (.int q4), .val (.int q5), .val (.int q6), .val (.int q7)] [(.int ((own_key q2) - (own_key q6)))])) (fun t k => st12 t (XS.isub X12.here hx rfl (hb hby d5_71) rfl k)) ?_
              obtain ⟨_, _, ⟨T13, L13, k13, n13⟩, -, X13, ⟨Lc13, hQ13, l13, y13, z13⟩, st13⟩ := Jvm.LawKit.callS X12 hx (y := (⟨"com/example/known_paths/knownpaths/item/CodePointOrderComparePinLaw", "sgn", "(I)I"⟩ : MethodName)) hown (mvT hZ (wq hw 21 rfl)) (mvT hZ (wq hw 22 rfl)) (mvT hZ (wq hw 2 rfl)) (mvT hZ (wq hw 23 rfl)) (by decide) (backOf (W := 0) (rm_sgn l Z a0 hw [] ((own_key q2) - (own_key q6)) h0 n0 Z0) hZ (wq hw 23 rfl) (wq hw 2 rfl) (by decide) (by decide)) (g := (mkF m 72 #[.val (.int q0), .val (.int q1), .val (.int q2), .val (.int q3), .val (.int q4), .val (.int q5), .val (.int q6), .val (.int q7)] [(.int ((own_key q2) - (own_key q6)))])) rfl (by rw [hml]; rfl) (argsL := [(.int ((own_key q2) - (own_key q6)))]) (rest := []) (lenOf pd__28I_29I rfl) rfl (by show 2 * 0 + _ ≤ _; exact Nat.le_of_eq rfl) (hb hby d5_72) (fun _ _ => ⟨rfl, HQ12, (by decide : 0 + 0 ≤ _), (by decide : 0 + 0 ≤ _)⟩)
              dsimp only [Pt.U, Pt.locs, Pt.cells, Pt.slots] at X13 l13 y13 z13 st13 hQ13
              subst l13 y13 z13
              obtain ⟨rfl, N13q, HQ13⟩ := hQ13
              have N13 := Fr.app N12 N13q
              refine Goes.pre (U' := T13.setTop (mkF m 75 #[.val (.int q0), .val (.int q1), .val (.int q2), .val (.int q3), .val (.int q4), .val (.int q5), .val (.int q6), .val (.int q7)] [(.int (own_sgn ((own_key q2) - (own_key q6))))])) (fun t k => st13 t k) ?_
              refine Goes.ret X13 (v := (some (.int (own_sgn ((own_key q2) - (own_key q6)))))) (fun h => by rw [hret] at h; cases h) hlk (by decide) (by decide) HQ13 (fun fs hr => retI X13 hx hret (hb hby d5_75) hr) ?_
              exact ⟨congrArg (fun z => some (Value.int z)) (show (own_sgn ((own_key q2) - (own_key q6))) = own_ref q0 q1 q2 q3 q4 q5 q6 q7 from (show own_ref q0 q1 q2 q3 q4 q5 q6 q7 = (own_sgn ((own_key q2) - (own_key q6))) from by unfold own_ref; rw [if_neg hc1, if_neg hc6, if_pos hc20, if_neg hc39, if_neg hc45, if_neg hc59]).symm), N13, rfl⟩
      ·
        refine Goes.pre (U' := s₁.setTop (mkF m 24 #[.val (.int q0), .val (.int q1), .val (.int q2), .val (.int q3), .val (.int q4), .val (.int q5), .val (.int q6), .val (.int q7)] [(.int q1)])) (fun t k => XS.icmpNo X0.here hx rfl (hb hby d5_20) rfl (feq hc20).1 (XS.iloadN X0.here hx rfl (hb hby d5_23) rfl k)) ?_
        obtain ⟨_, _, ⟨T14, L14, k14, n14⟩, -, X14, ⟨Lc14, hQ14, l14, y14, z14⟩, st14⟩ := Jvm.LawKit.callS X0 hx (y := (⟨"com/example/known_paths/knownpaths/item/CodePointOrderComparePinLaw", "key", "(C)I"⟩ : MethodName)) hown (mvT hZ (wq hw 101 rfl)) (mvT hZ (wq hw 102 rfl)) (mvT hZ (wq hw 2 rfl)) (mvT hZ (wq hw 103 rfl)) (by decide) (backOf (W := 0) (rm_key l Z a0 hw [] q1 h0 n0 Z0) hZ (wq hw 103 rfl) (wq hw 2 rfl) (by decide) (by decide)) (g := (mkF m 24 #[.val (.int q0), .val (.int q1), .val (.int q2), .val (.int q3), .val (.int q4), .val (.int q5), .val (.int q6), .val (.int q7)] [(.int q1)])) rfl (by rw [hml]; rfl) (argsL := [(.int q1)]) (rest := []) (lenOf pd__28C_29I rfl) rfl (by show 2 * 0 + _ ≤ _; exact Nat.le_of_eq rfl) (hb hby d5_24) (fun _ _ => ⟨rfl, e0, (by decide : 0 + 0 ≤ _), (by decide : 0 + 0 ≤ _)⟩)
        dsimp only [Pt.U, Pt.locs, Pt.cells, Pt.slots] at X14 l14 y14 z14 st14 hQ14
        subst l14 y14 z14
        obtain ⟨rfl, N14q, HQ14⟩ := hQ14
        have N14 := Fr.app N0 N14q
        refine Goes.pre (U' := T14.setTop (mkF m 29 #[.val (.int q0), .val (.int q1), .val (.int q2), .val (.int q3), .val (.int q4), .val (.int q5), .val (.int q6), .val (.int q7)] [(.int q5), (.int (own_key q1))])) (fun t k => st14 t (XS.iload X14.here hx rfl (hb hby d5_27) rfl k)) ?_
        obtain ⟨_, _, ⟨T15, L15, k15, n15⟩, -, X15, ⟨Lc15, hQ15, l15, y15, z15⟩, st15⟩ := Jvm.LawKit.callS X14 hx (y := (⟨"com/example/known_paths/knownpaths/item/CodePointOrderComparePinLaw", "key", "(C)I"⟩ : MethodName)) hown (mvT hZ (wq hw 101 rfl)) (mvT hZ (wq hw 102 rfl)) (mvT hZ (wq hw 2 rfl)) (mvT hZ (wq hw 103 rfl)) (by decide) (backOf (W := 1) (rm_key l Z a0 hw [] q5 h0 n0 Z0) hZ (wq hw 103 rfl) (wq hw 2 rfl) (by decide) (by decide)) (g := (mkF m 29 #[.val (.int q0), .val (.int q1), .val (.int q2), .val (.int q3), .val (.int q4), .val (.int q5), .val (.int q6), .val (.int q7)] [(.int q5), (.int (own_key q1))])) rfl (by rw [hml]; rfl) (argsL := [(.int q5)]) (rest := [(.int (own_key q1))]) (lenOf pd__28C_29I rfl) rfl (by show 2 * 0 + _ ≤ _; exact Nat.le_of_eq rfl) (hb hby d5_29) (fun _ _ => ⟨rfl, HQ14, (by decide : 0 + 0 ≤ _), (by decide : 0 + 0 ≤ _)⟩)
        dsimp only [Pt.U, Pt.locs, Pt.cells, Pt.slots] at X15 l15 y15 z15 st15 hQ15
        subst l15 y15 z15
        obtain ⟨rfl, N15q, HQ15⟩ := hQ15
        have N15 := Fr.app N14 N15q
        refine Goes.pre (U' := T15.setTop (mkF m 33 #[.val (.int q0), .val (.int q1), .val (.int q2), .val (.int q3), .val (.int q4), .val (.int q5), .val (.int q6), .val (.int q7)] [(.int ((own_key q1) - (own_key q5)))])) (fun t k => st15 t (XS.isub X15.here hx rfl (hb hby d5_32) rfl k)) ?_
        obtain ⟨_, _, ⟨T16, L16, k16, n16⟩, -, X16, ⟨Lc16, hQ16, l16, y16, z16⟩, st16⟩ := Jvm.LawKit.callS X15 hx (y := (⟨"com/example/known_paths/knownpaths/item/CodePointOrderComparePinLaw", "sgn", "(I)I"⟩ : MethodName)) hown (mvT hZ (wq hw 21 rfl)) (mvT hZ (wq hw 22 rfl)) (mvT hZ (wq hw 2 rfl)) (mvT hZ (wq hw 23 rfl)) (by decide) (backOf (W := 0) (rm_sgn l Z a0 hw [] ((own_key q1) - (own_key q5)) h0 n0 Z0) hZ (wq hw 23 rfl) (wq hw 2 rfl) (by decide) (by decide)) (g := (mkF m 33 #[.val (.int q0), .val (.int q1), .val (.int q2), .val (.int q3), .val (.int q4), .val (.int q5), .val (.int q6), .val (.int q7)] [(.int ((own_key q1) - (own_key q5)))])) rfl (by rw [hml]; rfl) (argsL := [(.int ((own_key q1) - (own_key q5)))]) (rest := []) (lenOf pd__28I_29I rfl) rfl (by show 2 * 0 + _ ≤ _; exact Nat.le_of_eq rfl) (hb hby d5_33) (fun _ _ => ⟨rfl, HQ15, (by decide : 0 + 0 ≤ _), (by decide : 0 + 0 ≤ _)⟩)
        dsimp only [Pt.U, Pt.locs, Pt.cells, Pt.slots] at X16 l16 y16 z16 st16 hQ16
        subst l16 y16 z16
        obtain ⟨rfl, N16q, HQ16⟩ := hQ16
        have N16 := Fr.app N15 N16q
        refine Goes.pre (U' := T16.setTop (mkF m 36 #[.val (.int q0), .val (.int q1), .val (.int q2), .val (.int q3), .val (.int q4), .val (.int q5), .val (.int q6), .val (.int q7)] [(.int (own_sgn ((own_key q1) - (own_key q5))))])) (fun t k => st16 t k) ?_
        refine Goes.ret X16 (v := (some (.int (own_sgn ((own_key q1) - (own_key q5)))))) (fun h => by rw [hret] at h; cases h) hlk (by decide) (by decide) HQ16 (fun fs hr => retI X16 hx hret (hb hby d5_36) hr) ?_
        exact ⟨congrArg (fun z => some (Value.int z)) (show (own_sgn ((own_key q1) - (own_key q5))) = own_ref q0 q1 q2 q3 q4 q5 q6 q7 from (show own_ref q0 q1 q2 q3 q4 q5 q6 q7 = (own_sgn ((own_key q1) - (own_key q5))) from by unfold own_ref; rw [if_neg hc1, if_neg hc6, if_neg hc20]).symm), N16, rfl⟩
def own_mk (n c0 c1 c2 : Int32) : List Int32 := if n = (0 : Int32) then [] else if n = (1 : Int32) then [c0] else if n = (2 : Int32) then [c0, c1] else [c0, c1, c2]
theorem own_mk_len (n c0 c1 c2 : Int32) : (own_mk n c0 c1 c2).length ≤ 3 := by
  unfold own_mk
  repeat' split
  all_goals simp
theorem ef_rm_mk (m : MethodId) (x0 : Int32) (x1 : Int32) (x2 : Int32) (x3 : Int32) : entryFrame m #[(.int x0), (.int x1), (.int x2), (.int x3)] 4 = mkF m 0 #[.val (.int x0), .val (.int x1), .val (.int x2), .val (.int x3)] [] := by first | (simp [entryFrame, mkF, argsToLocals, Value.category]; done) | rfl
abbrev M1 : MethodName := ⟨"com/example/known_paths/knownpaths/item/CodePointOrderComparePinLaw", "mk", "(ICCC)Ljava/lang/String;"⟩
theorem d1_0 : decode method_3_code 0 = .ok (.iload_n 0, 1) := by decide +kernel
theorem d1_1 : decode method_3_code 1 = .ok (.ifCond .ne 6, 3) := by decide +kernel
theorem d1_4 : decode method_3_code 4 = .ok (.ldc 27, 2) := by decide +kernel
theorem d1_6 : decode method_3_code 6 = .ok (.areturn, 1) := by decide +kernel
theorem d1_7 : decode method_3_code 7 = .ok (.iload_n 0, 1) := by decide +kernel
theorem d1_8 : decode method_3_code 8 = .ok (.iconst 1, 1) := by decide +kernel
theorem d1_9 : decode method_3_code 9 = .ok (.if_icmp .ne 18, 3) := by decide +kernel
theorem d1_12 : decode method_3_code 12 = .ok (.new 29, 3) := by decide +kernel
theorem d1_15 : decode method_3_code 15 = .ok (.dup, 1) := by decide +kernel
theorem d1_16 : decode method_3_code 16 = .ok (.iconst 1, 1) := by decide +kernel
theorem d1_17 : decode method_3_code 17 = .ok (.newarray .char, 2) := by decide +kernel
theorem d1_19 : decode method_3_code 19 = .ok (.dup, 1) := by decide +kernel
theorem d1_20 : decode method_3_code 20 = .ok (.iconst 0, 1) := by decide +kernel
theorem d1_21 : decode method_3_code 21 = .ok (.iload_n 1, 1) := by decide +kernel
theorem d1_22 : decode method_3_code 22 = .ok (.castore, 1) := by decide +kernel
theorem d1_23 : decode method_3_code 23 = .ok (.invokespecial 31, 3) := by decide +kernel
theorem pd__28_5bC_29V : parseMethodDescriptor "([C)V" = some ⟨[(.array .char)], none⟩ := by decide +kernel
theorem d1_26 : decode method_3_code 26 = .ok (.areturn, 1) := by decide +kernel
theorem d1_27 : decode method_3_code 27 = .ok (.iload_n 0, 1) := by decide +kernel
theorem d1_28 : decode method_3_code 28 = .ok (.iconst 2, 1) := by decide +kernel
theorem d1_29 : decode method_3_code 29 = .ok (.if_icmp .ne 22, 3) := by decide +kernel
theorem d1_32 : decode method_3_code 32 = .ok (.new 29, 3) := by decide +kernel
theorem d1_35 : decode method_3_code 35 = .ok (.dup, 1) := by decide +kernel
theorem d1_36 : decode method_3_code 36 = .ok (.iconst 2, 1) := by decide +kernel
theorem d1_37 : decode method_3_code 37 = .ok (.newarray .char, 2) := by decide +kernel
theorem d1_39 : decode method_3_code 39 = .ok (.dup, 1) := by decide +kernel
theorem d1_40 : decode method_3_code 40 = .ok (.iconst 0, 1) := by decide +kernel
theorem d1_41 : decode method_3_code 41 = .ok (.iload_n 1, 1) := by decide +kernel
theorem d1_42 : decode method_3_code 42 = .ok (.castore, 1) := by decide +kernel
theorem d1_43 : decode method_3_code 43 = .ok (.dup, 1) := by decide +kernel
theorem d1_44 : decode method_3_code 44 = .ok (.iconst 1, 1) := by decide +kernel
theorem d1_45 : decode method_3_code 45 = .ok (.iload_n 2, 1) := by decide +kernel
theorem d1_46 : decode method_3_code 46 = .ok (.castore, 1) := by decide +kernel
theorem d1_47 : decode method_3_code 47 = .ok (.invokespecial 31, 3) := by decide +kernel
theorem d1_50 : decode method_3_code 50 = .ok (.areturn, 1) := by decide +kernel
theorem d1_51 : decode method_3_code 51 = .ok (.new 29, 3) := by decide +kernel
theorem d1_54 : decode method_3_code 54 = .ok (.dup, 1) := by decide +kernel
theorem d1_55 : decode method_3_code 55 = .ok (.iconst 3, 1) := by decide +kernel
theorem d1_56 : decode method_3_code 56 = .ok (.newarray .char, 2) := by decide +kernel
theorem d1_58 : decode method_3_code 58 = .ok (.dup, 1) := by decide +kernel
theorem d1_59 : decode method_3_code 59 = .ok (.iconst 0, 1) := by decide +kernel
theorem d1_60 : decode method_3_code 60 = .ok (.iload_n 1, 1) := by decide +kernel
theorem d1_61 : decode method_3_code 61 = .ok (.castore, 1) := by decide +kernel
theorem d1_62 : decode method_3_code 62 = .ok (.dup, 1) := by decide +kernel
theorem d1_63 : decode method_3_code 63 = .ok (.iconst 1, 1) := by decide +kernel
theorem d1_64 : decode method_3_code 64 = .ok (.iload_n 2, 1) := by decide +kernel
theorem d1_65 : decode method_3_code 65 = .ok (.castore, 1) := by decide +kernel
theorem d1_66 : decode method_3_code 66 = .ok (.dup, 1) := by decide +kernel
theorem d1_67 : decode method_3_code 67 = .ok (.iconst 2, 1) := by decide +kernel
theorem d1_68 : decode method_3_code 68 = .ok (.iload_n 3, 1) := by decide +kernel
theorem d1_69 : decode method_3_code 69 = .ok (.castore, 1) := by decide +kernel
theorem d1_70 : decode method_3_code 70 = .ok (.invokespecial 31, 3) := by decide +kernel
theorem d1_73 : decode method_3_code 73 = .ok (.areturn, 1) := by decide +kernel
def Q_rm_mk (Z : State) (q0 : Int32) (c0 : Int32) (c1 : Int32) (c2 : Int32) (cs : Int32) (h0 : Heap) (n0 : Nat) (v : Option Value) (h : Heap) (L : List Loc) : Prop := ∃ (r : Addr) (b : Addr) (kb : ClassId), v = some (.ref r) ∧ Fr n0 L ∧ Keep h0 h [] ∧ OwnStr Z h r b kb (own_mk q0 c0 c1 c2)
set_option maxRecDepth 65536 in
set_option maxHeartbeats 40000000 in
theorem rm_mk (l : Launch) (Z : State) (a0 : Array Value) (hw : ∀ d ∈ tables_1, d.before a0 Z = true) (hEL : EW Z a0 own_EL) (ws : List Jvm.Cond) (q0 : Int32) (c0 : Int32) (c1 : Int32) (c2 : Int32) (cs : Int32) (h0 : Heap) (n0 : Nat) (Z0 : n0 ≤ h0.size) (S_COMPACT_STRINGS : Sta Z Z.heap "java/lang/String" "COMPACT_STRINGS" "Z" (.int cs)) (S__assertionsDisabled : Sta Z Z.heap "java/lang/StringUTF16" "$assertionsDisabled" "Z" (.int (1 : Int32))) (S_HI_BYTE_SHIFT : Sta Z Z.heap "java/lang/StringUTF16" "HI_BYTE_SHIFT" "I" (.int (0 : Int32))) (S_LO_BYTE_SHIFT : Sta Z Z.heap "java/lang/StringUTF16" "LO_BYTE_SHIFT" "I" (.int (8 : Int32))) (hch0 : OwnCh c0) (hch1 : OwnCh c1) (hch2 : OwnCh c2) (hcs : ¬ (cs = (0 : Int32))) (O : Old Z n0 h0) :
    MetW l Z own_EL M1 method_3_code 4 (some (.object "java/lang/String")) ws (Rm 6 4 16 88) #[(.int q0), (.int c0), (.int c1), (.int c2)] [] h0 (Q_rm_mk Z q0 c0 c1 c2 cs h0 n0) := by
  refine metW_of (plainFor_of_name pn_com_example_known_paths_knownpaths_item_CodePointOrderComparePinLaw) (own := "com/example/known_paths/knownpaths/item/CodePointOrderComparePinLaw") rfl (fun m => ef_rm_mk m q0 c0 c1 c2) ?_
  intro p e s m below meth c s₁ hx hby hml hown hnm hZ X0 e0 hret hlk H hSf CR hS
  have N0 := Fr.nil n0
  have K0 := Keep.refl h0 []
  have hk := Nat.le_refl h0.size
  show GoesW p e below s Z own_EL _ _ _ (s₁.setTop (mkF m 0 #[.val (.int q0), .val (.int c0), .val (.int c1), .val (.int c2)] []))
  refine GoesW.pre (U' := s₁.setTop (mkF m 1 #[.val (.int q0), .val (.int c0), .val (.int c1), .val (.int c2)] [(.int q0)])) (fun t k => XS.iloadN X0.here hx rfl (hb hby d1_0) rfl k) ?_
  by_cases hc1 : q0 = (0 : Int32)
  ·
    refine GoesW.pre (U' := s₁.setTop (mkF m 4 #[.val (.int q0), .val (.int c0), .val (.int c1), .val (.int c2)] [])) (fun t k => XS.ifNo X0.here hx rfl (hb hby d1_1) rfl ((if0 _ _).trans (teq hc1).2) k) ?_
    obtain ⟨ls1, T1, h1, k1_1, lb1, kl1, X1, e1, E1, hS1, hk1, hZ1, hown1, El1, Fc1, Fv1, Av1, lta1, ltb1, CQ1, Li1, Sne1, st1⟩ := ldcCH X0 hx hZ hown (wq hw 4 rfl) (own_atoms hw) e0 hS hk hEL (List.mem_of_getElem? (i := 0) rfl) H (vs := []) (z := (0 : Int32)) ⟨by decide, by decide⟩ (by decide) (by decide) (g := (mkF m 4 #[.val (.int q0), .val (.int c0), .val (.int c1), .val (.int c2)] [])) rfl (hb hby d1_4) (n := 0) (by decide) (by decide) (by decide) (by decide)
    have O := O.ext E1
    have Z1 : n0 ≤ h1.size := Nat.le_trans Z0 E1.1
    have K1 := K0.ext E1
    have hS := hS1
    have hk := hk1
    have hZ := hZ1
    have hown := hown1
    have H := CQ1.1
    have CR := CR.trans CQ1
    have E_ls1 := El1
    have F_coder_ls1 := Fc1
    have F_value_ls1 := Fv1
    have V_lb1 := Av1
    have Li_ls1 := Li1
    refine GoesW.pre (U' := T1.setTop (mkF m 6 #[.val (.int q0), .val (.int c0), .val (.int c1), .val (.int c2)] [(.ref ls1)])) (fun t k => st1 t k) ?_
    refine GoesW.ret X1 hZ hEL hS hk H CR (v := (some (.ref ls1))) (fun h => by rw [hret] at h; cases h) hlk (by decide) (by decide) e1 (fun fs hr => retOut X1 hx hret rfl (Or.inr (Or.inr (Or.inr (Or.inr ⟨rfl, rfl, rfl⟩)))) (hb hby d1_6) hr) ?_
    have eM : own_mk q0 c0 c1 c2 = [] := by simp [own_mk, hc1]
    have S_ls1 : OwnStr Z h1 ls1 lb1 kl1 [] := ⟨E_ls1, F_value_ls1, own_cN, Or.inl ⟨F_coder_ls1, V_lb1, (by intro c hc; cases hc)⟩⟩
    rw [← eM] at S_ls1
    exact ⟨ls1, lb1, kl1, rfl, N0, K1, S_ls1⟩
  ·
    refine GoesW.pre (U' := s₁.setTop (mkF m 9 #[.val (.int q0), .val (.int c0), .val (.int c1), .val (.int c2)] [(.int (1 : Int32)), (.int q0)])) (fun t k => XS.ifYes X0.here hx rfl (pc0 := 1) (pc' := 7) rfl (hb hby d1_1) rfl ((if0 _ _).trans (feq hc1).2) (by decide) (by decide) (XS.iloadN X0.here hx rfl (hb hby d1_7) rfl (XS.iconst X0.here hx rfl (hb hby d1_8) k))) ?_
    by_cases hc9 : q0 = (1 : Int32)
    ·
      refine GoesW.pre (U' := s₁.setTop (mkF m 12 #[.val (.int q0), .val (.int c0), .val (.int c1), .val (.int c2)] [])) (fun t k => XS.icmpNo X0.here hx rfl (hb hby d1_9) rfl (teq hc9).2 k) ?_
      obtain ⟨T2, h2, X2, e2, E2, A2, D2, -, st2⟩ := newO X0 hx hZ hown (wq hw 27 rfl) (wq hw 6 rfl) (wq hw 5 rfl) e0 (g := (mkF m 12 #[.val (.int q0), .val (.int c0), .val (.int c1), .val (.int c2)] [])) rfl (hb hby d1_12) (by decide) (by decide)
      obtain ⟨sr, g2⟩ : ∃ z, z = h0.size := ⟨_, rfl⟩
      rw [← g2] at A2 D2 st2
      have g_sr : n0 ≤ sr := Nat.le_trans Z0 (Nat.le_of_eq g2.symm)
      have sz_sr : h0.size ≤ sr := Nat.le_trans K0.1 (Nat.le_of_eq g2.symm)
      have O := O.ext E2
      have SF_sr := Safe.ext E2 H (Safe.new (x := sr) (Nat.le_of_eq g2.symm))
      have CR := CR.trans (CHr.ext E2 H)
      have H := H.ext E2
      have hk := Nat.le_trans hk E2.1
      have Z2 : n0 ≤ h2.size := Nat.le_trans Z0 E2.1
      have K2 := K0.ext E2
      have E_sr := A2
      have F_value_sr : Fld Z h2 sr "java/lang/String" "value" "[B" .null := D2 (Or.inr (wq hw 8 rfl)) (ty := (.array .byte)) (by decide)
      have F_coder_sr : Fld Z h2 sr "java/lang/String" "coder" "B" (.int (0 : Int32)) := D2 (Or.inr (wq hw 9 rfl)) (ty := .byte) (by decide)
      refine GoesW.pre (U' := T2.setTop (mkF m 17 #[.val (.int q0), .val (.int c0), .val (.int c1), .val (.int c2)] [(.int (1 : Int32)), (.ref sr), (.ref sr)])) (fun t k => st2 t (XS.dup X2.here hx rfl (hb hby d1_15) rfl rfl (XS.iconst X2.here hx rfl (hb hby d1_16) k))) ?_
      obtain ⟨T3, h3, k3, X3, e3, E3, A3, B3, st3⟩ := newPE X2 hx hZ (wq hw 28 rfl) e2 (g := (mkF m 17 #[.val (.int q0), .val (.int c0), .val (.int c1), .val (.int c2)] [(.int (1 : Int32)), (.ref sr), (.ref sr)])) rfl (hb hby d1_17) rfl (by decide) (cap := 1) (by decide) (by decide) (by decide) (by decide) (ad := "[C") (by decide)
      obtain ⟨sd, g3⟩ : ∃ z, z = h2.size := ⟨_, rfl⟩
      rw [← g3] at A3 B3 st3
      have ne_sr_sd : sr ≠ sd := Nat.ne_of_lt (Nat.lt_of_lt_of_le E_sr.lt (Nat.le_of_eq g3.symm))
      have ne_sd_sr := ne_sr_sd.symm
      have g_sd : n0 ≤ sd := Nat.le_trans Z2 (Nat.le_of_eq g3.symm)
      have sz_sd : h0.size ≤ sd := Nat.le_trans K2.1 (Nat.le_of_eq g3.symm)
      have E_sr := E_sr.ext E3
      have F_value_sr := F_value_sr.ext E3
      have F_coder_sr := F_coder_sr.ext E3
      have O := O.ext E3
      have SF_sr := Safe.ext E3 H SF_sr
      have SF_sd := Safe.ext E3 H (Safe.new (x := sd) (Nat.le_of_eq g3.symm))
      have CR := CR.trans (CHr.ext E3 H)
      have H := H.ext E3
      have hk := Nat.le_trans hk E3.1
      have Z3 : n0 ≤ h3.size := Nat.le_trans Z2 E3.1
      have K3 := K2.ext E3
      have E_sd := B3
      have V_sd : Arv Z h3 sd k3 .char (1 : Int32) [(.int (0 : Int32))] (.int (0 : Int32)) := (Arv.new A3 (by decide)).pad (pad_rep [] (.int (0 : Int32)) 1)
      refine GoesW.pre (U' := T3.setTop (mkF m 22 #[.val (.int q0), .val (.int c0), .val (.int c1), .val (.int c2)] [(.int c0), (.int (0 : Int32)), (.ref sd), (.ref sd), (.ref sr), (.ref sr)])) (fun t k => st3 t (XS.dup X3.here hx rfl (hb hby d1_19) rfl rfl (XS.iconst X3.here hx rfl (hb hby d1_20) (XS.iloadN X3.here hx rfl (hb hby d1_21) rfl k)))) ?_
      obtain ⟨cl4, Ar4, q4, Sz4, Ng4, Hs4, Ft4⟩ := id V_sd
      obtain ⟨T4, h4, X4, e4, W4, st4⟩ := stC X3 hx hZ e3 Ar4 (j := (0 : Int32)) (inb_of Sz4 ⟨by decide, by decide⟩) (g := (mkF m 22 #[.val (.int q0), .val (.int c0), .val (.int c1), .val (.int c2)] [(.int c0), (.int (0 : Int32)), (.ref sd), (.ref sd), (.ref sr), (.ref sr)])) rfl rfl (hb hby d1_22)
      have nr4 : nar .char c0 = c0 := own_nch _ (hch0)
      have ft4 : fits .char (.int c0) = true := nr4 ▸ (fits_nar_char c0 : fits .char (.int (nar .char c0)) = true)
      rw [nr4] at W4
      have E_sr := E_sr.wr W4
      have F_value_sr := F_value_sr.other W4 (Or.inl ne_sr_sd)
      have F_coder_sr := F_coder_sr.other W4 (Or.inl ne_sr_sd)
      have E_sd := E_sd.wr W4
      have Z4 : n0 ≤ h4.size := Nat.le_trans Z3 (Keep.of_wr W4).1
      have O := O.wr W4 g_sd
      have SFo := SF_sd
      have SF_sr := Safe.wr W4 SFo H SF_sr
      have SF_sd := Safe.wr W4 SFo H SF_sd
      have CR := CR.trans (CHr.wr W4 SFo H)
      have H := H.wr W4 SFo
      have hk := Nat.le_trans hk (Keep.of_wr W4).1
      have V_sd : Arv Z h4 sd k3 .char (1 : Int32) [(.int c0)] (.int (0 : Int32)) := Arv.set Ar4 q4 Sz4 Ng4 Hs4 Ft4 ft4 W4 0 rfl (Nat.le_of_ble_eq_true rfl)
      have K4 := K3.wr W4 (Or.inr sz_sd)
      have N4 := Fr.snoc X4 N0 g_sd
      refine GoesW.pre (U' := T4.setTop (mkF m 23 #[.val (.int q0), .val (.int c0), .val (.int c1), .val (.int c2)] [(.ref sd), (.ref sr), (.ref sr)])) (fun t k => st4 t k) ?_
      have lt_sd := E_sd.lt
      have lt_sr := E_sr.lt
      obtain ⟨_, _, ⟨T5, L5, k5, n5⟩, -, X5, ⟨Lc5, hQ5, l5, y5, z5⟩, st5⟩ := X4.specialBack hx (y := (⟨"java/lang/String", "<init>", "([C)V"⟩ : MethodName)) rfl hown (mvT hZ (wq hw 29 rfl)) (mvT hZ (wq hw 30 rfl)) (mvT hZ (wq hw 31 rfl)) (by decide) (backOf (W := 1) (rm_init1G l Z a0 hw [] sr sd k3 [c0] cs h4 n0 Z4 E_sr F_value_sr F_coder_sr V_sd S_COMPACT_STRINGS S__assertionsDisabled S_HI_BYTE_SHIFT S_LO_BYTE_SHIFT (Nat.le_of_ble_eq_true rfl) (own_cA (hch0) own_cN) (by simp) hcs ne_sd_sr g_sr O) hZ (wq hw 31 rfl) (wq hw 5 rfl) (by decide) (by decide)) (g := (mkF m 23 #[.val (.int q0), .val (.int c0), .val (.int c1), .val (.int c2)] [(.ref sd), (.ref sr), (.ref sr)])) rfl (by rw [hml]; rfl) (Steps.refl _) (a := sr) (argsL := [(.ref sd)]) (rest := [(.ref sr)]) (lenOf pd__28_5bC_29V rfl) rfl (by show 2 * 0 + _ ≤ _; exact Nat.le_of_eq rfl) (hb hby d1_23) (fun _ _ => ⟨rfl, e4, (by decide : 2 + 2 ≤ _), (by decide : 5 + 9 ≤ _)⟩)
      dsimp only [Pt.U, Pt.locs, Pt.cells, Pt.slots] at X5 l5 y5 z5 st5 hQ5
      subst l5 y5 z5
      obtain ⟨b5, kb5, rfl, N5q, KQ5, fo0_5, g_b5, sl_b5⟩ := hQ5
      have N5 := Fr.app N4 N5q
      have E_sr := E_sr.keep KQ5
      have E_sd := E_sd.keep KQ5
      have V_sd := V_sd.keep KQ5 (ninS ne_sd_sr nin0)
      have Z6 : n0 ≤ T5.heap.size := Nat.le_trans Z4 KQ5.1
      have O := O.keep KQ5 (allS (P := fun x => n0 ≤ x) g_sr all0)
      have hsafe := (allS (P := fun x => Safe Z own_EL s.vm _ x) SF_sr all0)
      have SF_sr := Safe.keep KQ5 hsafe H SF_sr
      have SF_sd := Safe.keep KQ5 hsafe H SF_sd
      have CR := CR.trans (CHr.keep KQ5 hsafe H)
      have H := H.keep KQ5 hsafe
      have hk := Nat.le_trans hk KQ5.1
      have K6 := K4.trans KQ5 (allS (P := fun x => x ∈ [] ∨ h0.size ≤ x) (Or.inr sz_sr) all0)
      have ne_sd_b5 : sd ≠ b5 := Nat.ne_of_lt (Nat.lt_of_lt_of_le lt_sd sl_b5)
      have ne_b5_sd := ne_sd_b5.symm
      have ne_sr_b5 : sr ≠ b5 := Nat.ne_of_lt (Nat.lt_of_lt_of_le lt_sr sl_b5)
      have ne_b5_sr := ne_sr_b5.symm
      have sz_b5 : h0.size ≤ b5 := Nat.le_trans K4.1 sl_b5
      have S_sr := fo0_5
      refine GoesW.pre (U' := T5.setTop (mkF m 26 #[.val (.int q0), .val (.int c0), .val (.int c1), .val (.int c2)] [(.ref sr)])) (fun t k => st5.trans k) ?_
      refine GoesW.ret X5 hZ hEL hS hk H CR (v := (some (.ref sr))) (fun h => by rw [hret] at h; cases h) hlk (by decide) (by decide) rfl (fun fs hr => retOut X5 hx hret rfl (Or.inr (Or.inr (Or.inr (Or.inr ⟨rfl, rfl, rfl⟩)))) (hb hby d1_26) hr) ?_
      have eM : own_mk q0 c0 c1 c2 = [c0] := by simp [own_mk, hc1, hc9]
      rw [← eM] at S_sr
      exact ⟨sr, b5, kb5, rfl, N5, K6, S_sr⟩
    ·
      refine GoesW.pre (U' := s₁.setTop (mkF m 29 #[.val (.int q0), .val (.int c0), .val (.int c1), .val (.int c2)] [(.int (2 : Int32)), (.int q0)])) (fun t k => XS.icmpYes X0.here hx rfl (pc0 := 9) (pc' := 27) rfl (hb hby d1_9) rfl (feq hc9).2 (by decide) (by decide) (XS.iloadN X0.here hx rfl (hb hby d1_27) rfl (XS.iconst X0.here hx rfl (hb hby d1_28) k))) ?_
      by_cases hc29 : q0 = (2 : Int32)
      ·
        refine GoesW.pre (U' := s₁.setTop (mkF m 32 #[.val (.int q0), .val (.int c0), .val (.int c1), .val (.int c2)] [])) (fun t k => XS.icmpNo X0.here hx rfl (hb hby d1_29) rfl (teq hc29).2 k) ?_
        obtain ⟨T7, h7, X7, e7, E7, A7, D7, -, st7⟩ := newO X0 hx hZ hown (wq hw 27 rfl) (wq hw 6 rfl) (wq hw 5 rfl) e0 (g := (mkF m 32 #[.val (.int q0), .val (.int c0), .val (.int c1), .val (.int c2)] [])) rfl (hb hby d1_32) (by decide) (by decide)
        obtain ⟨sr, g7⟩ : ∃ z, z = h0.size := ⟨_, rfl⟩
        rw [← g7] at A7 D7 st7
        have g_sr : n0 ≤ sr := Nat.le_trans Z0 (Nat.le_of_eq g7.symm)
        have sz_sr : h0.size ≤ sr := Nat.le_trans K0.1 (Nat.le_of_eq g7.symm)
        have O := O.ext E7
        have SF_sr := Safe.ext E7 H (Safe.new (x := sr) (Nat.le_of_eq g7.symm))
        have CR := CR.trans (CHr.ext E7 H)
        have H := H.ext E7
        have hk := Nat.le_trans hk E7.1
        have Z7 : n0 ≤ h7.size := Nat.le_trans Z0 E7.1
        have K7 := K0.ext E7
        have E_sr := A7
        have F_value_sr : Fld Z h7 sr "java/lang/String" "value" "[B" .null := D7 (Or.inr (wq hw 8 rfl)) (ty := (.array .byte)) (by decide)
        have F_coder_sr : Fld Z h7 sr "java/lang/String" "coder" "B" (.int (0 : Int32)) := D7 (Or.inr (wq hw 9 rfl)) (ty := .byte) (by decide)
        refine GoesW.pre (U' := T7.setTop (mkF m 37 #[.val (.int q0), .val (.int c0), .val (.int c1), .val (.int c2)] [(.int (2 : Int32)), (.ref sr), (.ref sr)])) (fun t k => st7 t (XS.dup X7.here hx rfl (hb hby d1_35) rfl rfl (XS.iconst X7.here hx rfl (hb hby d1_36) k))) ?_
        obtain ⟨T8, h8, k8, X8, e8, E8, A8, B8, st8⟩ := newPE X7 hx hZ (wq hw 28 rfl) e7 (g := (mkF m 37 #[.val (.int q0), .val (.int c0), .val (.int c1), .val (.int c2)] [(.int (2 : Int32)), (.ref sr), (.ref sr)])) rfl (hb hby d1_37) rfl (by decide) (cap := 2) (by decide) (by decide) (by decide) (by decide) (ad := "[C") (by decide)
        obtain ⟨sd, g8⟩ : ∃ z, z = h7.size := ⟨_, rfl⟩
        rw [← g8] at A8 B8 st8
        have ne_sr_sd : sr ≠ sd := Nat.ne_of_lt (Nat.lt_of_lt_of_le E_sr.lt (Nat.le_of_eq g8.symm))
        have ne_sd_sr := ne_sr_sd.symm
        have g_sd : n0 ≤ sd := Nat.le_trans Z7 (Nat.le_of_eq g8.symm)
        have sz_sd : h0.size ≤ sd := Nat.le_trans K7.1 (Nat.le_of_eq g8.symm)
        have E_sr := E_sr.ext E8
        have F_value_sr := F_value_sr.ext E8
        have F_coder_sr := F_coder_sr.ext E8
        have O := O.ext E8
        have SF_sr := Safe.ext E8 H SF_sr
        have SF_sd := Safe.ext E8 H (Safe.new (x := sd) (Nat.le_of_eq g8.symm))
        have CR := CR.trans (CHr.ext E8 H)
        have H := H.ext E8
        have hk := Nat.le_trans hk E8.1
        have Z8 : n0 ≤ h8.size := Nat.le_trans Z7 E8.1
        have K8 := K7.ext E8
        have E_sd := B8
        have V_sd : Arv Z h8 sd k8 .char (2 : Int32) [(.int (0 : Int32)), (.int (0 : Int32))] (.int (0 : Int32)) := (Arv.new A8 (by decide)).pad (pad_rep [] (.int (0 : Int32)) 2)
        refine GoesW.pre (U' := T8.setTop (mkF m 42 #[.val (.int q0), .val (.int c0), .val (.int c1), .val (.int c2)] [(.int c0), (.int (0 : Int32)), (.ref sd), (.ref sd), (.ref sr), (.ref sr)])) (fun t k => st8 t (XS.dup X8.here hx rfl (hb hby d1_39) rfl rfl (XS.iconst X8.here hx rfl (hb hby d1_40) (XS.iloadN X8.here hx rfl (hb hby d1_41) rfl k)))) ?_
        obtain ⟨cl9, Ar9, q9, Sz9, Ng9, Hs9, Ft9⟩ := id V_sd
        obtain ⟨T9, h9, X9, e9, W9, st9⟩ := stC X8 hx hZ e8 Ar9 (j := (0 : Int32)) (inb_of Sz9 ⟨by decide, by decide⟩) (g := (mkF m 42 #[.val (.int q0), .val (.int c0), .val (.int c1), .val (.int c2)] [(.int c0), (.int (0 : Int32)), (.ref sd), (.ref sd), (.ref sr), (.ref sr)])) rfl rfl (hb hby d1_42)
        have nr9 : nar .char c0 = c0 := own_nch _ (hch0)
        have ft9 : fits .char (.int c0) = true := nr9 ▸ (fits_nar_char c0 : fits .char (.int (nar .char c0)) = true)
        rw [nr9] at W9
        have E_sr := E_sr.wr W9
        have F_value_sr := F_value_sr.other W9 (Or.inl ne_sr_sd)
        have F_coder_sr := F_coder_sr.other W9 (Or.inl ne_sr_sd)
        have E_sd := E_sd.wr W9
        have Z9 : n0 ≤ h9.size := Nat.le_trans Z8 (Keep.of_wr W9).1
        have O := O.wr W9 g_sd
        have SFo := SF_sd
        have SF_sr := Safe.wr W9 SFo H SF_sr
        have SF_sd := Safe.wr W9 SFo H SF_sd
        have CR := CR.trans (CHr.wr W9 SFo H)
        have H := H.wr W9 SFo
        have hk := Nat.le_trans hk (Keep.of_wr W9).1
        have V_sd : Arv Z h9 sd k8 .char (2 : Int32) [(.int c0), (.int (0 : Int32))] (.int (0 : Int32)) := Arv.set Ar9 q9 Sz9 Ng9 Hs9 Ft9 ft9 W9 0 rfl (Nat.le_of_ble_eq_true rfl)
        have K9 := K8.wr W9 (Or.inr sz_sd)
        have N9 := Fr.snoc X9 N0 g_sd
        refine GoesW.pre (U' := T9.setTop (mkF m 46 #[.val (.int q0), .val (.int c0), .val (.int c1), .val (.int c2)] [(.int c1), (.int (1 : Int32)), (.ref sd), (.ref sd), (.ref sr), (.ref sr)])) (fun t k => st9 t (XS.dup X9.here hx rfl (hb hby d1_43) rfl rfl (XS.iconst X9.here hx rfl (hb hby d1_44) (XS.iloadN X9.here hx rfl (hb hby d1_45) rfl k)))) ?_
        obtain ⟨cl10, Ar10, q10, Sz10, Ng10, Hs10, Ft10⟩ := id V_sd
        obtain ⟨T10, h10, X10, e10, W10, st10⟩ := stC X9 hx hZ e9 Ar10 (j := (1 : Int32)) (inb_of Sz10 ⟨by decide, by decide⟩) (g := (mkF m 46 #[.val (.int q0), .val (.int c0), .val (.int c1), .val (.int c2)] [(.int c1), (.int (1 : Int32)), (.ref sd), (.ref sd), (.ref sr), (.ref sr)])) rfl rfl (hb hby d1_46)
        have nr10 : nar .char c1 = c1 := own_nch _ (hch1)
        have ft10 : fits .char (.int c1) = true := nr10 ▸ (fits_nar_char c1 : fits .char (.int (nar .char c1)) = true)
        rw [nr10] at W10
        have E_sr := E_sr.wr W10
        have F_value_sr := F_value_sr.other W10 (Or.inl ne_sr_sd)
        have F_coder_sr := F_coder_sr.other W10 (Or.inl ne_sr_sd)
        have E_sd := E_sd.wr W10
        have Z10 : n0 ≤ h10.size := Nat.le_trans Z9 (Keep.of_wr W10).1
        have O := O.wr W10 g_sd
        have SFo := SF_sd
        have SF_sr := Safe.wr W10 SFo H SF_sr
        have SF_sd := Safe.wr W10 SFo H SF_sd
        have CR := CR.trans (CHr.wr W10 SFo H)
        have H := H.wr W10 SFo
        have hk := Nat.le_trans hk (Keep.of_wr W10).1
        have V_sd : Arv Z h10 sd k8 .char (2 : Int32) [(.int c0), (.int c1)] (.int (0 : Int32)) := Arv.set Ar10 q10 Sz10 Ng10 Hs10 Ft10 ft10 W10 1 rfl (Nat.le_of_ble_eq_true rfl)
        have K10 := K9.wr W10 (Or.inr sz_sd)
        have N10 := Fr.snoc X10 N9 g_sd
        refine GoesW.pre (U' := T10.setTop (mkF m 47 #[.val (.int q0), .val (.int c0), .val (.int c1), .val (.int c2)] [(.ref sd), (.ref sr), (.ref sr)])) (fun t k => st10 t k) ?_
        have lt_sd := E_sd.lt
        have lt_sr := E_sr.lt
        obtain ⟨_, _, ⟨T11, L11, k11, n11⟩, -, X11, ⟨Lc11, hQ11, l11, y11, z11⟩, st11⟩ := X10.specialBack hx (y := (⟨"java/lang/String", "<init>", "([C)V"⟩ : MethodName)) rfl hown (mvT hZ (wq hw 29 rfl)) (mvT hZ (wq hw 30 rfl)) (mvT hZ (wq hw 31 rfl)) (by decide) (backOf (W := 1) (rm_init1G l Z a0 hw [] sr sd k8 ([c0, c1]) cs h10 n0 Z10 E_sr F_value_sr F_coder_sr V_sd S_COMPACT_STRINGS S__assertionsDisabled S_HI_BYTE_SHIFT S_LO_BYTE_SHIFT (Nat.le_of_ble_eq_true rfl) (own_cA (hch0) (own_cA (hch1) own_cN)) (by simp) hcs ne_sd_sr g_sr O) hZ (wq hw 31 rfl) (wq hw 5 rfl) (by decide) (by decide)) (g := (mkF m 47 #[.val (.int q0), .val (.int c0), .val (.int c1), .val (.int c2)] [(.ref sd), (.ref sr), (.ref sr)])) rfl (by rw [hml]; rfl) (Steps.refl _) (a := sr) (argsL := [(.ref sd)]) (rest := [(.ref sr)]) (lenOf pd__28_5bC_29V rfl) rfl (by show 2 * 0 + _ ≤ _; exact Nat.le_of_eq rfl) (hb hby d1_47) (fun _ _ => ⟨rfl, e10, (by decide : 2 + 2 ≤ _), (by decide : 6 + 9 ≤ _)⟩)
        dsimp only [Pt.U, Pt.locs, Pt.cells, Pt.slots] at X11 l11 y11 z11 st11 hQ11
        subst l11 y11 z11
        obtain ⟨b11, kb11, rfl, N11q, KQ11, fo0_11, g_b11, sl_b11⟩ := hQ11
        have N11 := Fr.app N10 N11q
        have E_sr := E_sr.keep KQ11
        have E_sd := E_sd.keep KQ11
        have V_sd := V_sd.keep KQ11 (ninS ne_sd_sr nin0)
        have Z12 : n0 ≤ T11.heap.size := Nat.le_trans Z10 KQ11.1
        have O := O.keep KQ11 (allS (P := fun x => n0 ≤ x) g_sr all0)
        have hsafe := (allS (P := fun x => Safe Z own_EL s.vm _ x) SF_sr all0)
        have SF_sr := Safe.keep KQ11 hsafe H SF_sr
        have SF_sd := Safe.keep KQ11 hsafe H SF_sd
        have CR := CR.trans (CHr.keep KQ11 hsafe H)
        have H := H.keep KQ11 hsafe
        have hk := Nat.le_trans hk KQ11.1
        have K12 := K10.trans KQ11 (allS (P := fun x => x ∈ [] ∨ h0.size ≤ x) (Or.inr sz_sr) all0)
        have ne_sd_b11 : sd ≠ b11 := Nat.ne_of_lt (Nat.lt_of_lt_of_le lt_sd sl_b11)
        have ne_b11_sd := ne_sd_b11.symm
        have ne_sr_b11 : sr ≠ b11 := Nat.ne_of_lt (Nat.lt_of_lt_of_le lt_sr sl_b11)
        have ne_b11_sr := ne_sr_b11.symm
        have sz_b11 : h0.size ≤ b11 := Nat.le_trans K10.1 sl_b11
        have S_sr := fo0_11
        refine GoesW.pre (U' := T11.setTop (mkF m 50 #[.val (.int q0), .val (.int c0), .val (.int c1), .val (.int c2)] [(.ref sr)])) (fun t k => st11.trans k) ?_
        refine GoesW.ret X11 hZ hEL hS hk H CR (v := (some (.ref sr))) (fun h => by rw [hret] at h; cases h) hlk (by decide) (by decide) rfl (fun fs hr => retOut X11 hx hret rfl (Or.inr (Or.inr (Or.inr (Or.inr ⟨rfl, rfl, rfl⟩)))) (hb hby d1_50) hr) ?_
        have eM : own_mk q0 c0 c1 c2 = [c0, c1] := by simp [own_mk, hc1, hc9, hc29]
        rw [← eM] at S_sr
        exact ⟨sr, b11, kb11, rfl, N11, K12, S_sr⟩
      ·
        refine GoesW.pre (U' := s₁.setTop (mkF m 51 #[.val (.int q0), .val (.int c0), .val (.int c1), .val (.int c2)] [])) (fun t k => XS.icmpYes X0.here hx rfl (pc0 := 29) (pc' := 51) rfl (hb hby d1_29) rfl (feq hc29).2 (by decide) (by decide) k) ?_
        obtain ⟨T13, h13, X13, e13, E13, A13, D13, -, st13⟩ := newO X0 hx hZ hown (wq hw 27 rfl) (wq hw 6 rfl) (wq hw 5 rfl) e0 (g := (mkF m 51 #[.val (.int q0), .val (.int c0), .val (.int c1), .val (.int c2)] [])) rfl (hb hby d1_51) (by decide) (by decide)
        obtain ⟨sr, g13⟩ : ∃ z, z = h0.size := ⟨_, rfl⟩
        rw [← g13] at A13 D13 st13
        have g_sr : n0 ≤ sr := Nat.le_trans Z0 (Nat.le_of_eq g13.symm)
        have sz_sr : h0.size ≤ sr := Nat.le_trans K0.1 (Nat.le_of_eq g13.symm)
        have O := O.ext E13
        have SF_sr := Safe.ext E13 H (Safe.new (x := sr) (Nat.le_of_eq g13.symm))
        have CR := CR.trans (CHr.ext E13 H)
        have H := H.ext E13
        have hk := Nat.le_trans hk E13.1
        have Z13 : n0 ≤ h13.size := Nat.le_trans Z0 E13.1
        have K13 := K0.ext E13
        have E_sr := A13
        have F_value_sr : Fld Z h13 sr "java/lang/String" "value" "[B" .null := D13 (Or.inr (wq hw 8 rfl)) (ty := (.array .byte)) (by decide)
        have F_coder_sr : Fld Z h13 sr "java/lang/String" "coder" "B" (.int (0 : Int32)) := D13 (Or.inr (wq hw 9 rfl)) (ty := .byte) (by decide)
        refine GoesW.pre (U' := T13.setTop (mkF m 56 #[.val (.int q0), .val (.int c0), .val (.int c1), .val (.int c2)] [(.int (3 : Int32)), (.ref sr), (.ref sr)])) (fun t k => st13 t (XS.dup X13.here hx rfl (hb hby d1_54) rfl rfl (XS.iconst X13.here hx rfl (hb hby d1_55) k))) ?_
        obtain ⟨T14, h14, k14, X14, e14, E14, A14, B14, st14⟩ := newPE X13 hx hZ (wq hw 28 rfl) e13 (g := (mkF m 56 #[.val (.int q0), .val (.int c0), .val (.int c1), .val (.int c2)] [(.int (3 : Int32)), (.ref sr), (.ref sr)])) rfl (hb hby d1_56) rfl (by decide) (cap := 3) (by decide) (by decide) (by decide) (by decide) (ad := "[C") (by decide)
        obtain ⟨sd, g14⟩ : ∃ z, z = h13.size := ⟨_, rfl⟩
        rw [← g14] at A14 B14 st14
        have ne_sr_sd : sr ≠ sd := Nat.ne_of_lt (Nat.lt_of_lt_of_le E_sr.lt (Nat.le_of_eq g14.symm))
        have ne_sd_sr := ne_sr_sd.symm
        have g_sd : n0 ≤ sd := Nat.le_trans Z13 (Nat.le_of_eq g14.symm)
        have sz_sd : h0.size ≤ sd := Nat.le_trans K13.1 (Nat.le_of_eq g14.symm)
        have E_sr := E_sr.ext E14
        have F_value_sr := F_value_sr.ext E14
        have F_coder_sr := F_coder_sr.ext E14
        have O := O.ext E14
        have SF_sr := Safe.ext E14 H SF_sr
        have SF_sd := Safe.ext E14 H (Safe.new (x := sd) (Nat.le_of_eq g14.symm))
        have CR := CR.trans (CHr.ext E14 H)
        have H := H.ext E14
        have hk := Nat.le_trans hk E14.1
        have Z14 : n0 ≤ h14.size := Nat.le_trans Z13 E14.1
        have K14 := K13.ext E14
        have E_sd := B14
        have V_sd : Arv Z h14 sd k14 .char (3 : Int32) [(.int (0 : Int32)), (.int (0 : Int32)), (.int (0 : Int32))] (.int (0 : Int32)) := (Arv.new A14 (by decide)).pad (pad_rep [] (.int (0 : Int32)) 3)
        refine GoesW.pre (U' := T14.setTop (mkF m 61 #[.val (.int q0), .val (.int c0), .val (.int c1), .val (.int c2)] [(.int c0), (.int (0 : Int32)), (.ref sd), (.ref sd), (.ref sr), (.ref sr)])) (fun t k => st14 t (XS.dup X14.here hx rfl (hb hby d1_58) rfl rfl (XS.iconst X14.here hx rfl (hb hby d1_59) (XS.iloadN X14.here hx rfl (hb hby d1_60) rfl k)))) ?_
        obtain ⟨cl15, Ar15, q15, Sz15, Ng15, Hs15, Ft15⟩ := id V_sd
        obtain ⟨T15, h15, X15, e15, W15, st15⟩ := stC X14 hx hZ e14 Ar15 (j := (0 : Int32)) (inb_of Sz15 ⟨by decide, by decide⟩) (g := (mkF m 61 #[.val (.int q0), .val (.int c0), .val (.int c1), .val (.int c2)] [(.int c0), (.int (0 : Int32)), (.ref sd), (.ref sd), (.ref sr), (.ref sr)])) rfl rfl (hb hby d1_61)
        have nr15 : nar .char c0 = c0 := own_nch _ (hch0)
        have ft15 : fits .char (.int c0) = true := nr15 ▸ (fits_nar_char c0 : fits .char (.int (nar .char c0)) = true)
        rw [nr15] at W15
        have E_sr := E_sr.wr W15
        have F_value_sr := F_value_sr.other W15 (Or.inl ne_sr_sd)
        have F_coder_sr := F_coder_sr.other W15 (Or.inl ne_sr_sd)
        have E_sd := E_sd.wr W15
        have Z15 : n0 ≤ h15.size := Nat.le_trans Z14 (Keep.of_wr W15).1
        have O := O.wr W15 g_sd
        have SFo := SF_sd
        have SF_sr := Safe.wr W15 SFo H SF_sr
        have SF_sd := Safe.wr W15 SFo H SF_sd
        have CR := CR.trans (CHr.wr W15 SFo H)
        have H := H.wr W15 SFo
        have hk := Nat.le_trans hk (Keep.of_wr W15).1
        have V_sd : Arv Z h15 sd k14 .char (3 : Int32) [(.int c0), (.int (0 : Int32)), (.int (0 : Int32))] (.int (0 : Int32)) := Arv.set Ar15 q15 Sz15 Ng15 Hs15 Ft15 ft15 W15 0 rfl (Nat.le_of_ble_eq_true rfl)
        have K15 := K14.wr W15 (Or.inr sz_sd)
        have N15 := Fr.snoc X15 N0 g_sd
        refine GoesW.pre (U' := T15.setTop (mkF m 65 #[.val (.int q0), .val (.int c0), .val (.int c1), .val (.int c2)] [(.int c1), (.int (1 : Int32)), (.ref sd), (.ref sd), (.ref sr), (.ref sr)])) (fun t k => st15 t (XS.dup X15.here hx rfl (hb hby d1_62) rfl rfl (XS.iconst X15.here hx rfl (hb hby d1_63) (XS.iloadN X15.here hx rfl (hb hby d1_64) rfl k)))) ?_
        obtain ⟨cl16, Ar16, q16, Sz16, Ng16, Hs16, Ft16⟩ := id V_sd
        obtain ⟨T16, h16, X16, e16, W16, st16⟩ := stC X15 hx hZ e15 Ar16 (j := (1 : Int32)) (inb_of Sz16 ⟨by decide, by decide⟩) (g := (mkF m 65 #[.val (.int q0), .val (.int c0), .val (.int c1), .val (.int c2)] [(.int c1), (.int (1 : Int32)), (.ref sd), (.ref sd), (.ref sr), (.ref sr)])) rfl rfl (hb hby d1_65)
        have nr16 : nar .char c1 = c1 := own_nch _ (hch1)
        have ft16 : fits .char (.int c1) = true := nr16 ▸ (fits_nar_char c1 : fits .char (.int (nar .char c1)) = true)
        rw [nr16] at W16
        have E_sr := E_sr.wr W16
        have F_value_sr := F_value_sr.other W16 (Or.inl ne_sr_sd)
        have F_coder_sr := F_coder_sr.other W16 (Or.inl ne_sr_sd)
        have E_sd := E_sd.wr W16
        have Z16 : n0 ≤ h16.size := Nat.le_trans Z15 (Keep.of_wr W16).1
        have O := O.wr W16 g_sd
        have SFo := SF_sd
        have SF_sr := Safe.wr W16 SFo H SF_sr
        have SF_sd := Safe.wr W16 SFo H SF_sd
        have CR := CR.trans (CHr.wr W16 SFo H)
        have H := H.wr W16 SFo
        have hk := Nat.le_trans hk (Keep.of_wr W16).1
        have V_sd : Arv Z h16 sd k14 .char (3 : Int32) [(.int c0), (.int c1), (.int (0 : Int32))] (.int (0 : Int32)) := Arv.set Ar16 q16 Sz16 Ng16 Hs16 Ft16 ft16 W16 1 rfl (Nat.le_of_ble_eq_true rfl)
        have K16 := K15.wr W16 (Or.inr sz_sd)
        have N16 := Fr.snoc X16 N15 g_sd
        refine GoesW.pre (U' := T16.setTop (mkF m 69 #[.val (.int q0), .val (.int c0), .val (.int c1), .val (.int c2)] [(.int c2), (.int (2 : Int32)), (.ref sd), (.ref sd), (.ref sr), (.ref sr)])) (fun t k => st16 t (XS.dup X16.here hx rfl (hb hby d1_66) rfl rfl (XS.iconst X16.here hx rfl (hb hby d1_67) (XS.iloadN X16.here hx rfl (hb hby d1_68) rfl k)))) ?_
        obtain ⟨cl17, Ar17, q17, Sz17, Ng17, Hs17, Ft17⟩ := id V_sd
        obtain ⟨T17, h17, X17, e17, W17, st17⟩ := stC X16 hx hZ e16 Ar17 (j := (2 : Int32)) (inb_of Sz17 ⟨by decide, by decide⟩) (g := (mkF m 69 #[.val (.int q0), .val (.int c0), .val (.int c1), .val (.int c2)] [(.int c2), (.int (2 : Int32)), (.ref sd), (.ref sd), (.ref sr), (.ref sr)])) rfl rfl (hb hby d1_69)
        have nr17 : nar .char c2 = c2 := own_nch _ (hch2)
        have ft17 : fits .char (.int c2) = true := nr17 ▸ (fits_nar_char c2 : fits .char (.int (nar .char c2)) = true)
        rw [nr17] at W17
        have E_sr := E_sr.wr W17
        have F_value_sr := F_value_sr.other W17 (Or.inl ne_sr_sd)
        have F_coder_sr := F_coder_sr.other W17 (Or.inl ne_sr_sd)
        have E_sd := E_sd.wr W17
        have Z17 : n0 ≤ h17.size := Nat.le_trans Z16 (Keep.of_wr W17).1
        have O := O.wr W17 g_sd
        have SFo := SF_sd
        have SF_sr := Safe.wr W17 SFo H SF_sr
        have SF_sd := Safe.wr W17 SFo H SF_sd
        have CR := CR.trans (CHr.wr W17 SFo H)
        have H := H.wr W17 SFo
        have hk := Nat.le_trans hk (Keep.of_wr W17).1
        have V_sd : Arv Z h17 sd k14 .char (3 : Int32) [(.int c0), (.int c1), (.int c2)] (.int (0 : Int32)) := Arv.set Ar17 q17 Sz17 Ng17 Hs17 Ft17 ft17 W17 2 rfl (Nat.le_of_ble_eq_true rfl)
        have K17 := K16.wr W17 (Or.inr sz_sd)
        have N17 := Fr.snoc X17 N16 g_sd
        refine GoesW.pre (U' := T17.setTop (mkF m 70 #[.val (.int q0), .val (.int c0), .val (.int c1), .val (.int c2)] [(.ref sd), (.ref sr), (.ref sr)])) (fun t k => st17 t k) ?_
        have lt_sd := E_sd.lt
        have lt_sr := E_sr.lt
        obtain ⟨_, _, ⟨T18, L18, k18, n18⟩, -, X18, ⟨Lc18, hQ18, l18, y18, z18⟩, st18⟩ := X17.specialBack hx (y := (⟨"java/lang/String", "<init>", "([C)V"⟩ : MethodName)) rfl hown (mvT hZ (wq hw 29 rfl)) (mvT hZ (wq hw 30 rfl)) (mvT hZ (wq hw 31 rfl)) (by decide) (backOf (W := 1) (rm_init1G l Z a0 hw [] sr sd k14 ([c0, c1, c2]) cs h17 n0 Z17 E_sr F_value_sr F_coder_sr V_sd S_COMPACT_STRINGS S__assertionsDisabled S_HI_BYTE_SHIFT S_LO_BYTE_SHIFT (Nat.le_of_ble_eq_true rfl) (own_cA (hch0) (own_cA (hch1) (own_cA (hch2) own_cN))) (by simp) hcs ne_sd_sr g_sr O) hZ (wq hw 31 rfl) (wq hw 5 rfl) (by decide) (by decide)) (g := (mkF m 70 #[.val (.int q0), .val (.int c0), .val (.int c1), .val (.int c2)] [(.ref sd), (.ref sr), (.ref sr)])) rfl (by rw [hml]; rfl) (Steps.refl _) (a := sr) (argsL := [(.ref sd)]) (rest := [(.ref sr)]) (lenOf pd__28_5bC_29V rfl) rfl (by show 2 * 0 + _ ≤ _; exact Nat.le_of_eq rfl) (hb hby d1_70) (fun _ _ => ⟨rfl, e17, (by decide : 2 + 2 ≤ _), (by decide : 7 + 9 ≤ _)⟩)
        dsimp only [Pt.U, Pt.locs, Pt.cells, Pt.slots] at X18 l18 y18 z18 st18 hQ18
        subst l18 y18 z18
        obtain ⟨b18, kb18, rfl, N18q, KQ18, fo0_18, g_b18, sl_b18⟩ := hQ18
        have N18 := Fr.app N17 N18q
        have E_sr := E_sr.keep KQ18
        have E_sd := E_sd.keep KQ18
        have V_sd := V_sd.keep KQ18 (ninS ne_sd_sr nin0)
        have Z19 : n0 ≤ T18.heap.size := Nat.le_trans Z17 KQ18.1
        have O := O.keep KQ18 (allS (P := fun x => n0 ≤ x) g_sr all0)
        have hsafe := (allS (P := fun x => Safe Z own_EL s.vm _ x) SF_sr all0)
        have SF_sr := Safe.keep KQ18 hsafe H SF_sr
        have SF_sd := Safe.keep KQ18 hsafe H SF_sd
        have CR := CR.trans (CHr.keep KQ18 hsafe H)
        have H := H.keep KQ18 hsafe
        have hk := Nat.le_trans hk KQ18.1
        have K19 := K17.trans KQ18 (allS (P := fun x => x ∈ [] ∨ h0.size ≤ x) (Or.inr sz_sr) all0)
        have ne_sd_b18 : sd ≠ b18 := Nat.ne_of_lt (Nat.lt_of_lt_of_le lt_sd sl_b18)
        have ne_b18_sd := ne_sd_b18.symm
        have ne_sr_b18 : sr ≠ b18 := Nat.ne_of_lt (Nat.lt_of_lt_of_le lt_sr sl_b18)
        have ne_b18_sr := ne_sr_b18.symm
        have sz_b18 : h0.size ≤ b18 := Nat.le_trans K17.1 sl_b18
        have S_sr := fo0_18
        refine GoesW.pre (U' := T18.setTop (mkF m 73 #[.val (.int q0), .val (.int c0), .val (.int c1), .val (.int c2)] [(.ref sr)])) (fun t k => st18.trans k) ?_
        refine GoesW.ret X18 hZ hEL hS hk H CR (v := (some (.ref sr))) (fun h => by rw [hret] at h; cases h) hlk (by decide) (by decide) rfl (fun fs hr => retOut X18 hx hret rfl (Or.inr (Or.inr (Or.inr (Or.inr ⟨rfl, rfl, rfl⟩)))) (hb hby d1_73) hr) ?_
        have eM : own_mk q0 c0 c1 c2 = [c0, c1, c2] := by simp [own_mk, hc1, hc9, hc29]
        rw [← eM] at S_sr
        exact ⟨sr, b18, kb18, rfl, N18, K19, S_sr⟩
theorem own_minl (a b : Int32) (i : Int32) (h : i < own_min a b) : i < a ∧ i < b := by
  unfold own_min at h
  rw [Int32.lt_iff_toInt_lt, Int32.lt_iff_toInt_lt]
  split at h <;> rename_i q <;> rw [Int32.lt_iff_toInt_lt] at h q <;> omega
theorem own_min3 (a b : List Int32) (ha : a.length ≤ 3) : ¬ ((3 : Int32) < own_min (Int32.ofNat a.length) (Int32.ofNat b.length)) := fun h => by
  have q := (own_minl _ _ _ h).1
  rw [Int32.lt_iff_toInt_lt, own_ofn a.length (by omega)] at q
  have k : (3 : Int32).toInt = 3 := by decide
  omega
theorem ef_rm_cmpS (m : MethodId) (x0 : Addr) (x1 : Addr) : entryFrame m #[(.ref x0), (.ref x1)] 6 = mkF m 0 #[.val (.ref x0), .val (.ref x1), .unset, .unset, .unset, .unset] [] := by first | (simp [entryFrame, mkF, argsToLocals, Value.category]; done) | rfl
abbrev M2 : MethodName := ⟨"com/example/known_paths/knownpaths/item/CodePointOrder", "compare", "(Ljava/lang/String;Ljava/lang/String;)I"⟩
theorem d2_0 : decode prog_5_method_2_code 0 = .ok (.aload_n 0, 1) := by decide +kernel
theorem d2_1 : decode prog_5_method_2_code 1 = .ok (.aload_n 1, 1) := by decide +kernel
theorem d2_2 : decode prog_5_method_2_code 2 = .ok (.invokevirtual 7, 3) := by decide +kernel
theorem pd__28Ljava_2flang_2fObject_3b_29Z : parseMethodDescriptor "(Ljava/lang/Object;)Z" = some ⟨[(.object "java/lang/Object")], some .boolean⟩ := by decide +kernel
theorem d2_5 : decode prog_5_method_2_code 5 = .ok (.ifCond .eq 5, 3) := by decide +kernel
theorem d2_10 : decode prog_5_method_2_code 10 = .ok (.aload_n 0, 1) := by decide +kernel
theorem d2_11 : decode prog_5_method_2_code 11 = .ok (.invokevirtual 13, 3) := by decide +kernel
theorem pd__28_29I : parseMethodDescriptor "()I" = some ⟨[], some .int⟩ := by decide +kernel
theorem d2_14 : decode prog_5_method_2_code 14 = .ok (.aload_n 1, 1) := by decide +kernel
theorem d2_15 : decode prog_5_method_2_code 15 = .ok (.invokevirtual 13, 3) := by decide +kernel
theorem d2_18 : decode prog_5_method_2_code 18 = .ok (.invokestatic 17, 3) := by decide +kernel
theorem pd__28II_29I : parseMethodDescriptor "(II)I" = some ⟨[.int, .int], some .int⟩ := by decide +kernel
theorem d2_21 : decode prog_5_method_2_code 21 = .ok (.istore_n 2, 1) := by decide +kernel
theorem d2_22 : decode prog_5_method_2_code 22 = .ok (.iconst 0, 1) := by decide +kernel
theorem d2_23 : decode prog_5_method_2_code 23 = .ok (.istore_n 3, 1) := by decide +kernel
theorem d2_24 : decode prog_5_method_2_code 24 = .ok (.iload_n 3, 1) := by decide +kernel
theorem d2_25 : decode prog_5_method_2_code 25 = .ok (.iload_n 2, 1) := by decide +kernel
theorem d2_26 : decode prog_5_method_2_code 26 = .ok (.if_icmp .ge 42, 3) := by decide +kernel
theorem d2_29 : decode prog_5_method_2_code 29 = .ok (.aload_n 0, 1) := by decide +kernel
theorem d2_30 : decode prog_5_method_2_code 30 = .ok (.iload_n 3, 1) := by decide +kernel
theorem d2_31 : decode prog_5_method_2_code 31 = .ok (.invokevirtual 23, 3) := by decide +kernel
theorem pd__28I_29C : parseMethodDescriptor "(I)C" = some ⟨[.int], some .char⟩ := by decide +kernel
theorem d2_34 : decode prog_5_method_2_code 34 = .ok (.istore 4, 2) := by decide +kernel
theorem d2_36 : decode prog_5_method_2_code 36 = .ok (.aload_n 1, 1) := by decide +kernel
theorem d2_37 : decode prog_5_method_2_code 37 = .ok (.iload_n 3, 1) := by decide +kernel
theorem d2_38 : decode prog_5_method_2_code 38 = .ok (.invokevirtual 23, 3) := by decide +kernel
theorem d2_41 : decode prog_5_method_2_code 41 = .ok (.istore 5, 2) := by decide +kernel
theorem d2_43 : decode prog_5_method_2_code 43 = .ok (.iload 4, 2) := by decide +kernel
theorem d2_45 : decode prog_5_method_2_code 45 = .ok (.iload 5, 2) := by decide +kernel
theorem d2_47 : decode prog_5_method_2_code 47 = .ok (.if_icmp .eq 15, 3) := by decide +kernel
theorem d2_62 : decode prog_5_method_2_code 62 = .ok (.iinc 3 1, 3) := by decide +kernel
theorem d2_65 : decode prog_5_method_2_code 65 = .ok (.goto (-41), 3) := by decide +kernel
theorem d2_68 : decode prog_5_method_2_code 68 = .ok (.aload_n 0, 1) := by decide +kernel
theorem d2_69 : decode prog_5_method_2_code 69 = .ok (.invokevirtual 13, 3) := by decide +kernel
theorem d2_72 : decode prog_5_method_2_code 72 = .ok (.aload_n 1, 1) := by decide +kernel
theorem d2_73 : decode prog_5_method_2_code 73 = .ok (.invokevirtual 13, 3) := by decide +kernel
theorem d2_76 : decode prog_5_method_2_code 76 = .ok (.isub, 1) := by decide +kernel
theorem d2_77 : decode prog_5_method_2_code 77 = .ok (.ireturn, 1) := by decide +kernel
theorem d2_50 : decode prog_5_method_2_code 50 = .ok (.iload 4, 2) := by decide +kernel
theorem d2_52 : decode prog_5_method_2_code 52 = .ok (.invokestatic 27, 3) := by decide +kernel
theorem d2_55 : decode prog_5_method_2_code 55 = .ok (.iload 5, 2) := by decide +kernel
theorem d2_57 : decode prog_5_method_2_code 57 = .ok (.invokestatic 27, 3) := by decide +kernel
theorem d2_60 : decode prog_5_method_2_code 60 = .ok (.isub, 1) := by decide +kernel
theorem d2_61 : decode prog_5_method_2_code 61 = .ok (.ireturn, 1) := by decide +kernel
theorem d2_8 : decode prog_5_method_2_code 8 = .ok (.iconst 0, 1) := by decide +kernel
theorem d2_9 : decode prog_5_method_2_code 9 = .ok (.ireturn, 1) := by decide +kernel
def own_cmp (ev : Int32) (cl dl : List Int32) : Int32 := (if ev = (0 : Int32) then (if (0 : Int32) < (own_min (Int32.ofNat cl.length) (Int32.ofNat dl.length)) then (if (cl.getD (0 : Int32).toNatClampNeg 0) = (dl.getD (0 : Int32).toNatClampNeg 0) then (if (1 : Int32) < (own_min (Int32.ofNat cl.length) (Int32.ofNat dl.length)) then (if (cl.getD (1 : Int32).toNatClampNeg 0) = (dl.getD (1 : Int32).toNatClampNeg 0) then (if (2 : Int32) < (own_min (Int32.ofNat cl.length) (Int32.ofNat dl.length)) then (if (cl.getD (2 : Int32).toNatClampNeg 0) = (dl.getD (2 : Int32).toNatClampNeg 0) then ((Int32.ofNat cl.length) - (Int32.ofNat dl.length)) else ((own_rank (cl.getD (2 : Int32).toNatClampNeg 0)) - (own_rank (dl.getD (2 : Int32).toNatClampNeg 0)))) else ((Int32.ofNat cl.length) - (Int32.ofNat dl.length))) else ((own_rank (cl.getD (1 : Int32).toNatClampNeg 0)) - (own_rank (dl.getD (1 : Int32).toNatClampNeg 0)))) else ((Int32.ofNat cl.length) - (Int32.ofNat dl.length))) else ((own_rank (cl.getD (0 : Int32).toNatClampNeg 0)) - (own_rank (dl.getD (0 : Int32).toNatClampNeg 0)))) else ((Int32.ofNat cl.length) - (Int32.ofNat dl.length))) else (0 : Int32))
def Q_rm_cmpS (Z : State) (a : Addr) (b : Addr) (ka : ClassId) (cl : List Int32) (d : Addr) (f : Addr) (kf : ClassId) (dl : List Int32) (cs : Int32) (sf : Value) (h0 : Heap) (n0 : Nat) (v : Option Value) (h : Heap) (L : List Loc) : Prop := ∃ (ev : Int32), v = some (.int (own_cmp ev cl dl)) ∧ Fr n0 L ∧ h = h0 ∧ (¬ (ev = (0 : Int32)) → cl = dl)
set_option maxRecDepth 65536 in
set_option maxHeartbeats 40000000 in
theorem rm_cmpS (l : Launch) (Z : State) (a0 : Array Value) (hw : ∀ d ∈ tables_1, d.before a0 Z = true) (ws : List Jvm.Cond) (a : Addr) (b : Addr) (ka : ClassId) (cl : List Int32) (d : Addr) (f : Addr) (kf : ClassId) (dl : List Int32) (cs : Int32) (sf : Value) (h0 : Heap) (n0 : Nat) (Z0 : n0 ≤ h0.size) (S_a : OwnStr Z h0 a b ka cl) (S_d : OwnStr Z h0 d f kf dl) (S_COMPACT_STRINGS : Sta Z Z.heap "java/lang/String" "COMPACT_STRINGS" "Z" (.int cs)) (S__assertionsDisabled : Sta Z Z.heap "java/lang/StringUTF16" "$assertionsDisabled" "Z" (.int (1 : Int32))) (S_HI_BYTE_SHIFT : Sta Z Z.heap "java/lang/StringUTF16" "HI_BYTE_SHIFT" "I" (.int (0 : Int32))) (S_LO_BYTE_SHIFT : Sta Z Z.heap "java/lang/StringUTF16" "LO_BYTE_SHIFT" "I" (.int (8 : Int32))) (S_SIOOBE_FORMATTER : Sta Z Z.heap "jdk/internal/util/Preconditions" "SIOOBE_FORMATTER" "Ljava/util/function/BiFunction;" sf) (hl1 : cl.length ≤ 3) (hl2 : dl.length ≤ 3) (hcs : ¬ (cs = (0 : Int32))) (hsf : sf.isRef = true) (O : Old Z n0 h0) :
    Met l Z M2 prog_5_method_2_code 6 (some .int) ws (Rm 5 0 0 66) #[(.ref a), (.ref d)] h0 (Q_rm_cmpS Z a b ka cl d f kf dl cs sf h0 n0) := by
  refine met_of (plainFor_of_name pn_com_example_known_paths_knownpaths_item_CodePointOrder) (own := "com/example/known_paths/knownpaths/item/CodePointOrder") rfl (fun m => ef_rm_cmpS m a d) ?_
  intro p e s m below meth c s₁ hx hby hml hown hnm hZ X0 e0 hret hlk
  have N0 := Fr.nil n0
  show Goes p e below s _ _ _ (s₁.setTop (mkF m 0 #[.val (.ref a), .val (.ref d), .unset, .unset, .unset, .unset] []))
  refine Goes.pre (U' := s₁.setTop (mkF m 2 #[.val (.ref a), .val (.ref d), .unset, .unset, .unset, .unset] [(.ref d), (.ref a)])) (fun t k => XS.aloadN X0.here hx rfl (hb hby d2_0) rfl rfl (XS.aloadN X0.here hx rfl (hb hby d2_1) rfl rfl k)) ?_
  obtain ⟨cq1, kq1, q1a, q1b, q1c⟩ := isOf hZ e0 S_a.1
  obtain ⟨_, _, ⟨T1, L1, k1, n1⟩, -, X1, ⟨Lc1, hQ1, l1, y1, z1⟩, st1⟩ := X0.virtualBack hx (y := (⟨"java/lang/String", "equals", "(Ljava/lang/Object;)Z"⟩ : MethodName)) (z := (⟨"java/lang/String", "equals", "(Ljava/lang/Object;)Z"⟩ : MethodName)) hown (mvT hZ (wq hw 16 rfl)) (mvT hZ (wq hw 17 rfl)) (notFace_of_selects (args := #[]) (mvT hZ (wq hw 19 rfl))) (mvT hZ (wq hw 19 rfl)) (mvT hZ (wq hw 18 rfl)) (by decide) (backOf (W := 0) (rm_eqS l Z a0 hw [] a b ka cl d f kf dl cs h0 n0 Z0 S_a S_d S_COMPACT_STRINGS hl1 hl2 hcs O) hZ (wq hw 20 rfl) (wq hw 5 rfl) (by decide) (by decide)) q1a q1c (g := (mkF m 2 #[.val (.ref a), .val (.ref d), .unset, .unset, .unset, .unset] [(.ref d), (.ref a)])) rfl (by rw [hml]; rfl) (Steps.refl _) (argsL := [(.ref d)]) (rest := []) (lenOf pd__28Ljava_2flang_2fObject_3b_29Z rfl) rfl (by show 2 * 0 + _ ≤ _; exact Nat.le_of_eq rfl) (hb hby d2_2) (fun _ _ => ⟨rfl, e0, (by decide : 0 + 0 ≤ _), (by decide : 0 + 0 ≤ _)⟩)
  dsimp only [Pt.U, Pt.locs, Pt.cells, Pt.slots] at X1 l1 y1 z1 st1 hQ1
  subst l1 y1 z1
  obtain ⟨ev, rfl, N1q, HQ1, hx1⟩ := hQ1
  have N1 := Fr.app N0 N1q
  refine Goes.pre (U' := T1.setTop (mkF m 5 #[.val (.ref a), .val (.ref d), .unset, .unset, .unset, .unset] [(.int ev)])) (fun t k => st1.trans k) ?_
  by_cases hc5 : ev = (0 : Int32)
  ·
    refine Goes.pre (U' := T1.setTop (mkF m 11 #[.val (.ref a), .val (.ref d), .unset, .unset, .unset, .unset] [(.ref a)])) (fun t k => XS.ifYes X1.here hx rfl (pc0 := 5) (pc' := 10) rfl (hb hby d2_5) rfl ((if0 _ _).trans (teq hc5).1) (by decide) (by decide) (XS.aloadN X1.here hx rfl (hb hby d2_10) rfl rfl k)) ?_
    obtain ⟨cq2, kq2, q2a, q2b, q2c⟩ := isOf hZ HQ1 S_a.1
    obtain ⟨_, _, ⟨T2, L2, k2, n2⟩, -, X2, ⟨Lc2, hQ2, l2, y2, z2⟩, st2⟩ := X1.virtualBack hx (y := (⟨"java/lang/String", "length", "()I"⟩ : MethodName)) (z := (⟨"java/lang/String", "length", "()I"⟩ : MethodName)) hown (mvT hZ (wq hw 57 rfl)) (mvT hZ (wq hw 58 rfl)) (notFace_of_selects (args := #[]) (mvT hZ (wq hw 60 rfl))) (mvT hZ (wq hw 60 rfl)) (mvT hZ (wq hw 59 rfl)) (by decide) (backOf (W := 0) (rm_len l Z a0 hw [] a b ka cl cs h0 n0 Z0 S_a S_COMPACT_STRINGS hcs (Nat.le_trans hl1 (by decide)) O) hZ (wq hw 61 rfl) (wq hw 5 rfl) (by decide) (by decide)) q2a q2c (g := (mkF m 11 #[.val (.ref a), .val (.ref d), .unset, .unset, .unset, .unset] [(.ref a)])) rfl (by rw [hml]; rfl) (Steps.refl _) (argsL := []) (rest := []) (lenOf pd__28_29I rfl) rfl (by show 2 * 0 + _ ≤ _; exact Nat.le_of_eq rfl) (hb hby d2_11) (fun _ _ => ⟨rfl, HQ1, (by decide : 0 + 0 ≤ _), (by decide : 0 + 0 ≤ _)⟩)
    dsimp only [Pt.U, Pt.locs, Pt.cells, Pt.slots] at X2 l2 y2 z2 st2 hQ2
    subst l2 y2 z2
    obtain ⟨rfl, N2q, HQ2⟩ := hQ2
    have N2 := Fr.app N1 N2q
    refine Goes.pre (U' := T2.setTop (mkF m 15 #[.val (.ref a), .val (.ref d), .unset, .unset, .unset, .unset] [(.ref d), (.int (Int32.ofNat cl.length))])) (fun t k => st2.trans (XS.aloadN X2.here hx rfl (hb hby d2_14) rfl rfl k)) ?_
    obtain ⟨cq3, kq3, q3a, q3b, q3c⟩ := isOf hZ HQ2 S_d.1
    obtain ⟨_, _, ⟨T3, L3, k3, n3⟩, -, X3, ⟨Lc3, hQ3, l3, y3, z3⟩, st3⟩ := X2.virtualBack hx (y := (⟨"java/lang/String", "length", "()I"⟩ : MethodName)) (z := (⟨"java/lang/String", "length", "()I"⟩ : MethodName)) hown (mvT hZ (wq hw 57 rfl)) (mvT hZ (wq hw 58 rfl)) (notFace_of_selects (args := #[]) (mvT hZ (wq hw 60 rfl))) (mvT hZ (wq hw 60 rfl)) (mvT hZ (wq hw 59 rfl)) (by decide) (backOf (W := 1) (rm_len l Z a0 hw [] d f kf dl cs h0 n0 Z0 S_d S_COMPACT_STRINGS hcs (Nat.le_trans hl2 (by decide)) O) hZ (wq hw 61 rfl) (wq hw 5 rfl) (by decide) (by decide)) q3a q3c (g := (mkF m 15 #[.val (.ref a), .val (.ref d), .unset, .unset, .unset, .unset] [(.ref d), (.int (Int32.ofNat cl.length))])) rfl (by rw [hml]; rfl) (Steps.refl _) (argsL := []) (rest := [(.int (Int32.ofNat cl.length))]) (lenOf pd__28_29I rfl) rfl (by show 2 * 0 + _ ≤ _; exact Nat.le_of_eq rfl) (hb hby d2_15) (fun _ _ => ⟨rfl, HQ2, (by decide : 0 + 0 ≤ _), (by decide : 0 + 0 ≤ _)⟩)
    dsimp only [Pt.U, Pt.locs, Pt.cells, Pt.slots] at X3 l3 y3 z3 st3 hQ3
    subst l3 y3 z3
    obtain ⟨rfl, N3q, HQ3⟩ := hQ3
    have N3 := Fr.app N2 N3q
    refine Goes.pre (U' := T3.setTop (mkF m 18 #[.val (.ref a), .val (.ref d), .unset, .unset, .unset, .unset] [(.int (Int32.ofNat dl.length)), (.int (Int32.ofNat cl.length))])) (fun t k => st3.trans k) ?_
    obtain ⟨_, _, ⟨T4, L4, k4, n4⟩, -, X4, ⟨Lc4, hQ4, l4, y4, z4⟩, st4⟩ := Jvm.LawKit.callS X3 hx (y := (⟨"java/lang/Math", "min", "(II)I"⟩ : MethodName)) hown (mvT hZ (wq hw 67 rfl)) (mvT hZ (wq hw 68 rfl)) (mvT hZ (wq hw 69 rfl)) (mvT hZ (wq hw 70 rfl)) (by decide) (backOf (W := 0) (rm_min l Z a0 hw [] (Int32.ofNat cl.length) (Int32.ofNat dl.length) h0 n0 Z0) hZ (wq hw 70 rfl) (wq hw 69 rfl) (by decide) (by decide)) (g := (mkF m 18 #[.val (.ref a), .val (.ref d), .unset, .unset, .unset, .unset] [(.int (Int32.ofNat dl.length)), (.int (Int32.ofNat cl.length))])) rfl (by rw [hml]; rfl) (argsL := [(.int (Int32.ofNat cl.length)), (.int (Int32.ofNat dl.length))]) (rest := []) (lenOf pd__28II_29I rfl) rfl (by show 2 * 0 + _ ≤ _; exact Nat.le_of_eq rfl) (hb hby d2_18) (fun _ _ => ⟨rfl, HQ3, (by decide : 0 + 0 ≤ _), (by decide : 0 + 0 ≤ _)⟩)
    dsimp only [Pt.U, Pt.locs, Pt.cells, Pt.slots] at X4 l4 y4 z4 st4 hQ4
    subst l4 y4 z4
    obtain ⟨rfl, N4q, HQ4⟩ := hQ4
    have N4 := Fr.app N3 N4q
    refine Goes.pre (U' := T4.setTop (mkF m 26 #[.val (.ref a), .val (.ref d), .val (.int (own_min (Int32.ofNat cl.length) (Int32.ofNat dl.length))), .val (.int (0 : Int32)), .unset, .unset] [(.int (own_min (Int32.ofNat cl.length) (Int32.ofNat dl.length))), (.int (0 : Int32))])) (fun t k => st4 t (XS.istoreN X4.here hx rfl (hb hby d2_21) rfl (l' := #[.val (.ref a), .val (.ref d), .val (.int (own_min (Int32.ofNat cl.length) (Int32.ofNat dl.length))), .unset, .unset, .unset]) rfl (XS.iconst X4.here hx rfl (hb hby d2_22) (XS.istoreN X4.here hx rfl (hb hby d2_23) rfl (l' := #[.val (.ref a), .val (.ref d), .val (.int (own_min (Int32.ofNat cl.length) (Int32.ofNat dl.length))), .val (.int (0 : Int32)), .unset, .unset]) rfl (XS.iloadN X4.here hx rfl (hb hby d2_24) rfl (XS.iloadN X4.here hx rfl (hb hby d2_25) rfl k)))))) ?_
    by_cases hc26 : (0 : Int32) < (own_min (Int32.ofNat cl.length) (Int32.ofNat dl.length))
    ·
      refine Goes.pre (U' := T4.setTop (mkF m 31 #[.val (.ref a), .val (.ref d), .val (.int (own_min (Int32.ofNat cl.length) (Int32.ofNat dl.length))), .val (.int (0 : Int32)), .unset, .unset] [(.int (0 : Int32)), (.ref a)])) (fun t k => XS.icmpNo X4.here hx rfl (hb hby d2_26) rfl (tlt hc26).2.1 (XS.aloadN X4.here hx rfl (hb hby d2_29) rfl rfl (XS.iloadN X4.here hx rfl (hb hby d2_30) rfl k))) ?_
      obtain ⟨cq5, kq5, q5a, q5b, q5c⟩ := isOf hZ HQ4 S_a.1
      obtain ⟨_, _, ⟨T5, L5, k5, n5⟩, -, X5, ⟨Lc5, hQ5, l5, y5, z5⟩, st5⟩ := X4.virtualBack hx (y := (⟨"java/lang/String", "charAt", "(I)C"⟩ : MethodName)) (z := (⟨"java/lang/String", "charAt", "(I)C"⟩ : MethodName)) hown (mvT hZ (wq hw 71 rfl)) (mvT hZ (wq hw 72 rfl)) (notFace_of_selects (args := #[]) (mvT hZ (wq hw 74 rfl))) (mvT hZ (wq hw 74 rfl)) (mvT hZ (wq hw 73 rfl)) (by decide) (backOf (W := 0) (rm_chG l Z a0 hw [] a b ka cl (0 : Int32) cs sf h0 n0 Z0 S_a S_COMPACT_STRINGS S__assertionsDisabled S_HI_BYTE_SHIFT S_LO_BYTE_SHIFT S_SIOOBE_FORMATTER (by decide) (own_minl _ _ _ hc26).1 (Nat.le_trans hl1 (by decide)) hcs hsf O) hZ (wq hw 75 rfl) (wq hw 5 rfl) (by decide) (by decide)) q5a q5c (g := (mkF m 31 #[.val (.ref a), .val (.ref d), .val (.int (own_min (Int32.ofNat cl.length) (Int32.ofNat dl.length))), .val (.int (0 : Int32)), .unset, .unset] [(.int (0 : Int32)), (.ref a)])) rfl (by rw [hml]; rfl) (Steps.refl _) (argsL := [(.int (0 : Int32))]) (rest := []) (lenOf pd__28I_29C rfl) rfl (by show 2 * 0 + _ ≤ _; exact Nat.le_of_eq rfl) (hb hby d2_31) (fun _ _ => ⟨rfl, HQ4, (by decide : 0 + 0 ≤ _), (by decide : 0 + 0 ≤ _)⟩)
      dsimp only [Pt.U, Pt.locs, Pt.cells, Pt.slots] at X5 l5 y5 z5 st5 hQ5
      subst l5 y5 z5
      obtain ⟨rfl, N5q, HQ5⟩ := hQ5
      have N5 := Fr.app N4 N5q
      refine Goes.pre (U' := T5.setTop (mkF m 38 #[.val (.ref a), .val (.ref d), .val (.int (own_min (Int32.ofNat cl.length) (Int32.ofNat dl.length))), .val (.int (0 : Int32)), .val (.int (cl.getD (0 : Int32).toNatClampNeg 0)), .unset] [(.int (0 : Int32)), (.ref d)])) (fun t k => st5.trans (XS.istore X5.here hx rfl (hb hby d2_34) rfl (l' := #[.val (.ref a), .val (.ref d), .val (.int (own_min (Int32.ofNat cl.length) (Int32.ofNat dl.length))), .val (.int (0 : Int32)), .val (.int (cl.getD (0 : Int32).toNatClampNeg 0)), .unset]) rfl (XS.aloadN X5.here hx rfl (hb hby d2_36) rfl rfl (XS.iloadN X5.here hx rfl (hb hby d2_37) rfl k)))) ?_
      obtain ⟨cq6, kq6, q6a, q6b, q6c⟩ := isOf hZ HQ5 S_d.1
      obtain ⟨_, _, ⟨T6, L6, k6, n6⟩, -, X6, ⟨Lc6, hQ6, l6, y6, z6⟩, st6⟩ := X5.virtualBack hx (y := (⟨"java/lang/String", "charAt", "(I)C"⟩ : MethodName)) (z := (⟨"java/lang/String", "charAt", "(I)C"⟩ : MethodName)) hown (mvT hZ (wq hw 71 rfl)) (mvT hZ (wq hw 72 rfl)) (notFace_of_selects (args := #[]) (mvT hZ (wq hw 74 rfl))) (mvT hZ (wq hw 74 rfl)) (mvT hZ (wq hw 73 rfl)) (by decide) (backOf (W := 0) (rm_chG l Z a0 hw [] d f kf dl (0 : Int32) cs sf h0 n0 Z0 S_d S_COMPACT_STRINGS S__assertionsDisabled S_HI_BYTE_SHIFT S_LO_BYTE_SHIFT S_SIOOBE_FORMATTER (by decide) (own_minl _ _ _ hc26).2 (Nat.le_trans hl2 (by decide)) hcs hsf O) hZ (wq hw 75 rfl) (wq hw 5 rfl) (by decide) (by decide)) q6a q6c (g := (mkF m 38 #[.val (.ref a), .val (.ref d), .val (.int (own_min (Int32.ofNat cl.length) (Int32.ofNat dl.length))), .val (.int (0 : Int32)), .val (.int (cl.getD (0 : Int32).toNatClampNeg 0)), .unset] [(.int (0 : Int32)), (.ref d)])) rfl (by rw [hml]; rfl) (Steps.refl _) (argsL := [(.int (0 : Int32))]) (rest := []) (lenOf pd__28I_29C rfl) rfl (by show 2 * 0 + _ ≤ _; exact Nat.le_of_eq rfl) (hb hby d2_38) (fun _ _ => ⟨rfl, HQ5, (by decide : 0 + 0 ≤ _), (by decide : 0 + 0 ≤ _)⟩)
      dsimp only [Pt.U, Pt.locs, Pt.cells, Pt.slots] at X6 l6 y6 z6 st6 hQ6
      subst l6 y6 z6
      obtain ⟨rfl, N6q, HQ6⟩ := hQ6
      have N6 := Fr.app N5 N6q
      refine Goes.pre (U' := T6.setTop (mkF m 47 #[.val (.ref a), .val (.ref d), .val (.int (own_min (Int32.ofNat cl.length) (Int32.ofNat dl.length))), .val (.int (0 : Int32)), .val (.int (cl.getD (0 : Int32).toNatClampNeg 0)), .val (.int (dl.getD (0 : Int32).toNatClampNeg 0))] [(.int (dl.getD (0 : Int32).toNatClampNeg 0)), (.int (cl.getD (0 : Int32).toNatClampNeg 0))])) (fun t k => st6.trans (XS.istore X6.here hx rfl (hb hby d2_41) rfl (l' := #[.val (.ref a), .val (.ref d), .val (.int (own_min (Int32.ofNat cl.length) (Int32.ofNat dl.length))), .val (.int (0 : Int32)), .val (.int (cl.getD (0 : Int32).toNatClampNeg 0)), .val (.int (dl.getD (0 : Int32).toNatClampNeg 0))]) rfl (XS.iload X6.here hx rfl (hb hby d2_43) rfl (XS.iload X6.here hx rfl (hb hby d2_45) rfl k)))) ?_
      by_cases hc47 : (cl.getD (0 : Int32).toNatClampNeg 0) = (dl.getD (0 : Int32).toNatClampNeg 0)
      ·
        refine Goes.pre (U' := T6.setTop (mkF m 65 #[.val (.ref a), .val (.ref d), .val (.int (own_min (Int32.ofNat cl.length) (Int32.ofNat dl.length))), .val (.int ((0 : Int32) + (1 : Int32))), .val (.int (cl.getD (0 : Int32).toNatClampNeg 0)), .val (.int (dl.getD (0 : Int32).toNatClampNeg 0))] [])) (fun t k => XS.icmpYes X6.here hx rfl (pc0 := 47) (pc' := 62) rfl (hb hby d2_47) rfl (teq hc47).1 (by decide) (by decide) (XT.iincV X6.here hx rfl (1 : Int32) (hb hby d2_62) (by decide) rfl (l' := #[.val (.ref a), .val (.ref d), .val (.int (own_min (Int32.ofNat cl.length) (Int32.ofNat dl.length))), .val (.int ((0 : Int32) + (1 : Int32))), .val (.int (cl.getD (0 : Int32).toNatClampNeg 0)), .val (.int (dl.getD (0 : Int32).toNatClampNeg 0))]) rfl k)) ?_
        rw [(by decide : ((0 : Int32) + (1 : Int32)) = (1 : Int32))]
        refine Goes.pre (U' := T6.setTop (mkF m 26 #[.val (.ref a), .val (.ref d), .val (.int (own_min (Int32.ofNat cl.length) (Int32.ofNat dl.length))), .val (.int (1 : Int32)), .val (.int (cl.getD (0 : Int32).toNatClampNeg 0)), .val (.int (dl.getD (0 : Int32).toNatClampNeg 0))] [(.int (own_min (Int32.ofNat cl.length) (Int32.ofNat dl.length))), (.int (1 : Int32))])) (fun t k => XS.goto X6.here hx rfl (pc0 := 65) (pc' := 24) rfl (hb hby d2_65) (by decide) (by decide) (XS.iloadN X6.here hx rfl (hb hby d2_24) rfl (XS.iloadN X6.here hx rfl (hb hby d2_25) rfl k))) ?_
        by_cases hc26_2 : (1 : Int32) < (own_min (Int32.ofNat cl.length) (Int32.ofNat dl.length))
        ·
          refine Goes.pre (U' := T6.setTop (mkF m 31 #[.val (.ref a), .val (.ref d), .val (.int (own_min (Int32.ofNat cl.length) (Int32.ofNat dl.length))), .val (.int (1 : Int32)), .val (.int (cl.getD (0 : Int32).toNatClampNeg 0)), .val (.int (dl.getD (0 : Int32).toNatClampNeg 0))] [(.int (1 : Int32)), (.ref a)])) (fun t k => XS.icmpNo X6.here hx rfl (hb hby d2_26) rfl (tlt hc26_2).2.1 (XS.aloadN X6.here hx rfl (hb hby d2_29) rfl rfl (XS.iloadN X6.here hx rfl (hb hby d2_30) rfl k))) ?_
          obtain ⟨cq7, kq7, q7a, q7b, q7c⟩ := isOf hZ HQ6 S_a.1
          obtain ⟨_, _, ⟨T7, L7, k7, n7⟩, -, X7, ⟨Lc7, hQ7, l7, y7, z7⟩, st7⟩ := X6.virtualBack hx (y := (⟨"java/lang/String", "charAt", "(I)C"⟩ : MethodName)) (z := (⟨"java/lang/String", "charAt", "(I)C"⟩ : MethodName)) hown (mvT hZ (wq hw 71 rfl)) (mvT hZ (wq hw 72 rfl)) (notFace_of_selects (args := #[]) (mvT hZ (wq hw 74 rfl))) (mvT hZ (wq hw 74 rfl)) (mvT hZ (wq hw 73 rfl)) (by decide) (backOf (W := 0) (rm_chG l Z a0 hw [] a b ka cl (1 : Int32) cs sf h0 n0 Z0 S_a S_COMPACT_STRINGS S__assertionsDisabled S_HI_BYTE_SHIFT S_LO_BYTE_SHIFT S_SIOOBE_FORMATTER (by decide) (own_minl _ _ _ hc26_2).1 (Nat.le_trans hl1 (by decide)) hcs hsf O) hZ (wq hw 75 rfl) (wq hw 5 rfl) (by decide) (by decide)) q7a q7c (g := (mkF m 31 #[.val (.ref a), .val (.ref d), .val (.int (own_min (Int32.ofNat cl.length) (Int32.ofNat dl.length))), .val (.int (1 : Int32)), .val (.int (cl.getD (0 : Int32).toNatClampNeg 0)), .val (.int (dl.getD (0 : Int32).toNatClampNeg 0))] [(.int (1 : Int32)), (.ref a)])) rfl (by rw [hml]; rfl) (Steps.refl _) (argsL := [(.int (1 : Int32))]) (rest := []) (lenOf pd__28I_29C rfl) rfl (by show 2 * 0 + _ ≤ _; exact Nat.le_of_eq rfl) (hb hby d2_31) (fun _ _ => ⟨rfl, HQ6, (by decide : 0 + 0 ≤ _), (by decide : 0 + 0 ≤ _)⟩)
          dsimp only [Pt.U, Pt.locs, Pt.cells, Pt.slots] at X7 l7 y7 z7 st7 hQ7
          subst l7 y7 z7
          obtain ⟨rfl, N7q, HQ7⟩ := hQ7
          have N7 := Fr.app N6 N7q
          refine Goes.pre (U' := T7.setTop (mkF m 38 #[.val (.ref a), .val (.ref d), .val (.int (own_min (Int32.ofNat cl.length) (Int32.ofNat dl.length))), .val (.int (1 : Int32)), .val (.int (cl.getD (1 : Int32).toNatClampNeg 0)), .val (.int (dl.getD (0 : Int32).toNatClampNeg 0))] [(.int (1 : Int32)), (.ref d)])) (fun t k => st7.trans (XS.istore X7.here hx rfl (hb hby d2_34) rfl (l' := #[.val (.ref a), .val (.ref d), .val (.int (own_min (Int32.ofNat cl.length) (Int32.ofNat dl.length))), .val (.int (1 : Int32)), .val (.int (cl.getD (1 : Int32).toNatClampNeg 0)), .val (.int (dl.getD (0 : Int32).toNatClampNeg 0))]) rfl (XS.aloadN X7.here hx rfl (hb hby d2_36) rfl rfl (XS.iloadN X7.here hx rfl (hb hby d2_37) rfl k)))) ?_
          obtain ⟨cq8, kq8, q8a, q8b, q8c⟩ := isOf hZ HQ7 S_d.1
          obtain ⟨_, _, ⟨T8, L8, k8, n8⟩, -, X8, ⟨Lc8, hQ8, l8, y8, z8⟩, st8⟩ := X7.virtualBack hx (y := (⟨"java/lang/String", "charAt", "(I)C"⟩ : MethodName)) (z := (⟨"java/lang/String", "charAt", "(I)C"⟩ : MethodName)) hown (mvT hZ (wq hw 71 rfl)) (mvT hZ (wq hw 72 rfl)) (notFace_of_selects (args := #[]) (mvT hZ (wq hw 74 rfl))) (mvT hZ (wq hw 74 rfl)) (mvT hZ (wq hw 73 rfl)) (by decide) (backOf (W := 0) (rm_chG l Z a0 hw [] d f kf dl (1 : Int32) cs sf h0 n0 Z0 S_d S_COMPACT_STRINGS S__assertionsDisabled S_HI_BYTE_SHIFT S_LO_BYTE_SHIFT S_SIOOBE_FORMATTER (by decide) (own_minl _ _ _ hc26_2).2 (Nat.le_trans hl2 (by decide)) hcs hsf O) hZ (wq hw 75 rfl) (wq hw 5 rfl) (by decide) (by decide)) q8a q8c (g := (mkF m 38 #[.val (.ref a), .val (.ref d), .val (.int (own_min (Int32.ofNat cl.length) (Int32.ofNat dl.length))), .val (.int (1 : Int32)), .val (.int (cl.getD (1 : Int32).toNatClampNeg 0)), .val (.int (dl.getD (0 : Int32).toNatClampNeg 0))] [(.int (1 : Int32)), (.ref d)])) rfl (by rw [hml]; rfl) (Steps.refl _) (argsL := [(.int (1 : Int32))]) (rest := []) (lenOf pd__28I_29C rfl) rfl (by show 2 * 0 + _ ≤ _; exact Nat.le_of_eq rfl) (hb hby d2_38) (fun _ _ => ⟨rfl, HQ7, (by decide : 0 + 0 ≤ _), (by decide : 0 + 0 ≤ _)⟩)
          dsimp only [Pt.U, Pt.locs, Pt.cells, Pt.slots] at X8 l8 y8 z8 st8 hQ8
          subst l8 y8 z8
          obtain ⟨rfl, N8q, HQ8⟩ := hQ8
          have N8 := Fr.app N7 N8q
          refine Goes.pre (U' := T8.setTop (mkF m 47 #[.val (.ref a), .val (.ref d), .val (.int (own_min (Int32.ofNat cl.length) (Int32.ofNat dl.length))), .val (.int (1 : Int32)), .val (.int (cl.getD (1 : Int32).toNatClampNeg 0)), .val (.int (dl.getD (1 : Int32).toNatClampNeg 0))] [(.int (dl.getD (1 : Int32).toNatClampNeg 0)), (.int (cl.getD (1 : Int32).toNatClampNeg 0))])) (fun t k => st8.trans (XS.istore X8.here hx rfl (hb hby d2_41) rfl (l' := #[.val (.ref a), .val (.ref d), .val (.int (own_min (Int32.ofNat cl.length) (Int32.ofNat dl.length))), .val (.int (1 : Int32)), .val (.int (cl.getD (1 : Int32).toNatClampNeg 0)), .val (.int (dl.getD (1 : Int32).toNatClampNeg 0))]) rfl (XS.iload X8.here hx rfl (hb hby d2_43) rfl (XS.iload X8.here hx rfl (hb hby d2_45) rfl k)))) ?_
          by_cases hc47_2 : (cl.getD (1 : Int32).toNatClampNeg 0) = (dl.getD (1 : Int32).toNatClampNeg 0)
          ·
            refine Goes.pre (U' := T8.setTop (mkF m 65 #[.val (.ref a), .val (.ref d), .val (.int (own_min (Int32.ofNat cl.length) (Int32.ofNat dl.length))), .val (.int ((1 : Int32) + (1 : Int32))), .val (.int (cl.getD (1 : Int32).toNatClampNeg 0)), .val (.int (dl.getD (1 : Int32).toNatClampNeg 0))] [])) (fun t k => XS.icmpYes X8.here hx rfl (pc0 := 47) (pc' := 62) rfl (hb hby d2_47) rfl (teq hc47_2).1 (by decide) (by decide) (XT.iincV X8.here hx rfl (1 : Int32) (hb hby d2_62) (by decide) rfl (l' := #[.val (.ref a), .val (.ref d), .val (.int (own_min (Int32.ofNat cl.length) (Int32.ofNat dl.length))), .val (.int ((1 : Int32) + (1 : Int32))), .val (.int (cl.getD (1 : Int32).toNatClampNeg 0)), .val (.int (dl.getD (1 : Int32).toNatClampNeg 0))]) rfl k)) ?_
            rw [(by decide : ((1 : Int32) + (1 : Int32)) = (2 : Int32))]
            refine Goes.pre (U' := T8.setTop (mkF m 26 #[.val (.ref a), .val (.ref d), .val (.int (own_min (Int32.ofNat cl.length) (Int32.ofNat dl.length))), .val (.int (2 : Int32)), .val (.int (cl.getD (1 : Int32).toNatClampNeg 0)), .val (.int (dl.getD (1 : Int32).toNatClampNeg 0))] [(.int (own_min (Int32.ofNat cl.length) (Int32.ofNat dl.length))), (.int (2 : Int32))])) (fun t k => XS.goto X8.here hx rfl (pc0 := 65) (pc' := 24) rfl (hb hby d2_65) (by decide) (by decide) (XS.iloadN X8.here hx rfl (hb hby d2_24) rfl (XS.iloadN X8.here hx rfl (hb hby d2_25) rfl k))) ?_
            by_cases hc26_3 : (2 : Int32) < (own_min (Int32.ofNat cl.length) (Int32.ofNat dl.length))
            ·
              refine Goes.pre (U' := T8.setTop (mkF m 31 #[.val (.ref a), .val (.ref d), .val (.int (own_min (Int32.ofNat cl.length) (Int32.ofNat dl.length))), .val (.int (2 : Int32)), .val (.int (cl.getD (1 : Int32).toNatClampNeg 0)), .val (.int (dl.getD (1 : Int32).toNatClampNeg 0))] [(.int (2 : Int32)), (.ref a)])) (fun t k => XS.icmpNo X8.here hx rfl (hb hby d2_26) rfl (tlt hc26_3).2.1 (XS.aloadN X8.here hx rfl (hb hby d2_29) rfl rfl (XS.iloadN X8.here hx rfl (hb hby d2_30) rfl k))) ?_
              obtain ⟨cq9, kq9, q9a, q9b, q9c⟩ := isOf hZ HQ8 S_a.1
              obtain ⟨_, _, ⟨T9, L9, k9, n9⟩, -, X9, ⟨Lc9, hQ9, l9, y9, z9⟩, st9⟩ := X8.virtualBack hx (y := (⟨"java/lang/String", "charAt", "(I)C"⟩ : MethodName)) (z := (⟨"java/lang/String", "charAt", "(I)C"⟩ : MethodName)) hown (mvT hZ (wq hw 71 rfl)) (mvT hZ (wq hw 72 rfl)) (notFace_of_selects (args := #[]) (mvT hZ (wq hw 74 rfl))) (mvT hZ (wq hw 74 rfl)) (mvT hZ (wq hw 73 rfl)) (by decide) (backOf (W := 0) (rm_chG l Z a0 hw [] a b ka cl (2 : Int32) cs sf h0 n0 Z0 S_a S_COMPACT_STRINGS S__assertionsDisabled S_HI_BYTE_SHIFT S_LO_BYTE_SHIFT S_SIOOBE_FORMATTER (by decide) (own_minl _ _ _ hc26_3).1 (Nat.le_trans hl1 (by decide)) hcs hsf O) hZ (wq hw 75 rfl) (wq hw 5 rfl) (by decide) (by decide)) q9a q9c (g := (mkF m 31 #[.val (.ref a), .val (.ref d), .val (.int (own_min (Int32.ofNat cl.length) (Int32.ofNat dl.length))), .val (.int (2 : Int32)), .val (.int (cl.getD (1 : Int32).toNatClampNeg 0)), .val (.int (dl.getD (1 : Int32).toNatClampNeg 0))] [(.int (2 : Int32)), (.ref a)])) rfl (by rw [hml]; rfl) (Steps.refl _) (argsL := [(.int (2 : Int32))]) (rest := []) (lenOf pd__28I_29C rfl) rfl (by show 2 * 0 + _ ≤ _; exact Nat.le_of_eq rfl) (hb hby d2_31) (fun _ _ => ⟨rfl, HQ8, (by decide : 0 + 0 ≤ _), (by decide : 0 + 0 ≤ _)⟩)
              dsimp only [Pt.U, Pt.locs, Pt.cells, Pt.slots] at X9 l9 y9 z9 st9 hQ9
              subst l9 y9 z9
              obtain ⟨rfl, N9q, HQ9⟩ := hQ9
              have N9 := Fr.app N8 N9q
              refine Goes.pre (U' := T9.setTop (mkF m 38 #[.val (.ref a), .val (.ref d), .val (.int (own_min (Int32.ofNat cl.length) (Int32.ofNat dl.length))), .val (.int (2 : Int32)), .val (.int (cl.getD (2 : Int32).toNatClampNeg 0)), .val (.int (dl.getD (1 : Int32).toNatClampNeg 0))] [(.int (2 : Int32)), (.ref d)])) (fun t k => st9.trans (XS.istore X9.here hx rfl (hb hby d2_34) rfl (l' := #[.val (.ref a), .val (.ref d), .val (.int (own_min (Int32.ofNat cl.length) (Int32.ofNat dl.length))), .val (.int (2 : Int32)), .val (.int (cl.getD (2 : Int32).toNatClampNeg 0)), .val (.int (dl.getD (1 : Int32).toNatClampNeg 0))]) rfl (XS.aloadN X9.here hx rfl (hb hby d2_36) rfl rfl (XS.iloadN X9.here hx rfl (hb hby d2_37) rfl k)))) ?_
              obtain ⟨cq10, kq10, q10a, q10b, q10c⟩ := isOf hZ HQ9 S_d.1
              obtain ⟨_, _, ⟨T10, L10, k10, n10⟩, -, X10, ⟨Lc10, hQ10, l10, y10, z10⟩, st10⟩ := X9.virtualBack hx (y := (⟨"java/lang/String", "charAt", "(I)C"⟩ : MethodName)) (z := (⟨"java/lang/String", "charAt", "(I)C"⟩ : MethodName)) hown (mvT hZ (wq hw 71 rfl)) (mvT hZ (wq hw 72 rfl)) (notFace_of_selects (args := #[]) (mvT hZ (wq hw 74 rfl))) (mvT hZ (wq hw 74 rfl)) (mvT hZ (wq hw 73 rfl)) (by decide) (backOf (W := 0) (rm_chG l Z a0 hw [] d f kf dl (2 : Int32) cs sf h0 n0 Z0 S_d S_COMPACT_STRINGS S__assertionsDisabled S_HI_BYTE_SHIFT S_LO_BYTE_SHIFT S_SIOOBE_FORMATTER (by decide) (own_minl _ _ _ hc26_3).2 (Nat.le_trans hl2 (by decide)) hcs hsf O) hZ (wq hw 75 rfl) (wq hw 5 rfl) (by decide) (by decide)) q10a q10c (g := (mkF m 38 #[.val (.ref a), .val (.ref d), .val (.int (own_min (Int32.ofNat cl.length) (Int32.ofNat dl.length))), .val (.int (2 : Int32)), .val (.int (cl.getD (2 : Int32).toNatClampNeg 0)), .val (.int (dl.getD (1 : Int32).toNatClampNeg 0))] [(.int (2 : Int32)), (.ref d)])) rfl (by rw [hml]; rfl) (Steps.refl _) (argsL := [(.int (2 : Int32))]) (rest := []) (lenOf pd__28I_29C rfl) rfl (by show 2 * 0 + _ ≤ _; exact Nat.le_of_eq rfl) (hb hby d2_38) (fun _ _ => ⟨rfl, HQ9, (by decide : 0 + 0 ≤ _), (by decide : 0 + 0 ≤ _)⟩)
              dsimp only [Pt.U, Pt.locs, Pt.cells, Pt.slots] at X10 l10 y10 z10 st10 hQ10
              subst l10 y10 z10
              obtain ⟨rfl, N10q, HQ10⟩ := hQ10
              have N10 := Fr.app N9 N10q
              refine Goes.pre (U' := T10.setTop (mkF m 47 #[.val (.ref a), .val (.ref d), .val (.int (own_min (Int32.ofNat cl.length) (Int32.ofNat dl.length))), .val (.int (2 : Int32)), .val (.int (cl.getD (2 : Int32).toNatClampNeg 0)), .val (.int (dl.getD (2 : Int32).toNatClampNeg 0))] [(.int (dl.getD (2 : Int32).toNatClampNeg 0)), (.int (cl.getD (2 : Int32).toNatClampNeg 0))])) (fun t k => st10.trans (XS.istore X10.here hx rfl (hb hby d2_41) rfl (l' := #[.val (.ref a), .val (.ref d), .val (.int (own_min (Int32.ofNat cl.length) (Int32.ofNat dl.length))), .val (.int (2 : Int32)), .val (.int (cl.getD (2 : Int32).toNatClampNeg 0)), .val (.int (dl.getD (2 : Int32).toNatClampNeg 0))]) rfl (XS.iload X10.here hx rfl (hb hby d2_43) rfl (XS.iload X10.here hx rfl (hb hby d2_45) rfl k)))) ?_
              by_cases hc47_3 : (cl.getD (2 : Int32).toNatClampNeg 0) = (dl.getD (2 : Int32).toNatClampNeg 0)
              ·
                refine Goes.pre (U' := T10.setTop (mkF m 65 #[.val (.ref a), .val (.ref d), .val (.int (own_min (Int32.ofNat cl.length) (Int32.ofNat dl.length))), .val (.int ((2 : Int32) + (1 : Int32))), .val (.int (cl.getD (2 : Int32).toNatClampNeg 0)), .val (.int (dl.getD (2 : Int32).toNatClampNeg 0))] [])) (fun t k => XS.icmpYes X10.here hx rfl (pc0 := 47) (pc' := 62) rfl (hb hby d2_47) rfl (teq hc47_3).1 (by decide) (by decide) (XT.iincV X10.here hx rfl (1 : Int32) (hb hby d2_62) (by decide) rfl (l' := #[.val (.ref a), .val (.ref d), .val (.int (own_min (Int32.ofNat cl.length) (Int32.ofNat dl.length))), .val (.int ((2 : Int32) + (1 : Int32))), .val (.int (cl.getD (2 : Int32).toNatClampNeg 0)), .val (.int (dl.getD (2 : Int32).toNatClampNeg 0))]) rfl k)) ?_
                rw [(by decide : ((2 : Int32) + (1 : Int32)) = (3 : Int32))]
                refine Goes.pre (U' := T10.setTop (mkF m 26 #[.val (.ref a), .val (.ref d), .val (.int (own_min (Int32.ofNat cl.length) (Int32.ofNat dl.length))), .val (.int (3 : Int32)), .val (.int (cl.getD (2 : Int32).toNatClampNeg 0)), .val (.int (dl.getD (2 : Int32).toNatClampNeg 0))] [(.int (own_min (Int32.ofNat cl.length) (Int32.ofNat dl.length))), (.int (3 : Int32))])) (fun t k => XS.goto X10.here hx rfl (pc0 := 65) (pc' := 24) rfl (hb hby d2_65) (by decide) (by decide) (XS.iloadN X10.here hx rfl (hb hby d2_24) rfl (XS.iloadN X10.here hx rfl (hb hby d2_25) rfl k))) ?_
                have hf26 : ¬ ((3 : Int32) < (own_min (Int32.ofNat cl.length) (Int32.ofNat dl.length))) := (own_min3 cl dl hl1)
                refine Goes.pre (U' := T10.setTop (mkF m 69 #[.val (.ref a), .val (.ref d), .val (.int (own_min (Int32.ofNat cl.length) (Int32.ofNat dl.length))), .val (.int (3 : Int32)), .val (.int (cl.getD (2 : Int32).toNatClampNeg 0)), .val (.int (dl.getD (2 : Int32).toNatClampNeg 0))] [(.ref a)])) (fun t k => XS.icmpYes X10.here hx rfl (pc0 := 26) (pc' := 68) rfl (hb hby d2_26) rfl (flt hf26).2.1 (by decide) (by decide) (XS.aloadN X10.here hx rfl (hb hby d2_68) rfl rfl k)) ?_
                obtain ⟨cq11, kq11, q11a, q11b, q11c⟩ := isOf hZ HQ10 S_a.1
                obtain ⟨_, _, ⟨T11, L11, k11, n11⟩, -, X11, ⟨Lc11, hQ11, l11, y11, z11⟩, st11⟩ := X10.virtualBack hx (y := (⟨"java/lang/String", "length", "()I"⟩ : MethodName)) (z := (⟨"java/lang/String", "length", "()I"⟩ : MethodName)) hown (mvT hZ (wq hw 57 rfl)) (mvT hZ (wq hw 58 rfl)) (notFace_of_selects (args := #[]) (mvT hZ (wq hw 60 rfl))) (mvT hZ (wq hw 60 rfl)) (mvT hZ (wq hw 59 rfl)) (by decide) (backOf (W := 0) (rm_len l Z a0 hw [] a b ka cl cs h0 n0 Z0 S_a S_COMPACT_STRINGS hcs (Nat.le_trans hl1 (by decide)) O) hZ (wq hw 61 rfl) (wq hw 5 rfl) (by decide) (by decide)) q11a q11c (g := (mkF m 69 #[.val (.ref a), .val (.ref d), .val (.int (own_min (Int32.ofNat cl.length) (Int32.ofNat dl.length))), .val (.int (3 : Int32)), .val (.int (cl.getD (2 : Int32).toNatClampNeg 0)), .val (.int (dl.getD (2 : Int32).toNatClampNeg 0))] [(.ref a)])) rfl (by rw [hml]; rfl) (Steps.refl _) (argsL := []) (rest := []) (lenOf pd__28_29I rfl) rfl (by show 2 * 0 + _ ≤ _; exact Nat.le_of_eq rfl) (hb hby d2_69) (fun _ _ => ⟨rfl, HQ10, (by decide : 0 + 0 ≤ _), (by decide : 0 + 0 ≤ _)⟩)
                dsimp only [Pt.U, Pt.locs, Pt.cells, Pt.slots] at X11 l11 y11 z11 st11 hQ11
                subst l11 y11 z11
                obtain ⟨rfl, N11q, HQ11⟩ := hQ11
                have N11 := Fr.app N10 N11q
                refine Goes.pre (U' := T11.setTop (mkF m 73 #[.val (.ref a), .val (.ref d), .val (.int (own_min (Int32.ofNat cl.length) (Int32.ofNat dl.length))), .val (.int (3 : Int32)), .val (.int (cl.getD (2 : Int32).toNatClampNeg 0)), .val (.int (dl.getD (2 : Int32).toNatClampNeg 0))] [(.ref d), (.int (Int32.ofNat cl.length))])) (fun t k => st11.trans (XS.aloadN X11.here hx rfl (hb hby d2_72) rfl rfl k)) ?_
                obtain ⟨cq12, kq12, q12a, q12b, q12c⟩ := isOf hZ HQ11 S_d.1
                obtain ⟨_, _, ⟨T12, L12, k12, n12⟩, -, X12, ⟨Lc12, hQ12, l12, y12, z12⟩, st12⟩ := X11.virtualBack hx (y := (⟨"java/lang/String", "length", "()I"⟩ : MethodName)) (z := (⟨"java/lang/String", "length", "()I"⟩ : MethodName)) hown (mvT hZ (wq hw 57 rfl)) (mvT hZ (wq hw 58 rfl)) (notFace_of_selects (args := #[]) (mvT hZ (wq hw 60 rfl))) (mvT hZ (wq hw 60 rfl)) (mvT hZ (wq hw 59 rfl)) (by decide) (backOf (W := 1) (rm_len l Z a0 hw [] d f kf dl cs h0 n0 Z0 S_d S_COMPACT_STRINGS hcs (Nat.le_trans hl2 (by decide)) O) hZ (wq hw 61 rfl) (wq hw 5 rfl) (by decide) (by decide)) q12a q12c (g := (mkF m 73 #[.val (.ref a), .val (.ref d), .val (.int (own_min (Int32.ofNat cl.length) (Int32.ofNat dl.length))), .val (.int (3 : Int32)), .val (.int (cl.getD (2 : Int32).toNatClampNeg 0)), .val (.int (dl.getD (2 : Int32).toNatClampNeg 0))] [(.ref d), (.int (Int32.ofNat cl.length))])) rfl (by rw [hml]; rfl) (Steps.refl _) (argsL := []) (rest := [(.int (Int32.ofNat cl.length))]) (lenOf pd__28_29I rfl) rfl (by show 2 * 0 + _ ≤ _; exact Nat.le_of_eq rfl) (hb hby d2_73) (fun _ _ => ⟨rfl, HQ11, (by decide : 0 + 0 ≤ _), (by decide : 0 + 0 ≤ _)⟩)
                dsimp only [Pt.U, Pt.locs, Pt.cells, Pt.slots] at X12 l12 y12 z12 st12 hQ12
                subst l12 y12 z12
                obtain ⟨rfl, N12q, HQ12⟩ := hQ12
                have N12 := Fr.app N11 N12q
                refine Goes.pre (U' := T12.setTop (mkF m 77 #[.val (.ref a), .val (.ref d), .val (.int (own_min (Int32.ofNat cl.length) (Int32.ofNat dl.length))), .val (.int (3 : Int32)), .val (.int (cl.getD (2 : Int32).toNatClampNeg 0)), .val (.int (dl.getD (2 : Int32).toNatClampNeg 0))] [(.int ((Int32.ofNat cl.length) - (Int32.ofNat dl.length)))])) (fun t k => st12.trans (XS.isub X12.here hx rfl (hb hby d2_76) rfl k)) ?_
                refine Goes.ret X12 (v := (some (.int ((Int32.ofNat cl.length) - (Int32.ofNat dl.length))))) (fun h => by rw [hret] at h; cases h) hlk (by decide) (by decide) HQ12 (fun fs hr => retI X12 hx hret (hb hby d2_77) hr) ?_
                exact ⟨ev, congrArg (fun z => some (Value.int z)) (show ((Int32.ofNat cl.length) - (Int32.ofNat dl.length)) = own_cmp ev cl dl from (show own_cmp ev cl dl = ((Int32.ofNat cl.length) - (Int32.ofNat dl.length)) from by unfold own_cmp; rw [if_pos hc5, if_pos hc26, if_pos hc47, if_pos hc26_2, if_pos hc47_2, if_pos hc26_3, if_pos hc47_3]).symm), N12, rfl, hx1⟩
              ·
                refine Goes.pre (U' := T10.setTop (mkF m 52 #[.val (.ref a), .val (.ref d), .val (.int (own_min (Int32.ofNat cl.length) (Int32.ofNat dl.length))), .val (.int (2 : Int32)), .val (.int (cl.getD (2 : Int32).toNatClampNeg 0)), .val (.int (dl.getD (2 : Int32).toNatClampNeg 0))] [(.int (cl.getD (2 : Int32).toNatClampNeg 0))])) (fun t k => XS.icmpNo X10.here hx rfl (hb hby d2_47) rfl (feq hc47_3).1 (XS.iload X10.here hx rfl (hb hby d2_50) rfl k)) ?_
                obtain ⟨_, _, ⟨T13, L13, k13, n13⟩, -, X13, ⟨Lc13, hQ13, l13, y13, z13⟩, st13⟩ := Jvm.LawKit.callS X10 hx (y := (⟨"com/example/known_paths/knownpaths/item/CodePointOrder", "rank", "(C)I"⟩ : MethodName)) hown (mvT hZ (wq hw 92 rfl)) (mvT hZ (wq hw 93 rfl)) (mvT hZ (wq hw 14 rfl)) (mvT hZ (wq hw 94 rfl)) (by decide) (backOf (W := 0) (rm_rank l Z a0 hw [] (cl.getD (2 : Int32).toNatClampNeg 0) h0 n0 Z0) hZ (wq hw 94 rfl) (wq hw 14 rfl) (by decide) (by decide)) (g := (mkF m 52 #[.val (.ref a), .val (.ref d), .val (.int (own_min (Int32.ofNat cl.length) (Int32.ofNat dl.length))), .val (.int (2 : Int32)), .val (.int (cl.getD (2 : Int32).toNatClampNeg 0)), .val (.int (dl.getD (2 : Int32).toNatClampNeg 0))] [(.int (cl.getD (2 : Int32).toNatClampNeg 0))])) rfl (by rw [hml]; rfl) (argsL := [(.int (cl.getD (2 : Int32).toNatClampNeg 0))]) (rest := []) (lenOf pd__28C_29I rfl) rfl (by show 2 * 0 + _ ≤ _; exact Nat.le_of_eq rfl) (hb hby d2_52) (fun _ _ => ⟨rfl, HQ10, (by decide : 0 + 0 ≤ _), (by decide : 0 + 0 ≤ _)⟩)
                dsimp only [Pt.U, Pt.locs, Pt.cells, Pt.slots] at X13 l13 y13 z13 st13 hQ13
                subst l13 y13 z13
                obtain ⟨rfl, N13q, HQ13⟩ := hQ13
                have N13 := Fr.app N10 N13q
                refine Goes.pre (U' := T13.setTop (mkF m 57 #[.val (.ref a), .val (.ref d), .val (.int (own_min (Int32.ofNat cl.length) (Int32.ofNat dl.length))), .val (.int (2 : Int32)), .val (.int (cl.getD (2 : Int32).toNatClampNeg 0)), .val (.int (dl.getD (2 : Int32).toNatClampNeg 0))] [(.int (dl.getD (2 : Int32).toNatClampNeg 0)), (.int (own_rank (cl.getD (2 : Int32).toNatClampNeg 0)))])) (fun t k => st13 t (XS.iload X13.here hx rfl (hb hby d2_55) rfl k)) ?_
                obtain ⟨_, _, ⟨T14, L14, k14, n14⟩, -, X14, ⟨Lc14, hQ14, l14, y14, z14⟩, st14⟩ := Jvm.LawKit.callS X13 hx (y := (⟨"com/example/known_paths/knownpaths/item/CodePointOrder", "rank", "(C)I"⟩ : MethodName)) hown (mvT hZ (wq hw 92 rfl)) (mvT hZ (wq hw 93 rfl)) (mvT hZ (wq hw 14 rfl)) (mvT hZ (wq hw 94 rfl)) (by decide) (backOf (W := 1) (rm_rank l Z a0 hw [] (dl.getD (2 : Int32).toNatClampNeg 0) h0 n0 Z0) hZ (wq hw 94 rfl) (wq hw 14 rfl) (by decide) (by decide)) (g := (mkF m 57 #[.val (.ref a), .val (.ref d), .val (.int (own_min (Int32.ofNat cl.length) (Int32.ofNat dl.length))), .val (.int (2 : Int32)), .val (.int (cl.getD (2 : Int32).toNatClampNeg 0)), .val (.int (dl.getD (2 : Int32).toNatClampNeg 0))] [(.int (dl.getD (2 : Int32).toNatClampNeg 0)), (.int (own_rank (cl.getD (2 : Int32).toNatClampNeg 0)))])) rfl (by rw [hml]; rfl) (argsL := [(.int (dl.getD (2 : Int32).toNatClampNeg 0))]) (rest := [(.int (own_rank (cl.getD (2 : Int32).toNatClampNeg 0)))]) (lenOf pd__28C_29I rfl) rfl (by show 2 * 0 + _ ≤ _; exact Nat.le_of_eq rfl) (hb hby d2_57) (fun _ _ => ⟨rfl, HQ13, (by decide : 0 + 0 ≤ _), (by decide : 0 + 0 ≤ _)⟩)
                dsimp only [Pt.U, Pt.locs, Pt.cells, Pt.slots] at X14 l14 y14 z14 st14 hQ14
                subst l14 y14 z14
                obtain ⟨rfl, N14q, HQ14⟩ := hQ14
                have N14 := Fr.app N13 N14q
                refine Goes.pre (U' := T14.setTop (mkF m 61 #[.val (.ref a), .val (.ref d), .val (.int (own_min (Int32.ofNat cl.length) (Int32.ofNat dl.length))), .val (.int (2 : Int32)), .val (.int (cl.getD (2 : Int32).toNatClampNeg 0)), .val (.int (dl.getD (2 : Int32).toNatClampNeg 0))] [(.int ((own_rank (cl.getD (2 : Int32).toNatClampNeg 0)) - (own_rank (dl.getD (2 : Int32).toNatClampNeg 0))))])) (fun t k => st14 t (XS.isub X14.here hx rfl (hb hby d2_60) rfl k)) ?_
                refine Goes.ret X14 (v := (some (.int ((own_rank (cl.getD (2 : Int32).toNatClampNeg 0)) - (own_rank (dl.getD (2 : Int32).toNatClampNeg 0)))))) (fun h => by rw [hret] at h; cases h) hlk (by decide) (by decide) HQ14 (fun fs hr => retI X14 hx hret (hb hby d2_61) hr) ?_
                exact ⟨ev, congrArg (fun z => some (Value.int z)) (show ((own_rank (cl.getD (2 : Int32).toNatClampNeg 0)) - (own_rank (dl.getD (2 : Int32).toNatClampNeg 0))) = own_cmp ev cl dl from (show own_cmp ev cl dl = ((own_rank (cl.getD (2 : Int32).toNatClampNeg 0)) - (own_rank (dl.getD (2 : Int32).toNatClampNeg 0))) from by unfold own_cmp; rw [if_pos hc5, if_pos hc26, if_pos hc47, if_pos hc26_2, if_pos hc47_2, if_pos hc26_3, if_neg hc47_3]).symm), N14, rfl, hx1⟩
            ·
              refine Goes.pre (U' := T8.setTop (mkF m 69 #[.val (.ref a), .val (.ref d), .val (.int (own_min (Int32.ofNat cl.length) (Int32.ofNat dl.length))), .val (.int (2 : Int32)), .val (.int (cl.getD (1 : Int32).toNatClampNeg 0)), .val (.int (dl.getD (1 : Int32).toNatClampNeg 0))] [(.ref a)])) (fun t k => XS.icmpYes X8.here hx rfl (pc0 := 26) (pc' := 68) rfl (hb hby d2_26) rfl (flt hc26_3).2.1 (by decide) (by decide) (XS.aloadN X8.here hx rfl (hb hby d2_68) rfl rfl k)) ?_
              obtain ⟨cq15, kq15, q15a, q15b, q15c⟩ := isOf hZ HQ8 S_a.1
              obtain ⟨_, _, ⟨T15, L15, k15, n15⟩, -, X15, ⟨Lc15, hQ15, l15, y15, z15⟩, st15⟩ := X8.virtualBack hx (y := (⟨"java/lang/String", "length", "()I"⟩ : MethodName)) (z := (⟨"java/lang/String", "length", "()I"⟩ : MethodName)) hown (mvT hZ (wq hw 57 rfl)) (mvT hZ (wq hw 58 rfl)) (notFace_of_selects (args := #[]) (mvT hZ (wq hw 60 rfl))) (mvT hZ (wq hw 60 rfl)) (mvT hZ (wq hw 59 rfl)) (by decide) (backOf (W := 0) (rm_len l Z a0 hw [] a b ka cl cs h0 n0 Z0 S_a S_COMPACT_STRINGS hcs (Nat.le_trans hl1 (by decide)) O) hZ (wq hw 61 rfl) (wq hw 5 rfl) (by decide) (by decide)) q15a q15c (g := (mkF m 69 #[.val (.ref a), .val (.ref d), .val (.int (own_min (Int32.ofNat cl.length) (Int32.ofNat dl.length))), .val (.int (2 : Int32)), .val (.int (cl.getD (1 : Int32).toNatClampNeg 0)), .val (.int (dl.getD (1 : Int32).toNatClampNeg 0))] [(.ref a)])) rfl (by rw [hml]; rfl) (Steps.refl _) (argsL := []) (rest := []) (lenOf pd__28_29I rfl) rfl (by show 2 * 0 + _ ≤ _; exact Nat.le_of_eq rfl) (hb hby d2_69) (fun _ _ => ⟨rfl, HQ8, (by decide : 0 + 0 ≤ _), (by decide : 0 + 0 ≤ _)⟩)
              dsimp only [Pt.U, Pt.locs, Pt.cells, Pt.slots] at X15 l15 y15 z15 st15 hQ15
              subst l15 y15 z15
              obtain ⟨rfl, N15q, HQ15⟩ := hQ15
              have N15 := Fr.app N8 N15q
              refine Goes.pre (U' := T15.setTop (mkF m 73 #[.val (.ref a), .val (.ref d), .val (.int (own_min (Int32.ofNat cl.length) (Int32.ofNat dl.length))), .val (.int (2 : Int32)), .val (.int (cl.getD (1 : Int32).toNatClampNeg 0)), .val (.int (dl.getD (1 : Int32).toNatClampNeg 0))] [(.ref d), (.int (Int32.ofNat cl.length))])) (fun t k => st15.trans (XS.aloadN X15.here hx rfl (hb hby d2_72) rfl rfl k)) ?_
              obtain ⟨cq16, kq16, q16a, q16b, q16c⟩ := isOf hZ HQ15 S_d.1
              obtain ⟨_, _, ⟨T16, L16, k16, n16⟩, -, X16, ⟨Lc16, hQ16, l16, y16, z16⟩, st16⟩ := X15.virtualBack hx (y := (⟨"java/lang/String", "length", "()I"⟩ : MethodName)) (z := (⟨"java/lang/String", "length", "()I"⟩ : MethodName)) hown (mvT hZ (wq hw 57 rfl)) (mvT hZ (wq hw 58 rfl)) (notFace_of_selects (args := #[]) (mvT hZ (wq hw 60 rfl))) (mvT hZ (wq hw 60 rfl)) (mvT hZ (wq hw 59 rfl)) (by decide) (backOf (W := 1) (rm_len l Z a0 hw [] d f kf dl cs h0 n0 Z0 S_d S_COMPACT_STRINGS hcs (Nat.le_trans hl2 (by decide)) O) hZ (wq hw 61 rfl) (wq hw 5 rfl) (by decide) (by decide)) q16a q16c (g := (mkF m 73 #[.val (.ref a), .val (.ref d), .val (.int (own_min (Int32.ofNat cl.length) (Int32.ofNat dl.length))), .val (.int (2 : Int32)), .val (.int (cl.getD (1 : Int32).toNatClampNeg 0)), .val (.int (dl.getD (1 : Int32).toNatClampNeg 0))] [(.ref d), (.int (Int32.ofNat cl.length))])) rfl (by rw [hml]; rfl) (Steps.refl _) (argsL := []) (rest := [(.int (Int32.ofNat cl.length))]) (lenOf pd__28_29I rfl) rfl (by show 2 * 0 + _ ≤ _; exact Nat.le_of_eq rfl) (hb hby d2_73) (fun _ _ => ⟨rfl, HQ15, (by decide : 0 + 0 ≤ _), (by decide : 0 + 0 ≤ _)⟩)
              dsimp only [Pt.U, Pt.locs, Pt.cells, Pt.slots] at X16 l16 y16 z16 st16 hQ16
              subst l16 y16 z16
              obtain ⟨rfl, N16q, HQ16⟩ := hQ16
              have N16 := Fr.app N15 N16q
              refine Goes.pre (U' := T16.setTop (mkF m 77 #[.val (.ref a), .val (.ref d), .val (.int (own_min (Int32.ofNat cl.length) (Int32.ofNat dl.length))), .val (.int (2 : Int32)), .val (.int (cl.getD (1 : Int32).toNatClampNeg 0)), .val (.int (dl.getD (1 : Int32).toNatClampNeg 0))] [(.int ((Int32.ofNat cl.length) - (Int32.ofNat dl.length)))])) (fun t k => st16.trans (XS.isub X16.here hx rfl (hb hby d2_76) rfl k)) ?_
              refine Goes.ret X16 (v := (some (.int ((Int32.ofNat cl.length) - (Int32.ofNat dl.length))))) (fun h => by rw [hret] at h; cases h) hlk (by decide) (by decide) HQ16 (fun fs hr => retI X16 hx hret (hb hby d2_77) hr) ?_
              exact ⟨ev, congrArg (fun z => some (Value.int z)) (show ((Int32.ofNat cl.length) - (Int32.ofNat dl.length)) = own_cmp ev cl dl from (show own_cmp ev cl dl = ((Int32.ofNat cl.length) - (Int32.ofNat dl.length)) from by unfold own_cmp; rw [if_pos hc5, if_pos hc26, if_pos hc47, if_pos hc26_2, if_pos hc47_2, if_neg hc26_3]).symm), N16, rfl, hx1⟩
          ·
            refine Goes.pre (U' := T8.setTop (mkF m 52 #[.val (.ref a), .val (.ref d), .val (.int (own_min (Int32.ofNat cl.length) (Int32.ofNat dl.length))), .val (.int (1 : Int32)), .val (.int (cl.getD (1 : Int32).toNatClampNeg 0)), .val (.int (dl.getD (1 : Int32).toNatClampNeg 0))] [(.int (cl.getD (1 : Int32).toNatClampNeg 0))])) (fun t k => XS.icmpNo X8.here hx rfl (hb hby d2_47) rfl (feq hc47_2).1 (XS.iload X8.here hx rfl (hb hby d2_50) rfl k)) ?_
            obtain ⟨_, _, ⟨T17, L17, k17, n17⟩, -, X17, ⟨Lc17, hQ17, l17, y17, z17⟩, st17⟩ := Jvm.LawKit.callS X8 hx (y := (⟨"com/example/known_paths/knownpaths/item/CodePointOrder", "rank", "(C)I"⟩ : MethodName)) hown (mvT hZ (wq hw 92 rfl)) (mvT hZ (wq hw 93 rfl)) (mvT hZ (wq hw 14 rfl)) (mvT hZ (wq hw 94 rfl)) (by decide) (backOf (W := 0) (rm_rank l Z a0 hw [] (cl.getD (1 : Int32).toNatClampNeg 0) h0 n0 Z0) hZ (wq hw 94 rfl) (wq hw 14 rfl) (by decide) (by decide)) (g := (mkF m 52 #[.val (.ref a), .val (.ref d), .val (.int (own_min (Int32.ofNat cl.length) (Int32.ofNat dl.length))), .val (.int (1 : Int32)), .val (.int (cl.getD (1 : Int32).toNatClampNeg 0)), .val (.int (dl.getD (1 : Int32).toNatClampNeg 0))] [(.int (cl.getD (1 : Int32).toNatClampNeg 0))])) rfl (by rw [hml]; rfl) (argsL := [(.int (cl.getD (1 : Int32).toNatClampNeg 0))]) (rest := []) (lenOf pd__28C_29I rfl) rfl (by show 2 * 0 + _ ≤ _; exact Nat.le_of_eq rfl) (hb hby d2_52) (fun _ _ => ⟨rfl, HQ8, (by decide : 0 + 0 ≤ _), (by decide : 0 + 0 ≤ _)⟩)
            dsimp only [Pt.U, Pt.locs, Pt.cells, Pt.slots] at X17 l17 y17 z17 st17 hQ17
            subst l17 y17 z17
            obtain ⟨rfl, N17q, HQ17⟩ := hQ17
            have N17 := Fr.app N8 N17q
            refine Goes.pre (U' := T17.setTop (mkF m 57 #[.val (.ref a), .val (.ref d), .val (.int (own_min (Int32.ofNat cl.length) (Int32.ofNat dl.length))), .val (.int (1 : Int32)), .val (.int (cl.getD (1 : Int32).toNatClampNeg 0)), .val (.int (dl.getD (1 : Int32).toNatClampNeg 0))] [(.int (dl.getD (1 : Int32).toNatClampNeg 0)), (.int (own_rank (cl.getD (1 : Int32).toNatClampNeg 0)))])) (fun t k => st17 t (XS.iload X17.here hx rfl (hb hby d2_55) rfl k)) ?_
            obtain ⟨_, _, ⟨T18, L18, k18, n18⟩, -, X18, ⟨Lc18, hQ18, l18, y18, z18⟩, st18⟩ := Jvm.LawKit.callS X17 hx (y := (⟨"com/example/known_paths/knownpaths/item/CodePointOrder", "rank", "(C)I"⟩ : MethodName)) hown (mvT hZ (wq hw 92 rfl)) (mvT hZ (wq hw 93 rfl)) (mvT hZ (wq hw 14 rfl)) (mvT hZ (wq hw 94 rfl)) (by decide) (backOf (W := 1) (rm_rank l Z a0 hw [] (dl.getD (1 : Int32).toNatClampNeg 0) h0 n0 Z0) hZ (wq hw 94 rfl) (wq hw 14 rfl) (by decide) (by decide)) (g := (mkF m 57 #[.val (.ref a), .val (.ref d), .val (.int (own_min (Int32.ofNat cl.length) (Int32.ofNat dl.length))), .val (.int (1 : Int32)), .val (.int (cl.getD (1 : Int32).toNatClampNeg 0)), .val (.int (dl.getD (1 : Int32).toNatClampNeg 0))] [(.int (dl.getD (1 : Int32).toNatClampNeg 0)), (.int (own_rank (cl.getD (1 : Int32).toNatClampNeg 0)))])) rfl (by rw [hml]; rfl) (argsL := [(.int (dl.getD (1 : Int32).toNatClampNeg 0))]) (rest := [(.int (own_rank (cl.getD (1 : Int32).toNatClampNeg 0)))]) (lenOf pd__28C_29I rfl) rfl (by show 2 * 0 + _ ≤ _; exact Nat.le_of_eq rfl) (hb hby d2_57) (fun _ _ => ⟨rfl, HQ17, (by decide : 0 + 0 ≤ _), (by decide : 0 + 0 ≤ _)⟩)
            dsimp only [Pt.U, Pt.locs, Pt.cells, Pt.slots] at X18 l18 y18 z18 st18 hQ18
            subst l18 y18 z18
            obtain ⟨rfl, N18q, HQ18⟩ := hQ18
            have N18 := Fr.app N17 N18q
            refine Goes.pre (U' := T18.setTop (mkF m 61 #[.val (.ref a), .val (.ref d), .val (.int (own_min (Int32.ofNat cl.length) (Int32.ofNat dl.length))), .val (.int (1 : Int32)), .val (.int (cl.getD (1 : Int32).toNatClampNeg 0)), .val (.int (dl.getD (1 : Int32).toNatClampNeg 0))] [(.int ((own_rank (cl.getD (1 : Int32).toNatClampNeg 0)) - (own_rank (dl.getD (1 : Int32).toNatClampNeg 0))))])) (fun t k => st18 t (XS.isub X18.here hx rfl (hb hby d2_60) rfl k)) ?_
            refine Goes.ret X18 (v := (some (.int ((own_rank (cl.getD (1 : Int32).toNatClampNeg 0)) - (own_rank (dl.getD (1 : Int32).toNatClampNeg 0)))))) (fun h => by rw [hret] at h; cases h) hlk (by decide) (by decide) HQ18 (fun fs hr => retI X18 hx hret (hb hby d2_61) hr) ?_
            exact ⟨ev, congrArg (fun z => some (Value.int z)) (show ((own_rank (cl.getD (1 : Int32).toNatClampNeg 0)) - (own_rank (dl.getD (1 : Int32).toNatClampNeg 0))) = own_cmp ev cl dl from (show own_cmp ev cl dl = ((own_rank (cl.getD (1 : Int32).toNatClampNeg 0)) - (own_rank (dl.getD (1 : Int32).toNatClampNeg 0))) from by unfold own_cmp; rw [if_pos hc5, if_pos hc26, if_pos hc47, if_pos hc26_2, if_neg hc47_2]).symm), N18, rfl, hx1⟩
        ·
          refine Goes.pre (U' := T6.setTop (mkF m 69 #[.val (.ref a), .val (.ref d), .val (.int (own_min (Int32.ofNat cl.length) (Int32.ofNat dl.length))), .val (.int (1 : Int32)), .val (.int (cl.getD (0 : Int32).toNatClampNeg 0)), .val (.int (dl.getD (0 : Int32).toNatClampNeg 0))] [(.ref a)])) (fun t k => XS.icmpYes X6.here hx rfl (pc0 := 26) (pc' := 68) rfl (hb hby d2_26) rfl (flt hc26_2).2.1 (by decide) (by decide) (XS.aloadN X6.here hx rfl (hb hby d2_68) rfl rfl k)) ?_
          obtain ⟨cq19, kq19, q19a, q19b, q19c⟩ := isOf hZ HQ6 S_a.1
          obtain ⟨_, _, ⟨T19, L19, k19, n19⟩, -, X19, ⟨Lc19, hQ19, l19, y19, z19⟩, st19⟩ := X6.virtualBack hx (y := (⟨"java/lang/String", "length", "()I"⟩ : MethodName)) (z := (⟨"java/lang/String", "length", "()I"⟩ : MethodName)) hown (mvT hZ (wq hw 57 rfl)) (mvT hZ (wq hw 58 rfl)) (notFace_of_selects (args := #[]) (mvT hZ (wq hw 60 rfl))) (mvT hZ (wq hw 60 rfl)) (mvT hZ (wq hw 59 rfl)) (by decide) (backOf (W := 0) (rm_len l Z a0 hw [] a b ka cl cs h0 n0 Z0 S_a S_COMPACT_STRINGS hcs (Nat.le_trans hl1 (by decide)) O) hZ (wq hw 61 rfl) (wq hw 5 rfl) (by decide) (by decide)) q19a q19c (g := (mkF m 69 #[.val (.ref a), .val (.ref d), .val (.int (own_min (Int32.ofNat cl.length) (Int32.ofNat dl.length))), .val (.int (1 : Int32)), .val (.int (cl.getD (0 : Int32).toNatClampNeg 0)), .val (.int (dl.getD (0 : Int32).toNatClampNeg 0))] [(.ref a)])) rfl (by rw [hml]; rfl) (Steps.refl _) (argsL := []) (rest := []) (lenOf pd__28_29I rfl) rfl (by show 2 * 0 + _ ≤ _; exact Nat.le_of_eq rfl) (hb hby d2_69) (fun _ _ => ⟨rfl, HQ6, (by decide : 0 + 0 ≤ _), (by decide : 0 + 0 ≤ _)⟩)
          dsimp only [Pt.U, Pt.locs, Pt.cells, Pt.slots] at X19 l19 y19 z19 st19 hQ19
          subst l19 y19 z19
          obtain ⟨rfl, N19q, HQ19⟩ := hQ19
          have N19 := Fr.app N6 N19q
          refine Goes.pre (U' := T19.setTop (mkF m 73 #[.val (.ref a), .val (.ref d), .val (.int (own_min (Int32.ofNat cl.length) (Int32.ofNat dl.length))), .val (.int (1 : Int32)), .val (.int (cl.getD (0 : Int32).toNatClampNeg 0)), .val (.int (dl.getD (0 : Int32).toNatClampNeg 0))] [(.ref d), (.int (Int32.ofNat cl.length))])) (fun t k => st19.trans (XS.aloadN X19.here hx rfl (hb hby d2_72) rfl rfl k)) ?_
          obtain ⟨cq20, kq20, q20a, q20b, q20c⟩ := isOf hZ HQ19 S_d.1
          obtain ⟨_, _, ⟨T20, L20, k20, n20⟩, -, X20, ⟨Lc20, hQ20, l20, y20, z20⟩, st20⟩ := X19.virtualBack hx (y := (⟨"java/lang/String", "length", "()I"⟩ : MethodName)) (z := (⟨"java/lang/String", "length", "()I"⟩ : MethodName)) hown (mvT hZ (wq hw 57 rfl)) (mvT hZ (wq hw 58 rfl)) (notFace_of_selects (args := #[]) (mvT hZ (wq hw 60 rfl))) (mvT hZ (wq hw 60 rfl)) (mvT hZ (wq hw 59 rfl)) (by decide) (backOf (W := 1) (rm_len l Z a0 hw [] d f kf dl cs h0 n0 Z0 S_d S_COMPACT_STRINGS hcs (Nat.le_trans hl2 (by decide)) O) hZ (wq hw 61 rfl) (wq hw 5 rfl) (by decide) (by decide)) q20a q20c (g := (mkF m 73 #[.val (.ref a), .val (.ref d), .val (.int (own_min (Int32.ofNat cl.length) (Int32.ofNat dl.length))), .val (.int (1 : Int32)), .val (.int (cl.getD (0 : Int32).toNatClampNeg 0)), .val (.int (dl.getD (0 : Int32).toNatClampNeg 0))] [(.ref d), (.int (Int32.ofNat cl.length))])) rfl (by rw [hml]; rfl) (Steps.refl _) (argsL := []) (rest := [(.int (Int32.ofNat cl.length))]) (lenOf pd__28_29I rfl) rfl (by show 2 * 0 + _ ≤ _; exact Nat.le_of_eq rfl) (hb hby d2_73) (fun _ _ => ⟨rfl, HQ19, (by decide : 0 + 0 ≤ _), (by decide : 0 + 0 ≤ _)⟩)
          dsimp only [Pt.U, Pt.locs, Pt.cells, Pt.slots] at X20 l20 y20 z20 st20 hQ20
          subst l20 y20 z20
          obtain ⟨rfl, N20q, HQ20⟩ := hQ20
          have N20 := Fr.app N19 N20q
          refine Goes.pre (U' := T20.setTop (mkF m 77 #[.val (.ref a), .val (.ref d), .val (.int (own_min (Int32.ofNat cl.length) (Int32.ofNat dl.length))), .val (.int (1 : Int32)), .val (.int (cl.getD (0 : Int32).toNatClampNeg 0)), .val (.int (dl.getD (0 : Int32).toNatClampNeg 0))] [(.int ((Int32.ofNat cl.length) - (Int32.ofNat dl.length)))])) (fun t k => st20.trans (XS.isub X20.here hx rfl (hb hby d2_76) rfl k)) ?_
          refine Goes.ret X20 (v := (some (.int ((Int32.ofNat cl.length) - (Int32.ofNat dl.length))))) (fun h => by rw [hret] at h; cases h) hlk (by decide) (by decide) HQ20 (fun fs hr => retI X20 hx hret (hb hby d2_77) hr) ?_
          exact ⟨ev, congrArg (fun z => some (Value.int z)) (show ((Int32.ofNat cl.length) - (Int32.ofNat dl.length)) = own_cmp ev cl dl from (show own_cmp ev cl dl = ((Int32.ofNat cl.length) - (Int32.ofNat dl.length)) from by unfold own_cmp; rw [if_pos hc5, if_pos hc26, if_pos hc47, if_neg hc26_2]).symm), N20, rfl, hx1⟩
      ·
        refine Goes.pre (U' := T6.setTop (mkF m 52 #[.val (.ref a), .val (.ref d), .val (.int (own_min (Int32.ofNat cl.length) (Int32.ofNat dl.length))), .val (.int (0 : Int32)), .val (.int (cl.getD (0 : Int32).toNatClampNeg 0)), .val (.int (dl.getD (0 : Int32).toNatClampNeg 0))] [(.int (cl.getD (0 : Int32).toNatClampNeg 0))])) (fun t k => XS.icmpNo X6.here hx rfl (hb hby d2_47) rfl (feq hc47).1 (XS.iload X6.here hx rfl (hb hby d2_50) rfl k)) ?_
        obtain ⟨_, _, ⟨T21, L21, k21, n21⟩, -, X21, ⟨Lc21, hQ21, l21, y21, z21⟩, st21⟩ := Jvm.LawKit.callS X6 hx (y := (⟨"com/example/known_paths/knownpaths/item/CodePointOrder", "rank", "(C)I"⟩ : MethodName)) hown (mvT hZ (wq hw 92 rfl)) (mvT hZ (wq hw 93 rfl)) (mvT hZ (wq hw 14 rfl)) (mvT hZ (wq hw 94 rfl)) (by decide) (backOf (W := 0) (rm_rank l Z a0 hw [] (cl.getD (0 : Int32).toNatClampNeg 0) h0 n0 Z0) hZ (wq hw 94 rfl) (wq hw 14 rfl) (by decide) (by decide)) (g := (mkF m 52 #[.val (.ref a), .val (.ref d), .val (.int (own_min (Int32.ofNat cl.length) (Int32.ofNat dl.length))), .val (.int (0 : Int32)), .val (.int (cl.getD (0 : Int32).toNatClampNeg 0)), .val (.int (dl.getD (0 : Int32).toNatClampNeg 0))] [(.int (cl.getD (0 : Int32).toNatClampNeg 0))])) rfl (by rw [hml]; rfl) (argsL := [(.int (cl.getD (0 : Int32).toNatClampNeg 0))]) (rest := []) (lenOf pd__28C_29I rfl) rfl (by show 2 * 0 + _ ≤ _; exact Nat.le_of_eq rfl) (hb hby d2_52) (fun _ _ => ⟨rfl, HQ6, (by decide : 0 + 0 ≤ _), (by decide : 0 + 0 ≤ _)⟩)
        dsimp only [Pt.U, Pt.locs, Pt.cells, Pt.slots] at X21 l21 y21 z21 st21 hQ21
        subst l21 y21 z21
        obtain ⟨rfl, N21q, HQ21⟩ := hQ21
        have N21 := Fr.app N6 N21q
        refine Goes.pre (U' := T21.setTop (mkF m 57 #[.val (.ref a), .val (.ref d), .val (.int (own_min (Int32.ofNat cl.length) (Int32.ofNat dl.length))), .val (.int (0 : Int32)), .val (.int (cl.getD (0 : Int32).toNatClampNeg 0)), .val (.int (dl.getD (0 : Int32).toNatClampNeg 0))] [(.int (dl.getD (0 : Int32).toNatClampNeg 0)), (.int (own_rank (cl.getD (0 : Int32).toNatClampNeg 0)))])) (fun t k => st21 t (XS.iload X21.here hx rfl (hb hby d2_55) rfl k)) ?_
        obtain ⟨_, _, ⟨T22, L22, k22, n22⟩, -, X22, ⟨Lc22, hQ22, l22, y22, z22⟩, st22⟩ := Jvm.LawKit.callS X21 hx (y := (⟨"com/example/known_paths/knownpaths/item/CodePointOrder", "rank", "(C)I"⟩ : MethodName)) hown (mvT hZ (wq hw 92 rfl)) (mvT hZ (wq hw 93 rfl)) (mvT hZ (wq hw 14 rfl)) (mvT hZ (wq hw 94 rfl)) (by decide) (backOf (W := 1) (rm_rank l Z a0 hw [] (dl.getD (0 : Int32).toNatClampNeg 0) h0 n0 Z0) hZ (wq hw 94 rfl) (wq hw 14 rfl) (by decide) (by decide)) (g := (mkF m 57 #[.val (.ref a), .val (.ref d), .val (.int (own_min (Int32.ofNat cl.length) (Int32.ofNat dl.length))), .val (.int (0 : Int32)), .val (.int (cl.getD (0 : Int32).toNatClampNeg 0)), .val (.int (dl.getD (0 : Int32).toNatClampNeg 0))] [(.int (dl.getD (0 : Int32).toNatClampNeg 0)), (.int (own_rank (cl.getD (0 : Int32).toNatClampNeg 0)))])) rfl (by rw [hml]; rfl) (argsL := [(.int (dl.getD (0 : Int32).toNatClampNeg 0))]) (rest := [(.int (own_rank (cl.getD (0 : Int32).toNatClampNeg 0)))]) (lenOf pd__28C_29I rfl) rfl (by show 2 * 0 + _ ≤ _; exact Nat.le_of_eq rfl) (hb hby d2_57) (fun _ _ => ⟨rfl, HQ21, (by decide : 0 + 0 ≤ _), (by decide : 0 + 0 ≤ _)⟩)
        dsimp only [Pt.U, Pt.locs, Pt.cells, Pt.slots] at X22 l22 y22 z22 st22 hQ22
        subst l22 y22 z22
        obtain ⟨rfl, N22q, HQ22⟩ := hQ22
        have N22 := Fr.app N21 N22q
        refine Goes.pre (U' := T22.setTop (mkF m 61 #[.val (.ref a), .val (.ref d), .val (.int (own_min (Int32.ofNat cl.length) (Int32.ofNat dl.length))), .val (.int (0 : Int32)), .val (.int (cl.getD (0 : Int32).toNatClampNeg 0)), .val (.int (dl.getD (0 : Int32).toNatClampNeg 0))] [(.int ((own_rank (cl.getD (0 : Int32).toNatClampNeg 0)) - (own_rank (dl.getD (0 : Int32).toNatClampNeg 0))))])) (fun t k => st22 t (XS.isub X22.here hx rfl (hb hby d2_60) rfl k)) ?_
        refine Goes.ret X22 (v := (some (.int ((own_rank (cl.getD (0 : Int32).toNatClampNeg 0)) - (own_rank (dl.getD (0 : Int32).toNatClampNeg 0)))))) (fun h => by rw [hret] at h; cases h) hlk (by decide) (by decide) HQ22 (fun fs hr => retI X22 hx hret (hb hby d2_61) hr) ?_
        exact ⟨ev, congrArg (fun z => some (Value.int z)) (show ((own_rank (cl.getD (0 : Int32).toNatClampNeg 0)) - (own_rank (dl.getD (0 : Int32).toNatClampNeg 0))) = own_cmp ev cl dl from (show own_cmp ev cl dl = ((own_rank (cl.getD (0 : Int32).toNatClampNeg 0)) - (own_rank (dl.getD (0 : Int32).toNatClampNeg 0))) from by unfold own_cmp; rw [if_pos hc5, if_pos hc26, if_neg hc47]).symm), N22, rfl, hx1⟩
    ·
      refine Goes.pre (U' := T4.setTop (mkF m 69 #[.val (.ref a), .val (.ref d), .val (.int (own_min (Int32.ofNat cl.length) (Int32.ofNat dl.length))), .val (.int (0 : Int32)), .unset, .unset] [(.ref a)])) (fun t k => XS.icmpYes X4.here hx rfl (pc0 := 26) (pc' := 68) rfl (hb hby d2_26) rfl (flt hc26).2.1 (by decide) (by decide) (XS.aloadN X4.here hx rfl (hb hby d2_68) rfl rfl k)) ?_
      obtain ⟨cq23, kq23, q23a, q23b, q23c⟩ := isOf hZ HQ4 S_a.1
      obtain ⟨_, _, ⟨T23, L23, k23, n23⟩, -, X23, ⟨Lc23, hQ23, l23, y23, z23⟩, st23⟩ := X4.virtualBack hx (y := (⟨"java/lang/String", "length", "()I"⟩ : MethodName)) (z := (⟨"java/lang/String", "length", "()I"⟩ : MethodName)) hown (mvT hZ (wq hw 57 rfl)) (mvT hZ (wq hw 58 rfl)) (notFace_of_selects (args := #[]) (mvT hZ (wq hw 60 rfl))) (mvT hZ (wq hw 60 rfl)) (mvT hZ (wq hw 59 rfl)) (by decide) (backOf (W := 0) (rm_len l Z a0 hw [] a b ka cl cs h0 n0 Z0 S_a S_COMPACT_STRINGS hcs (Nat.le_trans hl1 (by decide)) O) hZ (wq hw 61 rfl) (wq hw 5 rfl) (by decide) (by decide)) q23a q23c (g := (mkF m 69 #[.val (.ref a), .val (.ref d), .val (.int (own_min (Int32.ofNat cl.length) (Int32.ofNat dl.length))), .val (.int (0 : Int32)), .unset, .unset] [(.ref a)])) rfl (by rw [hml]; rfl) (Steps.refl _) (argsL := []) (rest := []) (lenOf pd__28_29I rfl) rfl (by show 2 * 0 + _ ≤ _; exact Nat.le_of_eq rfl) (hb hby d2_69) (fun _ _ => ⟨rfl, HQ4, (by decide : 0 + 0 ≤ _), (by decide : 0 + 0 ≤ _)⟩)
      dsimp only [Pt.U, Pt.locs, Pt.cells, Pt.slots] at X23 l23 y23 z23 st23 hQ23
      subst l23 y23 z23
      obtain ⟨rfl, N23q, HQ23⟩ := hQ23
      have N23 := Fr.app N4 N23q
      refine Goes.pre (U' := T23.setTop (mkF m 73 #[.val (.ref a), .val (.ref d), .val (.int (own_min (Int32.ofNat cl.length) (Int32.ofNat dl.length))), .val (.int (0 : Int32)), .unset, .unset] [(.ref d), (.int (Int32.ofNat cl.length))])) (fun t k => st23.trans (XS.aloadN X23.here hx rfl (hb hby d2_72) rfl rfl k)) ?_
      obtain ⟨cq24, kq24, q24a, q24b, q24c⟩ := isOf hZ HQ23 S_d.1
      obtain ⟨_, _, ⟨T24, L24, k24, n24⟩, -, X24, ⟨Lc24, hQ24, l24, y24, z24⟩, st24⟩ := X23.virtualBack hx (y := (⟨"java/lang/String", "length", "()I"⟩ : MethodName)) (z := (⟨"java/lang/String", "length", "()I"⟩ : MethodName)) hown (mvT hZ (wq hw 57 rfl)) (mvT hZ (wq hw 58 rfl)) (notFace_of_selects (args := #[]) (mvT hZ (wq hw 60 rfl))) (mvT hZ (wq hw 60 rfl)) (mvT hZ (wq hw 59 rfl)) (by decide) (backOf (W := 1) (rm_len l Z a0 hw [] d f kf dl cs h0 n0 Z0 S_d S_COMPACT_STRINGS hcs (Nat.le_trans hl2 (by decide)) O) hZ (wq hw 61 rfl) (wq hw 5 rfl) (by decide) (by decide)) q24a q24c (g := (mkF m 73 #[.val (.ref a), .val (.ref d), .val (.int (own_min (Int32.ofNat cl.length) (Int32.ofNat dl.length))), .val (.int (0 : Int32)), .unset, .unset] [(.ref d), (.int (Int32.ofNat cl.length))])) rfl (by rw [hml]; rfl) (Steps.refl _) (argsL := []) (rest := [(.int (Int32.ofNat cl.length))]) (lenOf pd__28_29I rfl) rfl (by show 2 * 0 + _ ≤ _; exact Nat.le_of_eq rfl) (hb hby d2_73) (fun _ _ => ⟨rfl, HQ23, (by decide : 0 + 0 ≤ _), (by decide : 0 + 0 ≤ _)⟩)
      dsimp only [Pt.U, Pt.locs, Pt.cells, Pt.slots] at X24 l24 y24 z24 st24 hQ24
      subst l24 y24 z24
      obtain ⟨rfl, N24q, HQ24⟩ := hQ24
      have N24 := Fr.app N23 N24q
      refine Goes.pre (U' := T24.setTop (mkF m 77 #[.val (.ref a), .val (.ref d), .val (.int (own_min (Int32.ofNat cl.length) (Int32.ofNat dl.length))), .val (.int (0 : Int32)), .unset, .unset] [(.int ((Int32.ofNat cl.length) - (Int32.ofNat dl.length)))])) (fun t k => st24.trans (XS.isub X24.here hx rfl (hb hby d2_76) rfl k)) ?_
      refine Goes.ret X24 (v := (some (.int ((Int32.ofNat cl.length) - (Int32.ofNat dl.length))))) (fun h => by rw [hret] at h; cases h) hlk (by decide) (by decide) HQ24 (fun fs hr => retI X24 hx hret (hb hby d2_77) hr) ?_
      exact ⟨ev, congrArg (fun z => some (Value.int z)) (show ((Int32.ofNat cl.length) - (Int32.ofNat dl.length)) = own_cmp ev cl dl from (show own_cmp ev cl dl = ((Int32.ofNat cl.length) - (Int32.ofNat dl.length)) from by unfold own_cmp; rw [if_pos hc5, if_neg hc26]).symm), N24, rfl, hx1⟩
  ·
    refine Goes.pre (U' := T1.setTop (mkF m 9 #[.val (.ref a), .val (.ref d), .unset, .unset, .unset, .unset] [(.int (0 : Int32))])) (fun t k => XS.ifNo X1.here hx rfl (hb hby d2_5) rfl ((if0 _ _).trans (feq hc5).1) (XS.iconst X1.here hx rfl (hb hby d2_8) k)) ?_
    refine Goes.ret X1 (v := (some (.int (0 : Int32)))) (fun h => by rw [hret] at h; cases h) hlk (by decide) (by decide) HQ1 (fun fs hr => retI X1 hx hret (hb hby d2_9) hr) ?_
    exact ⟨ev, congrArg (fun z => some (Value.int z)) (show (0 : Int32) = own_cmp ev cl dl from (show own_cmp ev cl dl = (0 : Int32) from by unfold own_cmp; rw [if_neg hc5]).symm), N1, rfl, hx1⟩
def own_sgI (x : Int) : Int := if x < 0 then -1 else if 0 < x then 1 else 0
def own_cmpL : List Int32 → List Int32 → Int
  | [], [] => 0
  | [], _ :: _ => -1
  | _ :: _, [] => 1
  | a :: x, b :: y => if a = b then own_cmpL x y else own_sgI ((own_rank a).toInt - (own_rank b).toInt)
theorem own_cmpLs : ∀ x : List Int32, own_cmpL x x = 0
  | [] => rfl
  | a :: x => by
    unfold own_cmpL
    rw [if_pos rfl]
    exact own_cmpLs x
theorem own_rankv (a : Int32) (h : OwnCh a) : (own_rank a).toInt = if a.toInt < 55296 then a.toInt else if a.toInt < 57344 then a.toInt + 8192 else a.toInt - 2048 := by
  obtain ⟨h0, h1⟩ := h
  have q := c_iadd a 8192
  have r := rng32 (a + 8192)
  have q2 := c_isub a 2048
  have r2 := rng32 (a - 2048)
  have k : (8192 : Int32).toInt = 8192 := by decide
  have k0 : (2048 : Int32).toInt = 2048 := by decide
  have k1 : (55296 : Int32).toInt = 55296 := by decide
  have k2 : (57344 : Int32).toInt = 57344 := by decide
  unfold own_rank own_isSur
  simp only [Int32.lt_iff_toInt_lt, k1, k2]
  by_cases c1 : a.toInt < 55296
  · rw [if_pos c1, if_pos rfl, if_pos (by omega), if_pos c1]
  · rw [if_neg c1, if_neg c1]
    by_cases c2 : a.toInt < 57344
    · rw [if_pos c2, if_neg (by decide), if_pos c2]
      omega
    · rw [if_neg c2, if_pos rfl, if_neg c2, if_neg c2]
      omega
theorem own_keyv (a : Int32) (h : OwnCh a) : (own_key a).toInt = if a.toInt < 55296 then a.toInt else if a.toInt < 57344 then a.toInt + 65536 else a.toInt := by
  obtain ⟨h0, h1⟩ := h
  have q := c_iadd a 65536
  have r := rng32 (a + 65536)
  have k : (65536 : Int32).toInt = 65536 := by decide
  have k1 : (55296 : Int32).toInt = 55296 := by decide
  have k2 : (57343 : Int32).toInt = 57343 := by decide
  unfold own_key
  simp only [Int32.lt_iff_toInt_lt, k1, k2]
  by_cases c1 : a.toInt < 55296
  · rw [if_pos c1, if_pos c1]
  · rw [if_neg c1, if_neg c1]
    by_cases c2 : a.toInt < 57344
    · rw [if_neg (by omega), if_pos c2]
      omega
    · rw [if_pos (by omega), if_neg c2]
theorem own_signv (x : Int32) : (own_sgn x).toInt = own_sgI x.toInt := by
  unfold own_sgn own_sgI
  simp only [Int32.lt_iff_toInt_lt, show (0 : Int32).toInt = 0 from by decide]
  split
  · decide
  · split <;> decide
theorem own_ranks (a b : Int32) (ha : OwnCh a) (hb : OwnCh b) : (own_sgn (own_rank a - own_rank b)).toInt = own_sgI ((own_rank a).toInt - (own_rank b).toInt) := by
  rw [own_signv]
  have q := c_isub (own_rank a) (own_rank b)
  have r := rng32 (own_rank a - own_rank b)
  have e1 := own_rankv a ha
  have e2 := own_rankv b hb
  obtain ⟨h0, h1⟩ := ha
  obtain ⟨h2, h3⟩ := hb
  have e : (own_rank a - own_rank b).toInt = (own_rank a).toInt - (own_rank b).toInt := by
    repeat' split at e1
    all_goals repeat' split at e2
    all_goals omega
  rw [e]
theorem own_keys (a b : Int32) (ha : OwnCh a) (hb : OwnCh b) : (own_sgn (own_key a - own_key b)).toInt = own_sgI ((own_rank a).toInt - (own_rank b).toInt) := by
  rw [own_signv]
  have q := c_isub (own_key a) (own_key b)
  have r := rng32 (own_key a - own_key b)
  have e1 := own_rankv a ha
  have e2 := own_rankv b hb
  have f1 := own_keyv a ha
  have f2 := own_keyv b hb
  obtain ⟨h0, h1⟩ := ha
  obtain ⟨h2, h3⟩ := hb
  rw [e1, e2]
  unfold own_sgI
  by_cases c1 : a.toInt < 55296 <;> by_cases c2 : a.toInt < 57344 <;> by_cases c3 : b.toInt < 55296 <;> by_cases c4 : b.toInt < 57344 <;> simp only [c1, c2, c3, c4, if_true, if_false] at f1 f2 ⊢ <;> (repeat' split) <;> first | rfl | omega
theorem own_n4 (x n : Int32) (h : n = x &&& 3) : n = 0 ∨ n = 1 ∨ n = 2 ∨ n = 3 := by
  have q := c_and x 3 (by decide)
  rw [← h] at q
  have q3 : (3 : Int32).toInt = 3 := by decide
  have h0 : (0 : Int32).toInt = 0 := by decide
  have h1 : (1 : Int32).toInt = 1 := by decide
  have h2 : (2 : Int32).toInt = 2 := by decide
  simp only [← Int32.toInt_inj]
  omega
set_option maxHeartbeats 4000000 in
theorem own_cmpv (cl dl : List Int32) (h1 : cl.length ≤ 3) (h2 : dl.length ≤ 3) (c1 : ∀ c ∈ cl, OwnCh c) (c2 : ∀ c ∈ dl, OwnCh c) : (own_sgn (own_cmp 0 cl dl)).toInt = own_cmpL cl dl := by
  have g0 : (0 : Int32).toNatClampNeg = 0 := by decide
  have g1 : (1 : Int32).toNatClampNeg = 1 := by decide
  have g2 : (2 : Int32).toNatClampNeg = 2 := by decide
  unfold own_cmp
  rw [if_pos rfl]
  rcases cl with _ | ⟨a0, _ | ⟨a1, _ | ⟨a2, _ | ⟨a3, cl⟩⟩⟩⟩ <;> rcases dl with _ | ⟨b0, _ | ⟨b1, _ | ⟨b2, _ | ⟨b3, dl⟩⟩⟩⟩ <;>
    first
    | (exfalso; simp at h1; done)
    | (exfalso; simp at h2; done)
    | (simp only [g0, g1, g2, List.length_cons, List.length_nil, List.getD_cons_zero, List.getD_cons_succ, own_cmpL]
       simp only [List.mem_cons, List.not_mem_nil, or_false, forall_eq_or_imp, forall_eq] at c1 c2
       repeat' split
       all_goals first
         | (exfalso; revert ‹_ < _›; decide)
         | (exfalso; revert ‹¬ (_ < _)›; decide)
         | (exact absurd ‹_ = _› ‹¬ (_ = _)›)
         | decide
         | (apply own_ranks <;> simp_all; done))
set_option maxHeartbeats 4000000 in
theorem own_refv (n m c0 c1 c2 d0 d1 d2 : Int32) (hn : n = 0 ∨ n = 1 ∨ n = 2 ∨ n = 3) (hm : m = 0 ∨ m = 1 ∨ m = 2 ∨ m = 3) (h0 : OwnCh c0) (h1 : OwnCh c1) (h2 : OwnCh c2) (h3 : OwnCh d0) (h4 : OwnCh d1) (h5 : OwnCh d2) : (own_ref n c0 c1 c2 m d0 d1 d2).toInt = own_cmpL (own_mk n c0 c1 c2) (own_mk m d0 d1 d2) := by
  have k10 : ¬ ((1 : Int32) = 0) := by decide
  have k20 : ¬ ((2 : Int32) = 0) := by decide
  have k30 : ¬ ((3 : Int32) = 0) := by decide
  have k21 : ¬ ((2 : Int32) = 1) := by decide
  have k31 : ¬ ((3 : Int32) = 1) := by decide
  have k32 : ¬ ((3 : Int32) = 2) := by decide
  have e0 := own_keys c0 d0 h0 h3
  have e1 := own_keys c1 d1 h1 h4
  have e2 := own_keys c2 d2 h2 h5
  by_cases q0 : c0 = d0 <;> by_cases q1 : c1 = d1 <;> by_cases q2 : c2 = d2 <;>
    rcases hn with rfl | rfl | rfl | rfl <;> rcases hm with rfl | rfl | rfl | rfl <;>
    simp only [own_mk, own_ref, own_cmpL, q0, q1, q2, if_neg k10, if_neg k20, if_neg k30, if_neg k21, if_neg k31, if_neg k32, if_true, if_false] <;>
    first | decide | exact e0 | exact e1 | exact e2
theorem own_mkch (n c0 c1 c2 : Int32) (h0 : OwnCh c0) (h1 : OwnCh c1) (h2 : OwnCh c2) : ∀ c ∈ own_mk n c0 c1 c2, OwnCh c := by
  unfold own_mk
  repeat' split
  · exact own_cN
  · exact own_cA h0 own_cN
  · exact own_cA h0 (own_cA h1 own_cN)
  · exact own_cA h0 (own_cA h1 (own_cA h2 own_cN))
theorem own_law (ev n m c0 c1 c2 d0 d1 d2 : Int32) (hn : n = 0 ∨ n = 1 ∨ n = 2 ∨ n = 3) (hm : m = 0 ∨ m = 1 ∨ m = 2 ∨ m = 3) (h0 : OwnCh c0) (h1 : OwnCh c1) (h2 : OwnCh c2) (h3 : OwnCh d0) (h4 : OwnCh d1) (h5 : OwnCh d2) (he : ¬ (ev = (0 : Int32)) → own_mk n c0 c1 c2 = own_mk m d0 d1 d2) : own_sgn (own_cmp ev (own_mk n c0 c1 c2) (own_mk m d0 d1 d2)) = own_ref n c0 c1 c2 m d0 d1 d2 := by
  apply Int32.toInt_inj.mp
  rw [own_refv n m c0 c1 c2 d0 d1 d2 hn hm h0 h1 h2 h3 h4 h5]
  by_cases q : ev = (0 : Int32)
  · subst q
    exact own_cmpv _ _ (own_mk_len _ _ _ _) (own_mk_len _ _ _ _) (own_mkch _ _ _ _ h0 h1 h2) (own_mkch _ _ _ _ h3 h4 h5)
  · rw [he q, own_cmpLs]
    unfold own_cmp
    rw [if_neg q]
    decide
theorem ef_rm0 (m : MethodId) (x0 : Int64) (x1 : Int64) (x2 : Int32) : entryFrame m #[(.long x0), (.long x1), (.int x2)] maxLocals = mkF m 0 #[.val (.long x0), .second, .val (.long x1), .second, .val (.int x2), .unset, .unset, .unset, .unset, .unset, .unset, .unset, .unset, .unset, .unset, .unset] [] := by first | (simp [entryFrame, mkF, argsToLocals, Value.category, maxLocals]; done) | rfl
theorem pd__28ICCC_29Ljava_2flang_2fString_3b : parseMethodDescriptor "(ICCC)Ljava/lang/String;" = some ⟨[.int, .char, .char, .char], some (.object "java/lang/String")⟩ := by decide +kernel
theorem pd__28Ljava_2flang_2fString_3bLjava_2flang_2fString_3b_29I : parseMethodDescriptor "(Ljava/lang/String;Ljava/lang/String;)I" = some ⟨[(.object "java/lang/String"), (.object "java/lang/String")], some .int⟩ := by decide +kernel
theorem pd__28ICCCICCC_29I : parseMethodDescriptor "(ICCCICCC)I" = some ⟨[.int, .char, .char, .char, .int, .char, .char, .char], some .int⟩ := by decide +kernel
def Q_rm0 (Z : State) (p1 p2 : Int64) (p3 : Int32) (cs : Int32) (sf : Value) (h0 : Heap) (n0 : Nat) (v : Option Value) (h : Heap) (L : List Loc) : Prop := v = some (.int 1) ∧ Fr n0 L
set_option maxRecDepth 65536 in
set_option maxHeartbeats 40000000 in
theorem rm0 (l : Launch) (Z : State) (a0 : Array Value) (hw : ∀ d ∈ tables_1, d.before a0 Z = true) (hEL : EW Z a0 own_EL) (ws : List Jvm.Cond) (p1 p2 : Int64) (p3 : Int32) (cs : Int32) (sf : Value) (h0 : Heap) (n0 : Nat) (Z0 : n0 ≤ h0.size) (S_COMPACT_STRINGS : Sta Z Z.heap "java/lang/String" "COMPACT_STRINGS" "Z" (.int cs)) (S__assertionsDisabled : Sta Z Z.heap "java/lang/StringUTF16" "$assertionsDisabled" "Z" (.int (1 : Int32))) (S_HI_BYTE_SHIFT : Sta Z Z.heap "java/lang/StringUTF16" "HI_BYTE_SHIFT" "I" (.int (0 : Int32))) (S_LO_BYTE_SHIFT : Sta Z Z.heap "java/lang/StringUTF16" "LO_BYTE_SHIFT" "I" (.int (8 : Int32))) (S_SIOOBE_FORMATTER : Sta Z Z.heap "jdk/internal/util/Preconditions" "SIOOBE_FORMATTER" "Ljava/util/function/BiFunction;" sf) (hcs : ¬ (cs = (0 : Int32))) (hsf : sf.isRef = true) (O : Old Z n0 h0) :
    MetW l Z own_EL x code maxLocals ret ws room_1 #[(.long p1), (.long p2), (.int p3)] [] h0 (Q_rm0 Z p1 p2 p3 cs sf h0 n0) := by
  refine metW_of (plainFor_of_name pn_com_example_known_paths_knownpaths_item_CodePointOrderComparePinLaw) (own := "com/example/known_paths/knownpaths/item/CodePointOrderComparePinLaw") rfl (fun m => ef_rm0 m p1 p2 p3) ?_
  intro p e s m below meth c s₁ hx hby hml hown hnm hZ X0 e0 hret hlk H hSf CR hS
  have hml : c.maxLocals = 16 := hml
  have N0 := Fr.nil n0
  have hk := Nat.le_refl h0.size
  show GoesW p e below s Z own_EL _ _ _ (s₁.setTop (mkF m 0 #[.val (.long p1), .second, .val (.long p2), .second, .val (.int p3), .unset, .unset, .unset, .unset, .unset, .unset, .unset, .unset, .unset, .unset, .unset] []))
  refine GoesW.pre (U' := s₁.setTop (mkF m 6 #[.val (.long p1), .second, .val (.long p2), .second, .val (.int p3), .val (.int (p3 &&& (3 : Int32))), .unset, .unset, .unset, .unset, .unset, .unset, .unset, .unset, .unset, .unset] [])) (fun t k => XS.iload X0.here hx rfl (hb hby at_0) rfl (XS.iconst X0.here hx rfl (hb hby at_2) (XS.iand X0.here hx rfl (hb hby at_3) rfl (XS.istore X0.here hx rfl (hb hby at_4) rfl (l' := #[.val (.long p1), .second, .val (.long p2), .second, .val (.int p3), .val (.int (p3 &&& (3 : Int32))), .unset, .unset, .unset, .unset, .unset, .unset, .unset, .unset, .unset, .unset]) rfl k)))) ?_
  obtain ⟨na, hna⟩ : ∃ z : Int32, z = (p3 &&& (3 : Int32)) := ⟨_, rfl⟩
  rw [← hna]
  refine GoesW.pre (U' := s₁.setTop (mkF m 14 #[.val (.long p1), .second, .val (.long p2), .second, .val (.int p3), .val (.int na), .val (.int (((p3.toUInt32 >>> ((2 : Int32) &&& 31).toUInt32).toInt32) &&& (3 : Int32))), .unset, .unset, .unset, .unset, .unset, .unset, .unset, .unset, .unset] [])) (fun t k => XS.iload X0.here hx rfl (hb hby at_6) rfl (XS.iconst X0.here hx rfl (hb hby at_8) (XS.iushr X0.here hx rfl (hb hby at_9) rfl (XS.iconst X0.here hx rfl (hb hby at_10) (XS.iand X0.here hx rfl (hb hby at_11) rfl (XS.istore X0.here hx rfl (hb hby at_12) rfl (l' := #[.val (.long p1), .second, .val (.long p2), .second, .val (.int p3), .val (.int na), .val (.int (((p3.toUInt32 >>> ((2 : Int32) &&& 31).toUInt32).toInt32) &&& (3 : Int32))), .unset, .unset, .unset, .unset, .unset, .unset, .unset, .unset, .unset]) rfl k)))))) ?_
  obtain ⟨mb, hmb⟩ : ∃ z : Int32, z = (((p3.toUInt32 >>> ((2 : Int32) &&& 31).toUInt32).toInt32) &&& (3 : Int32)) := ⟨_, rfl⟩
  rw [← hmb]
  refine GoesW.pre (U' := s₁.setTop (mkF m 19 #[.val (.long p1), .second, .val (.long p2), .second, .val (.int p3), .val (.int na), .val (.int mb), .val (.int ((p1.toInt32).toUInt32.toUInt16.toUInt32.toInt32)), .unset, .unset, .unset, .unset, .unset, .unset, .unset, .unset] [])) (fun t k => XS.lloadN X0.here hx rfl (hb hby at_14) rfl (XS.l2i X0.here hx rfl (hb hby at_15) rfl (XS.i2c X0.here hx rfl (hb hby at_16) rfl (XS.istore X0.here hx rfl (hb hby at_17) rfl (l' := #[.val (.long p1), .second, .val (.long p2), .second, .val (.int p3), .val (.int na), .val (.int mb), .val (.int ((p1.toInt32).toUInt32.toUInt16.toUInt32.toInt32)), .unset, .unset, .unset, .unset, .unset, .unset, .unset, .unset]) rfl k)))) ?_
  obtain ⟨ca, hca⟩ : ∃ z : Int32, z = ((p1.toInt32).toUInt32.toUInt16.toUInt32.toInt32) := ⟨_, rfl⟩
  rw [← hca]
  have hch_ca : OwnCh ca := by rw [hca]; exact own_isch _
  refine GoesW.pre (U' := s₁.setTop (mkF m 27 #[.val (.long p1), .second, .val (.long p2), .second, .val (.int p3), .val (.int na), .val (.int mb), .val (.int ca), .val (.int ((((p1.toUInt64 >>> ((16 : Int32) &&& 0x3f).toInt64.toUInt64).toInt64).toInt32).toUInt32.toUInt16.toUInt32.toInt32)), .unset, .unset, .unset, .unset, .unset, .unset, .unset] [])) (fun t k => XS.lloadN X0.here hx rfl (hb hby at_19) rfl (XS.bipush X0.here hx rfl (hb hby at_20) (XS.lushr X0.here hx rfl (hb hby at_22) rfl (XS.l2i X0.here hx rfl (hb hby at_23) rfl (XS.i2c X0.here hx rfl (hb hby at_24) rfl (XS.istore X0.here hx rfl (hb hby at_25) rfl (l' := #[.val (.long p1), .second, .val (.long p2), .second, .val (.int p3), .val (.int na), .val (.int mb), .val (.int ca), .val (.int ((((p1.toUInt64 >>> ((16 : Int32) &&& 0x3f).toInt64.toUInt64).toInt64).toInt32).toUInt32.toUInt16.toUInt32.toInt32)), .unset, .unset, .unset, .unset, .unset, .unset, .unset]) rfl k)))))) ?_
  obtain ⟨cb, hcb⟩ : ∃ z : Int32, z = ((((p1.toUInt64 >>> ((16 : Int32) &&& 0x3f).toInt64.toUInt64).toInt64).toInt32).toUInt32.toUInt16.toUInt32.toInt32) := ⟨_, rfl⟩
  rw [← hcb]
  have hch_cb : OwnCh cb := by rw [hcb]; exact own_isch _
  refine GoesW.pre (U' := s₁.setTop (mkF m 35 #[.val (.long p1), .second, .val (.long p2), .second, .val (.int p3), .val (.int na), .val (.int mb), .val (.int ca), .val (.int cb), .val (.int ((((p1.toUInt64 >>> ((32 : Int32) &&& 0x3f).toInt64.toUInt64).toInt64).toInt32).toUInt32.toUInt16.toUInt32.toInt32)), .unset, .unset, .unset, .unset, .unset, .unset] [])) (fun t k => XS.lloadN X0.here hx rfl (hb hby at_27) rfl (XS.bipush X0.here hx rfl (hb hby at_28) (XS.lushr X0.here hx rfl (hb hby at_30) rfl (XS.l2i X0.here hx rfl (hb hby at_31) rfl (XS.i2c X0.here hx rfl (hb hby at_32) rfl (XS.istore X0.here hx rfl (hb hby at_33) rfl (l' := #[.val (.long p1), .second, .val (.long p2), .second, .val (.int p3), .val (.int na), .val (.int mb), .val (.int ca), .val (.int cb), .val (.int ((((p1.toUInt64 >>> ((32 : Int32) &&& 0x3f).toInt64.toUInt64).toInt64).toInt32).toUInt32.toUInt16.toUInt32.toInt32)), .unset, .unset, .unset, .unset, .unset, .unset]) rfl k)))))) ?_
  obtain ⟨cc, hcc⟩ : ∃ z : Int32, z = ((((p1.toUInt64 >>> ((32 : Int32) &&& 0x3f).toInt64.toUInt64).toInt64).toInt32).toUInt32.toUInt16.toUInt32.toInt32) := ⟨_, rfl⟩
  rw [← hcc]
  have hch_cc : OwnCh cc := by rw [hcc]; exact own_isch _
  suffices J54_1 : ∀ (da : Int32) (hch_da : OwnCh da), GoesW p e below s Z own_EL (Q_rm0 Z p1 p2 p3 cs sf h0 n0) room_1.cells room_1.slots (s₁.setTop (mkF m 54 #[.val (.long p1), .second, .val (.long p2), .second, .val (.int p3), .val (.int na), .val (.int mb), .val (.int ca), .val (.int cb), .val (.int cc), .val (.int da), .unset, .unset, .unset, .unset, .unset] [])) by
    refine GoesW.pre (U' := s₁.setTop (mkF m 41 #[.val (.long p1), .second, .val (.long p2), .second, .val (.int p3), .val (.int na), .val (.int mb), .val (.int ca), .val (.int cb), .val (.int cc), .unset, .unset, .unset, .unset, .unset, .unset] [(.int (((p3.toUInt32 >>> ((4 : Int32) &&& 31).toUInt32).toInt32) &&& (1 : Int32)))])) (fun t k => XS.iload X0.here hx rfl (hb hby at_35) rfl (XS.iconst X0.here hx rfl (hb hby at_37) (XS.iushr X0.here hx rfl (hb hby at_38) rfl (XS.iconst X0.here hx rfl (hb hby at_39) (XS.iand X0.here hx rfl (hb hby at_40) rfl k))))) ?_
    by_cases hc41 : (((p3.toUInt32 >>> ((4 : Int32) &&& 31).toUInt32).toInt32) &&& (1 : Int32)) = (0 : Int32)
    ·
      refine GoesW.pre (U' := s₁.setTop (mkF m 54 #[.val (.long p1), .second, .val (.long p2), .second, .val (.int p3), .val (.int na), .val (.int mb), .val (.int ca), .val (.int cb), .val (.int cc), .val (.int ((p2.toInt32).toUInt32.toUInt16.toUInt32.toInt32)), .unset, .unset, .unset, .unset, .unset] [])) (fun t k => XS.ifYes X0.here hx rfl (pc0 := 41) (pc' := 49) rfl (hb hby at_41) rfl ((if0 _ _).trans (teq hc41).1) (by decide) (by decide) (XS.lloadN X0.here hx rfl (hb hby at_49) rfl (XS.l2i X0.here hx rfl (hb hby at_50) rfl (XS.i2c X0.here hx rfl (hb hby at_51) rfl (XS.istore X0.here hx rfl (hb hby at_52) rfl (l' := #[.val (.long p1), .second, .val (.long p2), .second, .val (.int p3), .val (.int na), .val (.int mb), .val (.int ca), .val (.int cb), .val (.int cc), .val (.int ((p2.toInt32).toUInt32.toUInt16.toUInt32.toInt32)), .unset, .unset, .unset, .unset, .unset]) rfl k))))) ?_
      exact J54_1 ((p2.toInt32).toUInt32.toUInt16.toUInt32.toInt32) (own_isch _)
    ·
      refine GoesW.pre (U' := s₁.setTop (mkF m 54 #[.val (.long p1), .second, .val (.long p2), .second, .val (.int p3), .val (.int na), .val (.int mb), .val (.int ca), .val (.int cb), .val (.int cc), .val (.int ca), .unset, .unset, .unset, .unset, .unset] [])) (fun t k => XS.ifNo X0.here hx rfl (hb hby at_41) rfl ((if0 _ _).trans (feq hc41).1) (XS.iload X0.here hx rfl (hb hby at_44) rfl (XS.goto X0.here hx rfl (pc0 := 46) (pc' := 52) rfl (hb hby at_46) (by decide) (by decide) (XS.istore X0.here hx rfl (hb hby at_52) rfl (l' := #[.val (.long p1), .second, .val (.long p2), .second, .val (.int p3), .val (.int na), .val (.int mb), .val (.int ca), .val (.int cb), .val (.int cc), .val (.int ca), .unset, .unset, .unset, .unset, .unset]) rfl k)))) ?_
      exact J54_1 ca (hch_ca)
  intro da hch_da
  suffices J76_3 : ∀ (db : Int32) (hch_db : OwnCh db), GoesW p e below s Z own_EL (Q_rm0 Z p1 p2 p3 cs sf h0 n0) room_1.cells room_1.slots (s₁.setTop (mkF m 76 #[.val (.long p1), .second, .val (.long p2), .second, .val (.int p3), .val (.int na), .val (.int mb), .val (.int ca), .val (.int cb), .val (.int cc), .val (.int da), .val (.int db), .unset, .unset, .unset, .unset] [])) by
    refine GoesW.pre (U' := s₁.setTop (mkF m 60 #[.val (.long p1), .second, .val (.long p2), .second, .val (.int p3), .val (.int na), .val (.int mb), .val (.int ca), .val (.int cb), .val (.int cc), .val (.int da), .unset, .unset, .unset, .unset, .unset] [(.int (((p3.toUInt32 >>> ((5 : Int32) &&& 31).toUInt32).toInt32) &&& (1 : Int32)))])) (fun t k => XS.iload X0.here hx rfl (hb hby at_54) rfl (XS.iconst X0.here hx rfl (hb hby at_56) (XS.iushr X0.here hx rfl (hb hby at_57) rfl (XS.iconst X0.here hx rfl (hb hby at_58) (XS.iand X0.here hx rfl (hb hby at_59) rfl k))))) ?_
    by_cases hc60 : (((p3.toUInt32 >>> ((5 : Int32) &&& 31).toUInt32).toInt32) &&& (1 : Int32)) = (0 : Int32)
    ·
      refine GoesW.pre (U' := s₁.setTop (mkF m 76 #[.val (.long p1), .second, .val (.long p2), .second, .val (.int p3), .val (.int na), .val (.int mb), .val (.int ca), .val (.int cb), .val (.int cc), .val (.int da), .val (.int ((((p2.toUInt64 >>> ((16 : Int32) &&& 0x3f).toInt64.toUInt64).toInt64).toInt32).toUInt32.toUInt16.toUInt32.toInt32)), .unset, .unset, .unset, .unset] [])) (fun t k => XS.ifYes X0.here hx rfl (pc0 := 60) (pc' := 68) rfl (hb hby at_60) rfl ((if0 _ _).trans (teq hc60).1) (by decide) (by decide) (XS.lloadN X0.here hx rfl (hb hby at_68) rfl (XS.bipush X0.here hx rfl (hb hby at_69) (XS.lushr X0.here hx rfl (hb hby at_71) rfl (XS.l2i X0.here hx rfl (hb hby at_72) rfl (XS.i2c X0.here hx rfl (hb hby at_73) rfl (XS.istore X0.here hx rfl (hb hby at_74) rfl (l' := #[.val (.long p1), .second, .val (.long p2), .second, .val (.int p3), .val (.int na), .val (.int mb), .val (.int ca), .val (.int cb), .val (.int cc), .val (.int da), .val (.int ((((p2.toUInt64 >>> ((16 : Int32) &&& 0x3f).toInt64.toUInt64).toInt64).toInt32).toUInt32.toUInt16.toUInt32.toInt32)), .unset, .unset, .unset, .unset]) rfl k))))))) ?_
      exact J76_3 ((((p2.toUInt64 >>> ((16 : Int32) &&& 0x3f).toInt64.toUInt64).toInt64).toInt32).toUInt32.toUInt16.toUInt32.toInt32) (own_isch _)
    ·
      refine GoesW.pre (U' := s₁.setTop (mkF m 76 #[.val (.long p1), .second, .val (.long p2), .second, .val (.int p3), .val (.int na), .val (.int mb), .val (.int ca), .val (.int cb), .val (.int cc), .val (.int da), .val (.int cb), .unset, .unset, .unset, .unset] [])) (fun t k => XS.ifNo X0.here hx rfl (hb hby at_60) rfl ((if0 _ _).trans (feq hc60).1) (XS.iload X0.here hx rfl (hb hby at_63) rfl (XS.goto X0.here hx rfl (pc0 := 65) (pc' := 74) rfl (hb hby at_65) (by decide) (by decide) (XS.istore X0.here hx rfl (hb hby at_74) rfl (l' := #[.val (.long p1), .second, .val (.long p2), .second, .val (.int p3), .val (.int na), .val (.int mb), .val (.int ca), .val (.int cb), .val (.int cc), .val (.int da), .val (.int cb), .unset, .unset, .unset, .unset]) rfl k)))) ?_
      exact J76_3 cb (hch_cb)
  intro db hch_db
  suffices J99_5 : ∀ (dc : Int32) (hch_dc : OwnCh dc), GoesW p e below s Z own_EL (Q_rm0 Z p1 p2 p3 cs sf h0 n0) room_1.cells room_1.slots (s₁.setTop (mkF m 99 #[.val (.long p1), .second, .val (.long p2), .second, .val (.int p3), .val (.int na), .val (.int mb), .val (.int ca), .val (.int cb), .val (.int cc), .val (.int da), .val (.int db), .val (.int dc), .unset, .unset, .unset] [])) by
    refine GoesW.pre (U' := s₁.setTop (mkF m 83 #[.val (.long p1), .second, .val (.long p2), .second, .val (.int p3), .val (.int na), .val (.int mb), .val (.int ca), .val (.int cb), .val (.int cc), .val (.int da), .val (.int db), .unset, .unset, .unset, .unset] [(.int (((p3.toUInt32 >>> ((6 : Int32) &&& 31).toUInt32).toInt32) &&& (1 : Int32)))])) (fun t k => XS.iload X0.here hx rfl (hb hby at_76) rfl (XS.bipush X0.here hx rfl (hb hby at_78) (XS.iushr X0.here hx rfl (hb hby at_80) rfl (XS.iconst X0.here hx rfl (hb hby at_81) (XS.iand X0.here hx rfl (hb hby at_82) rfl k))))) ?_
    by_cases hc83 : (((p3.toUInt32 >>> ((6 : Int32) &&& 31).toUInt32).toInt32) &&& (1 : Int32)) = (0 : Int32)
    ·
      refine GoesW.pre (U' := s₁.setTop (mkF m 99 #[.val (.long p1), .second, .val (.long p2), .second, .val (.int p3), .val (.int na), .val (.int mb), .val (.int ca), .val (.int cb), .val (.int cc), .val (.int da), .val (.int db), .val (.int ((((p2.toUInt64 >>> ((32 : Int32) &&& 0x3f).toInt64.toUInt64).toInt64).toInt32).toUInt32.toUInt16.toUInt32.toInt32)), .unset, .unset, .unset] [])) (fun t k => XS.ifYes X0.here hx rfl (pc0 := 83) (pc' := 91) rfl (hb hby at_83) rfl ((if0 _ _).trans (teq hc83).1) (by decide) (by decide) (XS.lloadN X0.here hx rfl (hb hby at_91) rfl (XS.bipush X0.here hx rfl (hb hby at_92) (XS.lushr X0.here hx rfl (hb hby at_94) rfl (XS.l2i X0.here hx rfl (hb hby at_95) rfl (XS.i2c X0.here hx rfl (hb hby at_96) rfl (XS.istore X0.here hx rfl (hb hby at_97) rfl (l' := #[.val (.long p1), .second, .val (.long p2), .second, .val (.int p3), .val (.int na), .val (.int mb), .val (.int ca), .val (.int cb), .val (.int cc), .val (.int da), .val (.int db), .val (.int ((((p2.toUInt64 >>> ((32 : Int32) &&& 0x3f).toInt64.toUInt64).toInt64).toInt32).toUInt32.toUInt16.toUInt32.toInt32)), .unset, .unset, .unset]) rfl k))))))) ?_
      exact J99_5 ((((p2.toUInt64 >>> ((32 : Int32) &&& 0x3f).toInt64.toUInt64).toInt64).toInt32).toUInt32.toUInt16.toUInt32.toInt32) (own_isch _)
    ·
      refine GoesW.pre (U' := s₁.setTop (mkF m 99 #[.val (.long p1), .second, .val (.long p2), .second, .val (.int p3), .val (.int na), .val (.int mb), .val (.int ca), .val (.int cb), .val (.int cc), .val (.int da), .val (.int db), .val (.int cc), .unset, .unset, .unset] [])) (fun t k => XS.ifNo X0.here hx rfl (hb hby at_83) rfl ((if0 _ _).trans (feq hc83).1) (XS.iload X0.here hx rfl (hb hby at_86) rfl (XS.goto X0.here hx rfl (pc0 := 88) (pc' := 97) rfl (hb hby at_88) (by decide) (by decide) (XS.istore X0.here hx rfl (hb hby at_97) rfl (l' := #[.val (.long p1), .second, .val (.long p2), .second, .val (.int p3), .val (.int na), .val (.int mb), .val (.int ca), .val (.int cb), .val (.int cc), .val (.int da), .val (.int db), .val (.int cc), .unset, .unset, .unset]) rfl k)))) ?_
      exact J99_5 cc (hch_cc)
  intro dc hch_dc
  refine GoesW.pre (U' := s₁.setTop (mkF m 107 #[.val (.long p1), .second, .val (.long p2), .second, .val (.int p3), .val (.int na), .val (.int mb), .val (.int ca), .val (.int cb), .val (.int cc), .val (.int da), .val (.int db), .val (.int dc), .unset, .unset, .unset] [(.int cc), (.int cb), (.int ca), (.int na)])) (fun t k => XS.iload X0.here hx rfl (hb hby at_99) rfl (XS.iload X0.here hx rfl (hb hby at_101) rfl (XS.iload X0.here hx rfl (hb hby at_103) rfl (XS.iload X0.here hx rfl (hb hby at_105) rfl k)))) ?_
  obtain ⟨_, _, ⟨T7, L7, k7, n7⟩, -, X7, hS7, hge7, ⟨Lc7, hQ7, l7, y7, z7, CQ7⟩, st7⟩ := Jvm.RoadKit.callSS X0 hx (y := (⟨"com/example/known_paths/knownpaths/item/CodePointOrderComparePinLaw", "mk", "(ICCC)Ljava/lang/String;"⟩ : MethodName)) hown (mvT hZ (wq hw 0 rfl)) (mvT hZ (wq hw 1 rfl)) (mvT hZ (wq hw 2 rfl)) (mvT hZ (wq hw 3 rfl)) (by decide) (own_backSH (s := s) (W := 0) (rm_mk l Z a0 hw hEL [] na ca cb cc cs h0 n0 Z0 S_COMPACT_STRINGS S__assertionsDisabled S_HI_BYTE_SHIFT S_LO_BYTE_SHIFT (hch_ca) (hch_cb) (hch_cc) hcs O) hZ (wq hw 3 rfl) (wq hw 2 rfl) (by decide) (by decide) hEL H all0) (g := (mkF m 107 #[.val (.long p1), .second, .val (.long p2), .second, .val (.int p3), .val (.int na), .val (.int mb), .val (.int ca), .val (.int cb), .val (.int cc), .val (.int da), .val (.int db), .val (.int dc), .unset, .unset, .unset] [(.int cc), (.int cb), (.int ca), (.int na)])) rfl (by rw [hml]; rfl) (argsL := [(.int na), (.int ca), (.int cb), (.int cc)]) (rest := []) (lenOf pd__28ICCC_29Ljava_2flang_2fString_3b rfl) rfl (by show 2 * 0 + _ ≤ _; exact Nat.le_of_eq rfl) (hb hby at_107) (fun _ _ => ⟨rfl, e0, (by decide : 0 + 4 ≤ _), (by decide : 0 + 16 ≤ _)⟩)
  dsimp only [Pt.U, Pt.locs, Pt.cells, Pt.slots] at X7 l7 y7 z7 st7 hQ7 hS7 hge7 CQ7
  subst l7 y7 z7
  obtain ⟨r7, b7, kb7, rfl, N7q, KQ7, fo0_7⟩ := hQ7
  have N7 := Fr.app N0 N7q
  have hS := foldS (T := s₁) hS (by rw [e0]; exact hk) hS7 hge7
  have hZ : Z.Warmed39 (s.setVm T7.vm).vm := State.Warmed39.trans (t := s.setVm s.vm) hZ hS7.1
  have hown := own_found hS7 hown
  have H := CQ7.1
  have CR := CR.trans CQ7
  have hk := Nat.le_refl T7.heap.size
  have Z8 : n0 ≤ T7.heap.size := Nat.le_trans Z0 KQ7.1
  have O := O.keep KQ7 all0
  have S_r7 := fo0_7
  refine GoesW.pre (U' := T7.setTop (mkF m 120 #[.val (.long p1), .second, .val (.long p2), .second, .val (.int p3), .val (.int na), .val (.int mb), .val (.int ca), .val (.int cb), .val (.int cc), .val (.int da), .val (.int db), .val (.int dc), .val (.ref r7), .unset, .unset] [(.int dc), (.int db), (.int da), (.int mb)])) (fun t k => st7.trans (XS.astore X7.here hx rfl (hb hby at_110) rfl rfl (l' := #[.val (.long p1), .second, .val (.long p2), .second, .val (.int p3), .val (.int na), .val (.int mb), .val (.int ca), .val (.int cb), .val (.int cc), .val (.int da), .val (.int db), .val (.int dc), .val (.ref r7), .unset, .unset]) rfl (XS.iload X7.here hx rfl (hb hby at_112) rfl (XS.iload X7.here hx rfl (hb hby at_114) rfl (XS.iload X7.here hx rfl (hb hby at_116) rfl (XS.iload X7.here hx rfl (hb hby at_118) rfl k)))))) ?_
  obtain ⟨_, _, ⟨T9, L9, k9, n9⟩, -, X9, hS9, hge9, ⟨Lc9, hQ9, l9, y9, z9, CQ9⟩, st9⟩ := Jvm.RoadKit.callSS X7 hx (y := (⟨"com/example/known_paths/knownpaths/item/CodePointOrderComparePinLaw", "mk", "(ICCC)Ljava/lang/String;"⟩ : MethodName)) hown (mvT hZ (wq hw 0 rfl)) (mvT hZ (wq hw 1 rfl)) (mvT hZ (wq hw 2 rfl)) (mvT hZ (wq hw 3 rfl)) (by decide) (own_backSH (s := s) (W := 0) (rm_mk l Z a0 hw hEL [] mb da db dc cs T7.heap n0 Z8 S_COMPACT_STRINGS S__assertionsDisabled S_HI_BYTE_SHIFT S_LO_BYTE_SHIFT (hch_da) (hch_db) (hch_dc) hcs O) hZ (wq hw 3 rfl) (wq hw 2 rfl) (by decide) (by decide) hEL H all0) (g := (mkF m 120 #[.val (.long p1), .second, .val (.long p2), .second, .val (.int p3), .val (.int na), .val (.int mb), .val (.int ca), .val (.int cb), .val (.int cc), .val (.int da), .val (.int db), .val (.int dc), .val (.ref r7), .unset, .unset] [(.int dc), (.int db), (.int da), (.int mb)])) rfl (by rw [hml]; rfl) (argsL := [(.int mb), (.int da), (.int db), (.int dc)]) (rest := []) (lenOf pd__28ICCC_29Ljava_2flang_2fString_3b rfl) rfl (by show 2 * 0 + _ ≤ _; exact Nat.le_of_eq rfl) (hb hby at_120) (fun _ _ => ⟨rfl, rfl, (by decide : 4 + 4 ≤ _), (by decide : 16 + 16 ≤ _)⟩)
  dsimp only [Pt.U, Pt.locs, Pt.cells, Pt.slots] at X9 l9 y9 z9 st9 hQ9 hS9 hge9 CQ9
  subst l9 y9 z9
  obtain ⟨r9, b9, kb9, rfl, N9q, KQ9, fo0_9⟩ := hQ9
  have N9 := Fr.app N7 N9q
  have hS := foldS (T := T7) hS hk hS9 hge9
  have hZ : Z.Warmed39 (s.setVm T9.vm).vm := State.Warmed39.trans (t := s.setVm T7.vm) hZ hS9.1
  have hown := own_found hS9 hown
  have H := CQ9.1
  have CR := CR.trans CQ9
  have hk := Nat.le_refl T9.heap.size
  have S_r7 := S_r7.keep KQ9 nin0 nin0
  have Z10 : n0 ≤ T9.heap.size := Nat.le_trans Z8 KQ9.1
  have O := O.keep KQ9 all0
  have S_r9 := fo0_9
  refine GoesW.pre (U' := T9.setTop (mkF m 129 #[.val (.long p1), .second, .val (.long p2), .second, .val (.int p3), .val (.int na), .val (.int mb), .val (.int ca), .val (.int cb), .val (.int cc), .val (.int da), .val (.int db), .val (.int dc), .val (.ref r7), .val (.ref r9), .unset] [(.ref r9), (.ref r7)])) (fun t k => st9.trans (XS.astore X9.here hx rfl (hb hby at_123) rfl rfl (l' := #[.val (.long p1), .second, .val (.long p2), .second, .val (.int p3), .val (.int na), .val (.int mb), .val (.int ca), .val (.int cb), .val (.int cc), .val (.int da), .val (.int db), .val (.int dc), .val (.ref r7), .val (.ref r9), .unset]) rfl (XS.aload X9.here hx rfl (hb hby at_125) rfl rfl (XS.aload X9.here hx rfl (hb hby at_127) rfl rfl k)))) ?_
  obtain ⟨_, _, ⟨T11, L11, k11, n11⟩, -, X11, ⟨Lc11, hQ11, l11, y11, z11⟩, st11⟩ := Jvm.LawKit.callS X9 hx (y := (⟨"com/example/known_paths/knownpaths/item/CodePointOrder", "compare", "(Ljava/lang/String;Ljava/lang/String;)I"⟩ : MethodName)) hown (mvT hZ (wq hw 12 rfl)) (mvT hZ (wq hw 13 rfl)) (mvT hZ (wq hw 14 rfl)) (mvT hZ (wq hw 15 rfl)) (by decide) (backOf (W := 0) (rm_cmpS l Z a0 hw [] r7 b7 kb7 (own_mk na ca cb cc) r9 b9 kb9 (own_mk mb da db dc) cs sf T9.heap n0 Z10 S_r7 S_r9 S_COMPACT_STRINGS S__assertionsDisabled S_HI_BYTE_SHIFT S_LO_BYTE_SHIFT S_SIOOBE_FORMATTER (own_mk_len _ _ _ _) (own_mk_len _ _ _ _) hcs hsf O) hZ (wq hw 15 rfl) (wq hw 14 rfl) (by decide) (by decide)) (g := (mkF m 129 #[.val (.long p1), .second, .val (.long p2), .second, .val (.int p3), .val (.int na), .val (.int mb), .val (.int ca), .val (.int cb), .val (.int cc), .val (.int da), .val (.int db), .val (.int dc), .val (.ref r7), .val (.ref r9), .unset] [(.ref r9), (.ref r7)])) rfl (by rw [hml]; rfl) (argsL := [(.ref r7), (.ref r9)]) (rest := []) (lenOf pd__28Ljava_2flang_2fString_3bLjava_2flang_2fString_3b_29I rfl) rfl (by show 2 * 0 + _ ≤ _; exact Nat.le_of_eq rfl) (hb hby at_129) (fun _ _ => ⟨rfl, rfl, (by decide : 8 + 0 ≤ _), (by decide : 32 + 0 ≤ _)⟩)
  dsimp only [Pt.U, Pt.locs, Pt.cells, Pt.slots] at X11 l11 y11 z11 st11 hQ11
  subst l11 y11 z11
  obtain ⟨ev, rfl, N11q, HQ11, hx11⟩ := hQ11
  have N11 := Fr.app N9 N11q
  refine GoesW.pre (U' := T11.setTop (mkF m 136 #[.val (.long p1), .second, .val (.long p2), .second, .val (.int p3), .val (.int na), .val (.int mb), .val (.int ca), .val (.int cb), .val (.int cc), .val (.int da), .val (.int db), .val (.int dc), .val (.ref r7), .val (.ref r9), .val (.int (own_cmp ev (own_mk na ca cb cc) (own_mk mb da db dc)))] [(.int (own_cmp ev (own_mk na ca cb cc) (own_mk mb da db dc)))])) (fun t k => st11 t (XS.istore X11.here hx rfl (hb hby at_132) rfl (l' := #[.val (.long p1), .second, .val (.long p2), .second, .val (.int p3), .val (.int na), .val (.int mb), .val (.int ca), .val (.int cb), .val (.int cc), .val (.int da), .val (.int db), .val (.int dc), .val (.ref r7), .val (.ref r9), .val (.int (own_cmp ev (own_mk na ca cb cc) (own_mk mb da db dc)))]) rfl (XS.iload X11.here hx rfl (hb hby at_134) rfl k))) ?_
  obtain ⟨_, _, ⟨T12, L12, k12, n12⟩, -, X12, ⟨Lc12, hQ12, l12, y12, z12⟩, st12⟩ := Jvm.LawKit.callS X11 hx (y := (⟨"com/example/known_paths/knownpaths/item/CodePointOrderComparePinLaw", "sgn", "(I)I"⟩ : MethodName)) hown (mvT hZ (wq hw 21 rfl)) (mvT hZ (wq hw 22 rfl)) (mvT hZ (wq hw 2 rfl)) (mvT hZ (wq hw 23 rfl)) (by decide) (backOf (W := 0) (rm_sgn l Z a0 hw [] (own_cmp ev (own_mk na ca cb cc) (own_mk mb da db dc)) T9.heap n0 Z10) hZ (wq hw 23 rfl) (wq hw 2 rfl) (by decide) (by decide)) (g := (mkF m 136 #[.val (.long p1), .second, .val (.long p2), .second, .val (.int p3), .val (.int na), .val (.int mb), .val (.int ca), .val (.int cb), .val (.int cc), .val (.int da), .val (.int db), .val (.int dc), .val (.ref r7), .val (.ref r9), .val (.int (own_cmp ev (own_mk na ca cb cc) (own_mk mb da db dc)))] [(.int (own_cmp ev (own_mk na ca cb cc) (own_mk mb da db dc)))])) rfl (by rw [hml]; rfl) (argsL := [(.int (own_cmp ev (own_mk na ca cb cc) (own_mk mb da db dc)))]) (rest := []) (lenOf pd__28I_29I rfl) rfl (by show 2 * 0 + _ ≤ _; exact Nat.le_of_eq rfl) (hb hby at_136) (fun _ _ => ⟨rfl, HQ11, (by decide : 8 + 0 ≤ _), (by decide : 32 + 0 ≤ _)⟩)
  dsimp only [Pt.U, Pt.locs, Pt.cells, Pt.slots] at X12 l12 y12 z12 st12 hQ12
  subst l12 y12 z12
  obtain ⟨rfl, N12q, HQ12⟩ := hQ12
  have N12 := Fr.app N11 N12q
  refine GoesW.pre (U' := T12.setTop (mkF m 155 #[.val (.long p1), .second, .val (.long p2), .second, .val (.int p3), .val (.int na), .val (.int mb), .val (.int ca), .val (.int cb), .val (.int cc), .val (.int da), .val (.int db), .val (.int dc), .val (.ref r7), .val (.ref r9), .val (.int (own_cmp ev (own_mk na ca cb cc) (own_mk mb da db dc)))] [(.int dc), (.int db), (.int da), (.int mb), (.int cc), (.int cb), (.int ca), (.int na), (.int (own_sgn (own_cmp ev (own_mk na ca cb cc) (own_mk mb da db dc))))])) (fun t k => st12 t (XS.iload X12.here hx rfl (hb hby at_139) rfl (XS.iload X12.here hx rfl (hb hby at_141) rfl (XS.iload X12.here hx rfl (hb hby at_143) rfl (XS.iload X12.here hx rfl (hb hby at_145) rfl (XS.iload X12.here hx rfl (hb hby at_147) rfl (XS.iload X12.here hx rfl (hb hby at_149) rfl (XS.iload X12.here hx rfl (hb hby at_151) rfl (XS.iload X12.here hx rfl (hb hby at_153) rfl k))))))))) ?_
  obtain ⟨_, _, ⟨T13, L13, k13, n13⟩, -, X13, ⟨Lc13, hQ13, l13, y13, z13⟩, st13⟩ := Jvm.LawKit.callS X12 hx (y := (⟨"com/example/known_paths/knownpaths/item/CodePointOrderComparePinLaw", "ref", "(ICCCICCC)I"⟩ : MethodName)) hown (mvT hZ (wq hw 24 rfl)) (mvT hZ (wq hw 25 rfl)) (mvT hZ (wq hw 2 rfl)) (mvT hZ (wq hw 26 rfl)) (by decide) (backOf (W := 1) (rm_ref l Z a0 hw [] na ca cb cc mb da db dc T9.heap n0 Z10) hZ (wq hw 26 rfl) (wq hw 2 rfl) (by decide) (by decide)) (g := (mkF m 155 #[.val (.long p1), .second, .val (.long p2), .second, .val (.int p3), .val (.int na), .val (.int mb), .val (.int ca), .val (.int cb), .val (.int cc), .val (.int da), .val (.int db), .val (.int dc), .val (.ref r7), .val (.ref r9), .val (.int (own_cmp ev (own_mk na ca cb cc) (own_mk mb da db dc)))] [(.int dc), (.int db), (.int da), (.int mb), (.int cc), (.int cb), (.int ca), (.int na), (.int (own_sgn (own_cmp ev (own_mk na ca cb cc) (own_mk mb da db dc))))])) rfl (by rw [hml]; rfl) (argsL := [(.int na), (.int ca), (.int cb), (.int cc), (.int mb), (.int da), (.int db), (.int dc)]) (rest := [(.int (own_sgn (own_cmp ev (own_mk na ca cb cc) (own_mk mb da db dc))))]) (lenOf pd__28ICCCICCC_29I rfl) rfl (by show 2 * 0 + _ ≤ _; exact Nat.le_of_eq rfl) (hb hby at_155) (fun _ _ => ⟨rfl, HQ12, (by decide : 8 + 0 ≤ _), (by decide : 32 + 0 ≤ _)⟩)
  dsimp only [Pt.U, Pt.locs, Pt.cells, Pt.slots] at X13 l13 y13 z13 st13 hQ13
  subst l13 y13 z13
  obtain ⟨rfl, N13q, HQ13⟩ := hQ13
  have N13 := Fr.app N12 N13q
  refine GoesW.pre (U' := T13.setTop (mkF m 158 #[.val (.long p1), .second, .val (.long p2), .second, .val (.int p3), .val (.int na), .val (.int mb), .val (.int ca), .val (.int cb), .val (.int cc), .val (.int da), .val (.int db), .val (.int dc), .val (.ref r7), .val (.ref r9), .val (.int (own_cmp ev (own_mk na ca cb cc) (own_mk mb da db dc)))] [(.int (own_ref na ca cb cc mb da db dc)), (.int (own_sgn (own_cmp ev (own_mk na ca cb cc) (own_mk mb da db dc))))])) (fun t k => st13 t k) ?_
  have hc158 : (own_sgn (own_cmp ev (own_mk na ca cb cc) (own_mk mb da db dc))) = (own_ref na ca cb cc mb da db dc) := (own_law _ na mb ca cb cc da db dc (own_n4 _ _ hna) (own_n4 _ _ hmb) hch_ca hch_cb hch_cc hch_da hch_db hch_dc hx11)
  refine GoesW.pre (U' := T13.setTop (mkF m 166 #[.val (.long p1), .second, .val (.long p2), .second, .val (.int p3), .val (.int na), .val (.int mb), .val (.int ca), .val (.int cb), .val (.int cc), .val (.int da), .val (.int db), .val (.int dc), .val (.ref r7), .val (.ref r9), .val (.int (own_cmp ev (own_mk na ca cb cc) (own_mk mb da db dc)))] [(.int (1 : Int32))])) (fun t k => XS.icmpNo X13.here hx rfl (hb hby at_158) rfl (teq hc158).2 (XS.iconst X13.here hx rfl (hb hby at_161) (XS.goto X13.here hx rfl (pc0 := 162) (pc' := 166) rfl (hb hby at_162) (by decide) (by decide) k))) ?_
  refine GoesW.ret X13 hZ hEL hS hk H CR (v := (some (.int (1 : Int32)))) (fun h => by rw [hret] at h; cases h) hlk (by decide) (by decide) HQ13 (fun fs hr => retN X13 hx (t := .boolean) hret (by simp) (hb hby at_166) hr) ?_
  exact ⟨rfl, N13⟩
theorem own_stat {Z : State} {args : Array Value} {t : Term} {k : Int32} (w : (Cond.eq t (Term.int k)).value args Z none Z [] = some true) : t.eval args Z none [] Z = some (.int k) := by
  obtain ⟨x, y, e1, e2, k1, -⟩ := cmp_v (Or.inl w)
  have e3 : y = .int k := (Option.some.inj (e2.symm.trans (Term.int_eval k)))
  subst e3
  have e4 : ∃ i, x = .int i := by
    have w' := w
    simp only [Cond.value, e1, e2] at w'
    cases x <;> simp at w' ⊢
  obtain ⟨i, rfl⟩ := e4
  rw [e1, gotT (Cond.eq_ints e1 e2) w]
set_option maxRecDepth 65536 in
set_option maxHeartbeats 40000000 in
theorem comes_1 {Post : Tables → Env → Array Value → State → Outcome → State → Prop} (hpost : ∀ tb e args s v u, (limb_1_1.after args s (.returned v) u = true ∧ limb_1_2.after args s (.returned v) u = true ∧ True) → ReturnedEndW s (.returned v) u (Jvm.fieldLocs frame_1_writes args s ++ Jvm.arrayLocs frame_1_arrays args s ++ Jvm.staticLocs frame_1_statics s) 32 1216 → Post tb e args s (.returned v) u) :
    ArmFor flags0 classFile x code maxLocals ret World_1 tables_1 room_1 Calls_1 rest_1 Pre_1 Post := by
  intro l hfl _ _ p e ha hc hk s m args below hf hA hF happ hP
  obtain ⟨hcalls, hrest, hpre⟩ := hP
  obtain ⟨-, -, -, hnamed, -, -, -, hat⟩ := (Spec.applies_iff hf).mp happ
  obtain ⟨hg, hn⟩ := and_e (Cond.before_iff.mp (show (Jvm.Cond.and given_1 narrow_1).before args s = true from hpre))
  obtain ⟨g1, g2⟩ := and_e hg
  obtain ⟨g3, g4⟩ := and_e g2
  obtain ⟨g5, g6⟩ := and_e g4
  obtain ⟨w0, w1, w2, rfl⟩ : ∃ w0 w1 w2 : Value, args = #[w0, w1, w2] := by
    have hs : args.size = 3 := by simpa [Cond.value, given_1] using g1
    obtain ⟨L⟩ := args
    match L, hs with
    | [w0, w1, w2], _ => exact ⟨w0, w1, w2, rfl⟩
  have hw := fun d (hd : d ∈ tables_1) => atoms_spec (ws := Jvm.Cond.code x code maxLocals ret :: tables_1) hat d (List.mem_cons_of_mem _ hd)
  have hfit : Fit s := fun {y c} hc i hi => by
    obtain ⟨ha, rfl⟩ := Array.getElem?_eq_some_iff.mp hc
    have q := List.all_eq_true.mp ((Array.all_eq_true_iff_forall_mem.mp hF) _ (Array.getElem_mem ha)) i (List.mem_range.mpr hi)
    simpa [Array.getElem?_eq_getElem hi] using q
  obtain ⟨hsets, hown0⟩ := atoms_of _ (rest_1_c_eq ▸ (show rest_1_c.before _ s = true from hrest))
  have hr0 := Cond.before_iff.mp hown0
  obtain ⟨i0, ei0⟩ := isL_v g3
  obtain rfl : w0 = (.long i0) := Option.some.inj ei0
  obtain ⟨i1, ei1⟩ := isL_v g5
  obtain rfl : w1 = (.long i1) := Option.some.inj ei1
  obtain ⟨i2, ei2⟩ := is_v g6
  obtain rfl : w2 = (.int i2) := Option.some.inj ei2
  obtain ⟨cs, ecs⟩ := is_v (Cond.before_iff.mp (hsets _ (List.mem_of_getElem? (i := 1) rfl)))
  have S_CS : Sta s s.heap "java/lang/String" "COMPACT_STRINGS" "Z" (.int cs) := Sta.start ecs (Or.inl (hsets _ (List.mem_of_getElem? (i := 0) rfl)))
  have hcs : ¬ (cs = (0 : Int32)) := gotF (Cond.eq_ints ecs (Term.int_eval (0))) (not_v (Cond.before_iff.mp (hsets _ (List.mem_of_getElem? (i := 2) rfl))))
  obtain ⟨sf, esf, hsf⟩ := isR_v (Cond.before_iff.mp (hsets _ (List.mem_of_getElem? (i := 8) rfl)))
  have S_SF : Sta s s.heap "jdk/internal/util/Preconditions" "SIOOBE_FORMATTER" "Ljava/util/function/BiFunction;" sf := Sta.start esf (Or.inl (hsets _ (List.mem_of_getElem? (i := 7) rfl)))
  have S_AD : Sta s s.heap "java/lang/StringUTF16" "$assertionsDisabled" "Z" (.int (1 : Int32)) := Sta.start (own_stat (Cond.before_iff.mp (hsets _ (List.mem_of_getElem? (i := 12) rfl)))) (Or.inl (hsets _ (List.mem_of_getElem? (i := 11) rfl)))
  have S_HI : Sta s s.heap "java/lang/StringUTF16" "HI_BYTE_SHIFT" "I" (.int (0 : Int32)) := Sta.start (own_stat (Cond.before_iff.mp (hsets _ (List.mem_of_getElem? (i := 15) rfl)))) (Or.inl (hsets _ (List.mem_of_getElem? (i := 14) rfl)))
  have S_LO : Sta s s.heap "java/lang/StringUTF16" "LO_BYTE_SHIFT" "I" (.int (8 : Int32)) := Sta.start (own_stat (Cond.before_iff.mp (hsets _ (List.mem_of_getElem? (i := 18) rfl)))) (Or.inl (hsets _ (List.mem_of_getElem? (i := 17) rfl)))
  have hEL : EW s _ own_EL := (EW.cons (wq hw 4 rfl) (by decide) EW.nil)
  have hCH : CHv s own_EL s.vm s.heap := CHv.start hEL (fun p hp => hcalls.1 p hp) (hsets _ (List.mem_of_getElem? (i := 2) rfl)) (wq hw 7 rfl) (wq hw 6 rfl)
  obtain ⟨n, o, h1, h2, h3, _, L, rfl, ⟨rfl, N⟩, -, hq⟩ := rm0 l s _ hw hEL tables_1 i0 i1 i2 cs sf s.heap s.heap.size (Nat.le_refl _) S_CS S_AD S_HI S_LO S_SF hcs hsf (Old.start s) p e ha hc hk s m _ below hf ((Spec.applies_iff_loose hf).mp happ).1 ⟨rfl, State.Warmed39.refl s, rfl, hCH, all0⟩ trivial
  refine ⟨n, _, h1, h2, h3, hpost _ _ _ _ _ _ ⟨Cond.after_iff.mpr rfl, Cond.after_iff.mpr (eq_i res_at (Term.int_eval (1)) rfl), trivial⟩ ⟨hq.1, hq.2.1, hq.2.2.1, (hq.2.2.2.sift fun y hy => Or.inr (N y hy)).mono (by decide) (by decide)⟩⟩
theorem main_1_1 : Claimed_1_1 := comes_1 fun _ _ _ _ _ _ h hF => ⟨h.1, hF⟩
theorem main_1_2 : Claimed_1_2 := comes_1 fun _ _ _ _ _ _ h hF => ⟨h.2.1, hF⟩
end Jvm.Pilot.@@N@@
namespace Jvm.Pilot.@@N@@
open Jvm Jvm.ClassFile Sem Op Lib Jvm.Free Jvm.Stand Jvm.Pilot.@@N@@.Jvm.D
/-! MADE BY PROGRAM (witnessworld.py) out of the Statement's table words and the real class files: 22 classes; the members and pool entries that the words name. The judged class is class 1, her method 1. -/
namespace start1
open Jvm.ClassFile
def u (s : String) : CpInfo := .utf8 (stringToUtf16 s)
/-- a pool by its gaps: so many unusable entries, then the entry; so many at the end -/
def gap : Nat → List CpInfo → List CpInfo
  | 0, r => r
  | n + 1, r => .unusable :: gap n r
def poolList (es : List (Nat × CpInfo)) (last : Nat) : List CpInfo := es.foldr (fun e r => gap e.1 (e.2 :: r)) (gap last [])
def pool (es : List (Nat × CpInfo)) (last : Nat) : Array CpInfo := ⟨poolList es last⟩
def fileOf (pool : Array CpInfo) (this : Nat) (attrs : Array Attribute := #[]) (ms : Array MethodInfo := #[]) (fl : Nat := 33) (sup : Nat := 0) (ifs : Array Nat := #[]) (fds : Array FieldInfo := #[]) : ClassFile where
  minorVersion := 0
  majorVersion := 65
  constantPool := pool
  accessFlags := fl
  thisClass := this
  superClass := sup
  interfaces := ifs
  fields := fds
  methods := ms
  attributes := attrs
def plain (name : String) (sup : Option ClassId) : Class where
  name := name
  kind := .ordinary
  loader := none
  accessFlags := 33
  super := sup
  interfaces := #[]
  cf := none
  fields := #[]
  methods := #[]
  instanceTypes := #[]
  staticTypes := #[]
  resolved := #[]
  callSites := []
  init := .initialized
  statics := none
  mirror := none

def pool0 : Array CpInfo := pool [(5, u "<init>"), (0, u "()V"), (1, .class_ 10), (1, u "java/lang/Object")] 113

def k0c0 : Code := { maxStack := 0, maxLocals := 1, code := object_method_1_code, exceptionTable := #[], attributes := #[] }
def k0m0 : Method := { name := "<init>", desc := "()V", sig := { parameters := [], returnType := none }, accessFlags := 1, code := some k0c0 }
/-- java/lang/Object -/
def k0 : Class := { plain "java/lang/Object" none with
  accessFlags := 33
  interfaces := #[]
  cf := some (fileOf pool0 8 #[] #[{ accessFlags := 1, nameIndex := 5, descriptorIndex := 6, attributes := #[] }] 33 0 #[] #[])
  fields := #[]
  methods := #[k0m0]
  instanceTypes := #[]
  staticTypes := #[]
  resolved := Array.replicate 124 none
  statics := none }

def pool1 : Array CpInfo := pool [(2, .class_ 4), (1, u "java/lang/Object"), (0, u "<init>"), (0, u "()V"), (0, .methodref 8 9), (0, .class_ 10), (0, .nameAndType 11 12), (0, u "com/example/known_paths/knownpaths/item/CodePointOrderComparePinLaw"), (0, u "mk"), (0, u "(ICCC)Ljava/lang/String;"), (0, .methodref 14 15), (0, .class_ 16), (0, .nameAndType 17 18), (0, u "com/example/known_paths/knownpaths/item/CodePointOrder"), (0, u "compare"), (0, u "(Ljava/lang/String;Ljava/lang/String;)I"), (0, .methodref 8 20), (0, .nameAndType 21 22), (0, u "sgn"), (0, u "(I)I"), (0, .methodref 8 24), (0, .nameAndType 25 26), (0, u "ref"), (0, u "(ICCCICCC)I"), (0, .string 28), (0, u ""), (0, .class_ 30), (0, u "java/lang/String"), (0, .methodref 29 32), (0, .nameAndType 5 33), (0, u "([C)V"), (0, .integer 55296), (0, .integer 57343), (0, .integer 65536), (0, .methodref 8 38), (0, .nameAndType 39 40), (0, u "key"), (0, u "(C)I"), (2, u "law"), (0, u "(JJI)Z")] 3

def k1m0 : Method := { name := "<init>", desc := "()V", sig := { parameters := [], returnType := none }, accessFlags := 2, code := none }
def k1c1 : Code := { maxStack := 9, maxLocals := 16, code := code, exceptionTable := #[], attributes := #[] }
def k1m1 : Method := { name := "law", desc := "(JJI)Z", sig := { parameters := [.long, .long, .int], returnType := some .boolean }, accessFlags := 9, code := some k1c1 }
def k1c2 : Code := { maxStack := 6, maxLocals := 4, code := method_3_code, exceptionTable := #[], attributes := #[] }
def k1m2 : Method := { name := "mk", desc := "(ICCC)Ljava/lang/String;", sig := { parameters := [.int, .char, .char, .char], returnType := some (.object "java/lang/String") }, accessFlags := 10, code := some k1c2 }
def k1c3 : Code := { maxStack := 2, maxLocals := 1, code := method_4_code, exceptionTable := #[], attributes := #[] }
def k1m3 : Method := { name := "key", desc := "(C)I", sig := { parameters := [.char], returnType := some .int }, accessFlags := 10, code := some k1c3 }
def k1c4 : Code := { maxStack := 1, maxLocals := 1, code := method_5_code, exceptionTable := #[], attributes := #[] }
def k1m4 : Method := { name := "sgn", desc := "(I)I", sig := { parameters := [.int], returnType := some .int }, accessFlags := 10, code := some k1c4 }
def k1c5 : Code := { maxStack := 2, maxLocals := 8, code := method_6_code, exceptionTable := #[], attributes := #[] }
def k1m5 : Method := { name := "ref", desc := "(ICCCICCC)I", sig := { parameters := [.int, .char, .char, .char, .int, .char, .char, .char], returnType := some .int }, accessFlags := 10, code := some k1c5 }
/-- com/example/known_paths/knownpaths/item/CodePointOrderComparePinLaw -/
def k1 : Class := { plain "com/example/known_paths/knownpaths/item/CodePointOrderComparePinLaw" (some 0) with
  accessFlags := 49
  interfaces := #[]
  cf := some (fileOf pool1 8 #[] #[{ accessFlags := 2, nameIndex := 5, descriptorIndex := 6, attributes := #[] }, { accessFlags := 9, nameIndex := 43, descriptorIndex := 44, attributes := #[] }, { accessFlags := 10, nameIndex := 11, descriptorIndex := 12, attributes := #[] }, { accessFlags := 10, nameIndex := 39, descriptorIndex := 40, attributes := #[] }, { accessFlags := 10, nameIndex := 21, descriptorIndex := 22, attributes := #[] }, { accessFlags := 10, nameIndex := 25, descriptorIndex := 26, attributes := #[] }] 49 2 #[] #[])
  fields := #[]
  methods := #[k1m0, k1m1, k1m2, k1m3, k1m4, k1m5]
  instanceTypes := #[]
  staticTypes := #[]
  resolved := Array.replicate 48 none
  statics := none }

def pool2 : Array CpInfo := pool [(1, .class_ 2), (0, u "java/io/Serializable"), (0, .class_ 4), (0, u "java/lang/Object")] 2

/-- java/io/Serializable -/
def k2 : Class := { plain "java/io/Serializable" (some 0) with
  accessFlags := 1537
  interfaces := #[]
  cf := some (fileOf pool2 1 #[] #[] 1537 3 #[] #[])
  fields := #[]
  methods := #[]
  instanceTypes := #[]
  staticTypes := #[]
  resolved := Array.replicate 7 none
  statics := none }

def pool3 : Array CpInfo := pool [(1, .class_ 2), (0, u "java/lang/Comparable"), (0, .class_ 4), (0, u "java/lang/Object")] 7

/-- java/lang/Comparable -/
def k3 : Class := { plain "java/lang/Comparable" (some 0) with
  accessFlags := 1537
  interfaces := #[]
  cf := some (fileOf pool3 1 #[] #[] 1537 3 #[] #[])
  fields := #[]
  methods := #[]
  instanceTypes := #[]
  staticTypes := #[]
  resolved := Array.replicate 12 none
  statics := none }

def pool4 : Array CpInfo := pool [(2, .class_ 4), (1, u "java/lang/CharSequence"), (42, .class_ 48), (0, u "java/lang/CharSequence$1CodePointIterator"), (10, .class_ 60), (0, u "java/lang/CharSequence$1CharIterator"), (5, .class_ 67), (0, u "java/lang/Object")] 63

/-- java/lang/CharSequence -/
def k4 : Class := { plain "java/lang/CharSequence" (some 0) with
  accessFlags := 1537
  interfaces := #[]
  cf := some (fileOf pool4 2 #[.nestMembers #[47, 59]] #[] 1537 66 #[] #[])
  fields := #[]
  methods := #[]
  instanceTypes := #[]
  staticTypes := #[]
  resolved := Array.replicate 131 none
  statics := none }

def pool5 : Array CpInfo := pool [(1, .class_ 2), (0, u "java/lang/constant/Constable"), (0, .class_ 4), (0, u "java/lang/Object")] 6

/-- java/lang/constant/Constable -/
def k5 : Class := { plain "java/lang/constant/Constable" (some 0) with
  accessFlags := 1537
  interfaces := #[]
  cf := some (fileOf pool5 1 #[] #[] 1537 3 #[] #[])
  fields := #[]
  methods := #[]
  instanceTypes := #[]
  staticTypes := #[]
  resolved := Array.replicate 11 none
  statics := none }

def pool6 : Array CpInfo := pool [(1, .class_ 2), (0, u "java/lang/constant/ConstantDesc"), (0, .class_ 4), (0, u "java/lang/Object")] 32

/-- java/lang/constant/ConstantDesc -/
def k6 : Class := { plain "java/lang/constant/ConstantDesc" (some 0) with
  accessFlags := 1537
  interfaces := #[]
  cf := some (fileOf pool6 1 #[] #[] 1537 3 #[] #[])
  fields := #[]
  methods := #[]
  instanceTypes := #[]
  staticTypes := #[]
  resolved := Array.replicate 37 none
  statics := none }

def pool7 : Array CpInfo := pool [(1, .methodref 2 3), (0, .class_ 4), (0, .nameAndType 5 6), (0, u "java/lang/Object"), (0, u "<init>"), (0, u "()V"), (2, .fieldref 10 11), (0, .class_ 12), (0, .nameAndType 13 14), (0, u "java/lang/String"), (0, u "value"), (0, u "[B"), (0, .fieldref 10 16), (0, .nameAndType 17 18), (0, u "coder"), (0, u "B"), (2, u "hash"), (0, u "I"), (2, u "hashIsZero"), (0, u "Z"), (0, .methodref 10 28), (0, .nameAndType 5 29), (0, u "([CIILjava/lang/Void;)V"), (8, .fieldref 10 39), (0, .nameAndType 40 26), (0, u "COMPACT_STRINGS"), (1, .class_ 44), (1, u "java/lang/StringUTF16"), (0, u "compress"), (1, .methodref 42 48), (0, .nameAndType 49 50), (0, u "coderFromArrayLen"), (0, u "([BI)B"), (56, .class_ 109), (1, u "java/lang/StringLatin1"), (32, u "()Z"), (34, .methodref 42 178), (0, .nameAndType 45 179), (0, u "([CII)[B"), (154, u "()I"), (0, .methodref 10 336), (0, .nameAndType 17 337), (0, u "()B"), (25, u "([BI)C"), (27, u "(II)V"), (35, u "(I)C"), (64, .methodref 10 493), (0, .nameAndType 494 142), (0, u "isLatin1"), (0, .methodref 107 496), (0, .nameAndType 497 363), (0, u "charAt"), (0, .methodref 42 496), (2, u "checkIndex"), (5, u "length"), (33, .methodref 107 542), (0, .nameAndType 543 544), (0, u "equals"), (0, u "([B[B)Z"), (28, u "(Ljava/lang/Object;)Z"), (1, .class_ 576), (0, u "java/lang/CharSequence"), (22, u "CASE_INSENSITIVE_ORDER"), (0, u "Ljava/util/Comparator;"), (409, u "([C)V"), (42, .fieldref 1054 1055), (0, .class_ 1056), (0, .nameAndType 1057 1058), (0, u "jdk/internal/util/Preconditions"), (0, u "SIOOBE_FORMATTER"), (0, u "Ljava/util/function/BiFunction;"), (0, .methodref 1054 1060), (0, .nameAndType 501 1061), (0, u "(IILjava/util/function/BiFunction;)I"), (39, u "serialPersistentFields"), (0, u "[Ljava/io/ObjectStreamField;"), (0, .class_ 1104), (0, u "java/lang/String$CaseInsensitiveComparator"), (1, .class_ 1107), (0, u "java/io/Serializable"), (0, .class_ 1109), (0, u "java/lang/Comparable"), (0, .class_ 1111), (0, u "java/lang/constant/Constable"), (0, .class_ 1113), (0, u "java/lang/constant/ConstantDesc"), (2, u "serialVersionUID"), (0, u "J"), (3, u "REPL"), (0, u "C"), (2, u "LATIN1"), (1, u "UTF16")] 323

def k7m0 : Method := { name := "<init>", desc := "()V", sig := { parameters := [], returnType := none }, accessFlags := 1, code := none }
def k7c1 : Code := { maxStack := 5, maxLocals := 2, code := jdk_42_method_3_code, exceptionTable := #[], attributes := #[] }
def k7m1 : Method := { name := "<init>", desc := "([C)V", sig := { parameters := [(.array .char)], returnType := none }, accessFlags := 1, code := some k7c1 }
def k7c2 : Code := { maxStack := 2, maxLocals := 1, code := jdk_42_method_54_code, exceptionTable := #[], attributes := #[] }
def k7m2 : Method := { name := "length", desc := "()I", sig := { parameters := [], returnType := some .int }, accessFlags := 1, code := some k7c2 }
def k7c3 : Code := { maxStack := 2, maxLocals := 2, code := jdk_42_method_56_code, exceptionTable := #[], attributes := #[] }
def k7m3 : Method := { name := "charAt", desc := "(I)C", sig := { parameters := [.int], returnType := some .char }, accessFlags := 1, code := some k7c3 }
def k7c4 : Code := { maxStack := 2, maxLocals := 3, code := jdk_42_method_66_code, exceptionTable := #[], attributes := #[] }
def k7m4 : Method := { name := "equals", desc := "(Ljava/lang/Object;)Z", sig := { parameters := [(.object "java/lang/Object")], returnType := some .boolean }, accessFlags := 1, code := some k7c4 }
def k7c5 : Code := { maxStack := 4, maxLocals := 6, code := jdk_42_method_149_code, exceptionTable := #[], attributes := #[] }
def k7m5 : Method := { name := "<init>", desc := "([CIILjava/lang/Void;)V", sig := { parameters := [(.array .char), .int, .int, (.object "java/lang/Void")], returnType := none }, accessFlags := 2, code := some k7c5 }
def k7c6 : Code := { maxStack := 1, maxLocals := 1, code := jdk_42_method_152_code, exceptionTable := #[], attributes := #[] }
def k7m6 : Method := { name := "coder", desc := "()B", sig := { parameters := [], returnType := some .byte }, accessFlags := 0, code := some k7c6 }
def k7c7 : Code := { maxStack := 1, maxLocals := 1, code := jdk_42_method_154_code, exceptionTable := #[], attributes := #[] }
def k7m7 : Method := { name := "isLatin1", desc := "()Z", sig := { parameters := [], returnType := some .boolean }, accessFlags := 0, code := some k7c7 }
def k7c8 : Code := { maxStack := 3, maxLocals := 2, code := jdk_42_method_155_code, exceptionTable := #[], attributes := #[] }
def k7m8 : Method := { name := "checkIndex", desc := "(II)V", sig := { parameters := [.int, .int], returnType := none }, accessFlags := 8, code := some k7c8 }
/-- java/lang/String -/
def k7 : Class := { plain "java/lang/String" (some 0) with
  accessFlags := 49
  interfaces := #[2, 3, 4, 5, 6]
  cf := some (fileOf pool7 10 #[.nestMembers #[1103]] #[{ accessFlags := 1, nameIndex := 5, descriptorIndex := 6, attributes := #[] }, { accessFlags := 1, nameIndex := 5, descriptorIndex := 1010, attributes := #[] }, { accessFlags := 1, nameIndex := 507, descriptorIndex := 334, attributes := #[] }, { accessFlags := 1, nameIndex := 497, descriptorIndex := 427, attributes := #[] }, { accessFlags := 1, nameIndex := 543, descriptorIndex := 573, attributes := #[] }, { accessFlags := 2, nameIndex := 5, descriptorIndex := 29, attributes := #[] }, { accessFlags := 0, nameIndex := 17, descriptorIndex := 337, attributes := #[] }, { accessFlags := 0, nameIndex := 494, descriptorIndex := 142, attributes := #[] }, { accessFlags := 8, nameIndex := 501, descriptorIndex := 391, attributes := #[] }] 49 2 #[1106, 1108, 575, 1110, 1112] #[{ accessFlags := 18, nameIndex := 13, descriptorIndex := 14, attributes := #[] }, { accessFlags := 18, nameIndex := 17, descriptorIndex := 18, attributes := #[] }, { accessFlags := 2, nameIndex := 21, descriptorIndex := 22, attributes := #[] }, { accessFlags := 2, nameIndex := 25, descriptorIndex := 26, attributes := #[] }, { accessFlags := 26, nameIndex := 1116, descriptorIndex := 1117, attributes := #[] }, { accessFlags := 24, nameIndex := 40, descriptorIndex := 26, attributes := #[] }, { accessFlags := 26, nameIndex := 1101, descriptorIndex := 1102, attributes := #[] }, { accessFlags := 26, nameIndex := 1121, descriptorIndex := 1122, attributes := #[] }, { accessFlags := 25, nameIndex := 599, descriptorIndex := 600, attributes := #[] }, { accessFlags := 24, nameIndex := 1125, descriptorIndex := 18, attributes := #[] }, { accessFlags := 24, nameIndex := 1127, descriptorIndex := 18, attributes := #[] }])
  fields := #[{ name := "value", type := (.array .byte), accessFlags := 18, slot := 0, constantValue := 0 }, { name := "coder", type := .byte, accessFlags := 18, slot := 1, constantValue := 0 }, { name := "hash", type := .int, accessFlags := 2, slot := 2, constantValue := 0 }, { name := "hashIsZero", type := .boolean, accessFlags := 2, slot := 3, constantValue := 0 }, { name := "serialVersionUID", type := .long, accessFlags := 26, slot := 0, constantValue := 0 }, { name := "COMPACT_STRINGS", type := .boolean, accessFlags := 24, slot := 1, constantValue := 0 }, { name := "serialPersistentFields", type := (.array (.object "java/io/ObjectStreamField")), accessFlags := 26, slot := 2, constantValue := 0 }, { name := "REPL", type := .char, accessFlags := 26, slot := 3, constantValue := 0 }, { name := "CASE_INSENSITIVE_ORDER", type := (.object "java/util/Comparator"), accessFlags := 25, slot := 4, constantValue := 0 }, { name := "LATIN1", type := .byte, accessFlags := 24, slot := 5, constantValue := 0 }, { name := "UTF16", type := .byte, accessFlags := 24, slot := 6, constantValue := 0 }]
  methods := #[k7m0, k7m1, k7m2, k7m3, k7m4, k7m5, k7m6, k7m7, k7m8]
  instanceTypes := #[(.array .byte), .byte, .int, .boolean]
  staticTypes := #[.long, .boolean, (.array (.object "java/io/ObjectStreamField")), .char, (.object "java/util/Comparator"), .byte, .byte]
  resolved := Array.replicate 1451 none
  statics := some 0 }

def pool8 : Array CpInfo := pool [(2, .class_ 4), (1, u "java/lang/Object"), (0, u "<init>"), (0, u "()V"), (0, .methodref 8 9), (0, .class_ 10), (0, .nameAndType 11 12), (0, u "java/lang/String"), (0, u "equals"), (0, u "(Ljava/lang/Object;)Z"), (0, .methodref 8 14), (0, .nameAndType 15 16), (0, u "length"), (0, u "()I"), (0, .methodref 18 19), (0, .class_ 20), (0, .nameAndType 21 22), (0, u "java/lang/Math"), (0, u "min"), (0, u "(II)I"), (0, .methodref 8 24), (0, .nameAndType 25 26), (0, u "charAt"), (0, u "(I)C"), (0, .methodref 28 29), (0, .class_ 30), (0, .nameAndType 31 32), (0, u "com/example/known_paths/knownpaths/item/CodePointOrder"), (0, u "rank"), (0, u "(C)I"), (0, .methodref 34 35), (0, .class_ 36), (0, .nameAndType 37 38), (0, u "java/lang/Character"), (0, u "isSurrogate"), (0, u "(C)Z"), (0, .integer 57344), (2, u "compare"), (0, u "(Ljava/lang/String;Ljava/lang/String;)I")] 3

def k8m0 : Method := { name := "<init>", desc := "()V", sig := { parameters := [], returnType := none }, accessFlags := 2, code := none }
def k8c1 : Code := { maxStack := 2, maxLocals := 6, code := prog_5_method_2_code, exceptionTable := #[], attributes := #[] }
def k8m1 : Method := { name := "compare", desc := "(Ljava/lang/String;Ljava/lang/String;)I", sig := { parameters := [(.object "java/lang/String"), (.object "java/lang/String")], returnType := some .int }, accessFlags := 8, code := some k8c1 }
def k8c2 : Code := { maxStack := 2, maxLocals := 1, code := prog_5_method_3_code, exceptionTable := #[], attributes := #[] }
def k8m2 : Method := { name := "rank", desc := "(C)I", sig := { parameters := [.char], returnType := some .int }, accessFlags := 10, code := some k8c2 }
/-- com/example/known_paths/knownpaths/item/CodePointOrder -/
def k8 : Class := { plain "com/example/known_paths/knownpaths/item/CodePointOrder" (some 0) with
  accessFlags := 48
  interfaces := #[]
  cf := some (fileOf pool8 28 #[] #[{ accessFlags := 2, nameIndex := 5, descriptorIndex := 6, attributes := #[] }, { accessFlags := 8, nameIndex := 42, descriptorIndex := 43, attributes := #[] }, { accessFlags := 10, nameIndex := 31, descriptorIndex := 32, attributes := #[] }] 48 2 #[] #[])
  fields := #[]
  methods := #[k8m0, k8m1, k8m2]
  instanceTypes := #[]
  staticTypes := #[]
  resolved := Array.replicate 47 none
  statics := none }

def pool9 : Array CpInfo := pool [(3, .class_ 4), (0, u "java/lang/String"), (1, .class_ 8), (1, u "java/lang/Object"), (0, u "<init>"), (0, u "()V"), (0, .methodref 12 13), (0, .class_ 14), (0, .nameAndType 15 16), (0, u "java/lang/StringUTF16"), (0, u "newBytesLength"), (0, u "(I)I"), (3, .integer 1073741823), (23, .fieldref 12 45), (0, .nameAndType 46 47), (0, u "$assertionsDisabled"), (0, u "Z"), (0, .methodref 12 49), (0, .nameAndType 50 51), (0, u "length"), (0, u "([B)I"), (7, .fieldref 12 60), (0, .nameAndType 61 62), (0, u "HI_BYTE_SHIFT"), (0, u "I"), (0, .fieldref 12 64), (0, .nameAndType 65 62), (0, u "LO_BYTE_SHIFT"), (1, .methodref 12 68), (0, .nameAndType 69 70), (0, u "checkIndex"), (0, u "(I[B)V"), (0, .methodref 12 72), (0, .nameAndType 73 74), (0, u "getChar"), (0, u "([BI)C"), (32, .methodref 12 108), (0, .nameAndType 109 110), (0, u "newBytesFor"), (0, u "(I)[B"), (0, .methodref 12 112), (0, .nameAndType 113 114), (0, u "putChar"), (0, u "([BII)V"), (0, .methodref 12 116), (0, .nameAndType 117 118), (0, u "compress"), (0, u "([CI[BII)I"), (0, .methodref 12 120), (0, .nameAndType 121 122), (0, u "toBytes"), (0, u "([CII)[B"), (138, u "coderFromArrayLen"), (0, u "([BI)B"), (106, .class_ 371), (1, u "java/lang/StringUTF16$LinesSpliterator"), (20, u "charAt"), (21, .methodref 3 415), (0, .nameAndType 69 416), (0, u "(II)V"), (13, u "MAX_LENGTH"), (196, .class_ 628), (0, u "java/lang/StringUTF16$CodePointsSpliterator"), (0, .class_ 630), (0, u "java/lang/StringUTF16$CharsSpliterator")] 4

def k9m0 : Method := { name := "<init>", desc := "()V", sig := { parameters := [], returnType := none }, accessFlags := 0, code := none }
def k9c1 : Code := { maxStack := 1, maxLocals := 1, code := jdk_52_method_2_code, exceptionTable := #[], attributes := #[] }
def k9m1 : Method := { name := "newBytesFor", desc := "(I)[B", sig := { parameters := [.int], returnType := some (.array .byte) }, accessFlags := 9, code := some k9c1 }
def k9c2 : Code := { maxStack := 4, maxLocals := 1, code := jdk_52_method_3_code, exceptionTable := #[], attributes := #[] }
def k9m2 : Method := { name := "newBytesLength", desc := "(I)I", sig := { parameters := [.int], returnType := some .int }, accessFlags := 9, code := some k9c2 }
def k9c3 : Code := { maxStack := 4, maxLocals := 3, code := jdk_52_method_4_code, exceptionTable := #[], attributes := #[] }
def k9m3 : Method := { name := "putChar", desc := "([BII)V", sig := { parameters := [(.array .byte), .int, .int], returnType := none }, accessFlags := 8, code := some k9c3 }
def k9c4 : Code := { maxStack := 3, maxLocals := 2, code := jdk_52_method_5_code, exceptionTable := #[], attributes := #[] }
def k9m4 : Method := { name := "getChar", desc := "([BI)C", sig := { parameters := [(.array .byte), .int], returnType := some .char }, accessFlags := 8, code := some k9c4 }
def k9c5 : Code := { maxStack := 2, maxLocals := 1, code := jdk_52_method_6_code, exceptionTable := #[], attributes := #[] }
def k9m5 : Method := { name := "length", desc := "([B)I", sig := { parameters := [(.array .byte)], returnType := some .int }, accessFlags := 9, code := some k9c5 }
def k9c6 : Code := { maxStack := 4, maxLocals := 5, code := jdk_52_method_14_code, exceptionTable := #[], attributes := #[] }
def k9m6 : Method := { name := "toBytes", desc := "([CII)[B", sig := { parameters := [(.array .char), .int, .int], returnType := some (.array .byte) }, accessFlags := 9, code := some k9c6 }
def k9c7 : Code := { maxStack := 2, maxLocals := 2, code := jdk_52_method_15_code, exceptionTable := #[], attributes := #[] }
def k9m7 : Method := { name := "coderFromArrayLen", desc := "([BI)B", sig := { parameters := [(.array .byte), .int], returnType := some .byte }, accessFlags := 8, code := some k9c7 }
def k9c8 : Code := { maxStack := 5, maxLocals := 6, code := jdk_52_method_16_code, exceptionTable := #[], attributes := #[] }
def k9m8 : Method := { name := "compress", desc := "([CII)[B", sig := { parameters := [(.array .char), .int, .int], returnType := some (.array .byte) }, accessFlags := 9, code := some k9c8 }
def k9c9 : Code := { maxStack := 3, maxLocals := 7, code := jdk_52_method_21_code, exceptionTable := #[], attributes := #[] }
def k9m9 : Method := { name := "compress", desc := "([CI[BII)I", sig := { parameters := [(.array .char), .int, (.array .byte), .int, .int], returnType := some .int }, accessFlags := 9, code := some k9c9 }
def k9c10 : Code := { maxStack := 2, maxLocals := 2, code := jdk_52_method_83_code, exceptionTable := #[], attributes := #[] }
def k9m10 : Method := { name := "charAt", desc := "([BI)C", sig := { parameters := [(.array .byte), .int], returnType := some .char }, accessFlags := 9, code := some k9c10 }
def k9c11 : Code := { maxStack := 2, maxLocals := 2, code := jdk_52_method_91_code, exceptionTable := #[], attributes := #[] }
def k9m11 : Method := { name := "checkIndex", desc := "(I[B)V", sig := { parameters := [.int, (.array .byte)], returnType := none }, accessFlags := 9, code := some k9c11 }
/-- java/lang/StringUTF16 -/
def k9 : Class := { plain "java/lang/StringUTF16" (some 0) with
  accessFlags := 48
  interfaces := #[]
  cf := some (fileOf pool9 12 #[.nestMembers #[627, 629, 369]] #[{ accessFlags := 0, nameIndex := 9, descriptorIndex := 10, attributes := #[] }, { accessFlags := 9, nameIndex := 109, descriptorIndex := 110, attributes := #[] }, { accessFlags := 9, nameIndex := 15, descriptorIndex := 16, attributes := #[] }, { accessFlags := 8, nameIndex := 113, descriptorIndex := 114, attributes := #[] }, { accessFlags := 8, nameIndex := 73, descriptorIndex := 74, attributes := #[] }, { accessFlags := 9, nameIndex := 50, descriptorIndex := 51, attributes := #[] }, { accessFlags := 9, nameIndex := 121, descriptorIndex := 122, attributes := #[] }, { accessFlags := 8, nameIndex := 261, descriptorIndex := 262, attributes := #[] }, { accessFlags := 9, nameIndex := 117, descriptorIndex := 122, attributes := #[] }, { accessFlags := 9, nameIndex := 117, descriptorIndex := 118, attributes := #[] }, { accessFlags := 9, nameIndex := 392, descriptorIndex := 74, attributes := #[] }, { accessFlags := 9, nameIndex := 69, descriptorIndex := 70, attributes := #[] }] 48 6 #[] #[{ accessFlags := 26, nameIndex := 61, descriptorIndex := 62, attributes := #[] }, { accessFlags := 26, nameIndex := 65, descriptorIndex := 62, attributes := #[] }, { accessFlags := 24, nameIndex := 430, descriptorIndex := 62, attributes := #[] }, { accessFlags := 4120, nameIndex := 46, descriptorIndex := 47, attributes := #[] }])
  fields := #[{ name := "HI_BYTE_SHIFT", type := .int, accessFlags := 26, slot := 0, constantValue := 0 }, { name := "LO_BYTE_SHIFT", type := .int, accessFlags := 26, slot := 1, constantValue := 0 }, { name := "MAX_LENGTH", type := .int, accessFlags := 24, slot := 2, constantValue := 0 }, { name := "$assertionsDisabled", type := .boolean, accessFlags := 4120, slot := 3, constantValue := 0 }]
  methods := #[k9m0, k9m1, k9m2, k9m3, k9m4, k9m5, k9m6, k9m7, k9m8, k9m9, k9m10, k9m11]
  instanceTypes := #[]
  staticTypes := #[.int, .int, .int, .boolean]
  resolved := Array.replicate 635 none
  statics := some 1 }

def pool10 : Array CpInfo := pool [(1, .class_ 2), (0, u "java/lang/String"), (1, .class_ 6), (1, u "java/lang/Object"), (0, u "<init>"), (0, u "()V"), (0, .methodref 1 10), (0, .nameAndType 11 12), (0, u "checkIndex"), (0, u "(II)V"), (1, .class_ 16), (1, u "java/lang/StringLatin1"), (36, u "([BI)C"), (67, u "$assertionsDisabled"), (0, u "Z"), (98, .class_ 223), (1, u "java/lang/StringLatin1$LinesSpliterator"), (28, u "charAt"), (28, u "equals"), (0, u "([B[B)Z"), (107, .class_ 391), (0, u "java/lang/StringLatin1$CharsSpliterator")] 3

def k10m0 : Method := { name := "<init>", desc := "()V", sig := { parameters := [], returnType := none }, accessFlags := 0, code := none }
def k10c1 : Code := { maxStack := 2, maxLocals := 2, code := jdk_43_method_2_code, exceptionTable := #[], attributes := #[] }
def k10m1 : Method := { name := "charAt", desc := "([BI)C", sig := { parameters := [(.array .byte), .int], returnType := some .char }, accessFlags := 9, code := some k10c1 }
def k10c2 : Code := { maxStack := 3, maxLocals := 3, code := jdk_43_method_13_code, exceptionTable := #[], attributes := #[] }
def k10m2 : Method := { name := "equals", desc := "([B[B)Z", sig := { parameters := [(.array .byte), (.array .byte)], returnType := some .boolean }, accessFlags := 9, code := some k10c2 }
/-- java/lang/StringLatin1 -/
def k10 : Class := { plain "java/lang/StringLatin1" (some 0) with
  accessFlags := 48
  interfaces := #[]
  cf := some (fileOf pool10 14 #[.nestMembers #[390, 221]] #[{ accessFlags := 0, nameIndex := 7, descriptorIndex := 8, attributes := #[] }, { accessFlags := 9, nameIndex := 252, descriptorIndex := 53, attributes := #[] }, { accessFlags := 9, nameIndex := 281, descriptorIndex := 282, attributes := #[] }] 48 4 #[] #[{ accessFlags := 4120, nameIndex := 121, descriptorIndex := 122, attributes := #[] }])
  fields := #[{ name := "$assertionsDisabled", type := .boolean, accessFlags := 4120, slot := 0, constantValue := 0 }]
  methods := #[k10m0, k10m1, k10m2]
  instanceTypes := #[]
  staticTypes := #[.boolean]
  resolved := Array.replicate 395 none
  statics := none }

def pool11 : Array CpInfo := pool [(1, .class_ 2), (0, u "java/lang/Math"), (1, .class_ 6), (1, u "java/lang/Object"), (0, u "<init>"), (0, u "()V"), (89, .class_ 100), (1, u "java/lang/Math$RandomNumberGeneratorHolder"), (71, u "negativeZeroFloatBits"), (0, u "J"), (2, u "negativeZeroDoubleBits"), (24, u "min"), (43, u "$assertionsDisabled"), (0, u "Z"), (88, u "(II)I"), (2, u "twoToTheDoubleScaleDown"), (0, u "D"), (4, u "twoToTheDoubleScaleUp"), (9, u "E"), (3, u "PI"), (2, u "TAU"), (2, u "DEGREES_TO_RADIANS"), (0, u "RADIANS_TO_DEGREES")] 94

def k11m0 : Method := { name := "<init>", desc := "()V", sig := { parameters := [], returnType := none }, accessFlags := 2, code := none }
def k11c1 : Code := { maxStack := 2, maxLocals := 2, code := jdk_29_method_69_code, exceptionTable := #[], attributes := #[] }
def k11m1 : Method := { name := "min", desc := "(II)I", sig := { parameters := [.int, .int], returnType := some .int }, accessFlags := 9, code := some k11c1 }
/-- java/lang/Math -/
def k11 : Class := { plain "java/lang/Math" (some 0) with
  accessFlags := 49
  interfaces := #[]
  cf := some (fileOf pool11 1 #[.nestMembers #[98]] #[{ accessFlags := 2, nameIndex := 7, descriptorIndex := 8, attributes := #[] }, { accessFlags := 9, nameIndex := 201, descriptorIndex := 335, attributes := #[] }] 49 4 #[] #[{ accessFlags := 25, nameIndex := 354, descriptorIndex := 339, attributes := #[] }, { accessFlags := 25, nameIndex := 358, descriptorIndex := 339, attributes := #[] }, { accessFlags := 25, nameIndex := 361, descriptorIndex := 339, attributes := #[] }, { accessFlags := 26, nameIndex := 364, descriptorIndex := 339, attributes := #[] }, { accessFlags := 26, nameIndex := 365, descriptorIndex := 339, attributes := #[] }, { accessFlags := 26, nameIndex := 172, descriptorIndex := 173, attributes := #[] }, { accessFlags := 26, nameIndex := 176, descriptorIndex := 173, attributes := #[] }, { accessFlags := 8, nameIndex := 344, descriptorIndex := 339, attributes := #[] }, { accessFlags := 8, nameIndex := 338, descriptorIndex := 339, attributes := #[] }, { accessFlags := 4120, nameIndex := 245, descriptorIndex := 246, attributes := #[] }])
  fields := #[{ name := "E", type := .double, accessFlags := 25, slot := 0, constantValue := 0 }, { name := "PI", type := .double, accessFlags := 25, slot := 1, constantValue := 0 }, { name := "TAU", type := .double, accessFlags := 25, slot := 2, constantValue := 0 }, { name := "DEGREES_TO_RADIANS", type := .double, accessFlags := 26, slot := 3, constantValue := 0 }, { name := "RADIANS_TO_DEGREES", type := .double, accessFlags := 26, slot := 4, constantValue := 0 }, { name := "negativeZeroFloatBits", type := .long, accessFlags := 26, slot := 5, constantValue := 0 }, { name := "negativeZeroDoubleBits", type := .long, accessFlags := 26, slot := 6, constantValue := 0 }, { name := "twoToTheDoubleScaleUp", type := .double, accessFlags := 8, slot := 7, constantValue := 0 }, { name := "twoToTheDoubleScaleDown", type := .double, accessFlags := 8, slot := 8, constantValue := 0 }, { name := "$assertionsDisabled", type := .boolean, accessFlags := 4120, slot := 9, constantValue := 0 }]
  methods := #[k11m0, k11m1]
  instanceTypes := #[]
  staticTypes := #[.double, .double, .double, .double, .double, .long, .long, .double, .double, .boolean]
  resolved := Array.replicate 460 none
  statics := none }

def pool12 : Array CpInfo := pool [(2, .class_ 4), (1, u "java/lang/Object"), (0, u "<init>"), (0, u "()V"), (17, .class_ 26), (1, u "jdk/internal/util/Preconditions"), (6, u "checkIndex"), (21, .class_ 56), (0, u "jdk/internal/util/Preconditions$4"), (57, .class_ 115), (0, u "jdk/internal/util/Preconditions$1"), (7, u "SIOOBE_FORMATTER"), (0, u "Ljava/util/function/BiFunction;"), (0, .class_ 126), (0, u "jdk/internal/util/Preconditions$2"), (3, u "AIOOBE_FORMATTER"), (0, .class_ 132), (0, u "jdk/internal/util/Preconditions$3"), (3, u "IOOBE_FORMATTER"), (41, u "(IILjava/util/function/BiFunction;)I")] 15

def k12m0 : Method := { name := "<init>", desc := "()V", sig := { parameters := [], returnType := none }, accessFlags := 1, code := none }
def k12c1 : Code := { maxStack := 3, maxLocals := 3, code := jdk_41_method_11_code, exceptionTable := #[], attributes := #[] }
def k12m1 : Method := { name := "checkIndex", desc := "(IILjava/util/function/BiFunction;)I", sig := { parameters := [.int, .int, (.object "java/util/function/BiFunction")], returnType := some .int }, accessFlags := 9, code := some k12c1 }
/-- jdk/internal/util/Preconditions -/
def k12 : Class := { plain "jdk/internal/util/Preconditions" (some 0) with
  accessFlags := 33
  interfaces := #[]
  cf := some (fileOf pool12 24 #[.nestMembers #[55, 131, 125, 114]] #[{ accessFlags := 1, nameIndex := 5, descriptorIndex := 6, attributes := #[] }, { accessFlags := 9, nameIndex := 33, descriptorIndex := 178, attributes := #[] }] 33 2 #[] #[{ accessFlags := 25, nameIndex := 123, descriptorIndex := 124, attributes := #[] }, { accessFlags := 25, nameIndex := 130, descriptorIndex := 124, attributes := #[] }, { accessFlags := 25, nameIndex := 136, descriptorIndex := 124, attributes := #[] }])
  fields := #[{ name := "SIOOBE_FORMATTER", type := (.object "java/util/function/BiFunction"), accessFlags := 25, slot := 0, constantValue := 0 }, { name := "AIOOBE_FORMATTER", type := (.object "java/util/function/BiFunction"), accessFlags := 25, slot := 1, constantValue := 0 }, { name := "IOOBE_FORMATTER", type := (.object "java/util/function/BiFunction"), accessFlags := 25, slot := 2, constantValue := 0 }]
  methods := #[k12m0, k12m1]
  instanceTypes := #[]
  staticTypes := #[(.object "java/util/function/BiFunction"), (.object "java/util/function/BiFunction"), (.object "java/util/function/BiFunction")]
  resolved := Array.replicate 194 none
  statics := some 2 }

def pool13 : Array CpInfo := pool [(1, .class_ 2), (0, u "java/lang/Character"), (18, u "value"), (0, u "C"), (19, .class_ 44), (1, u "java/lang/Object"), (3, .class_ 50), (1, u "java/lang/Character$CharacterCache"), (24, .integer 55296), (1, .integer 57344), (3, u "(C)Z"), (202, u "$assertionsDisabled"), (0, u "Z"), (21, .class_ 309), (1, u "java/lang/Character$UnicodeBlock"), (73, u "TYPE"), (0, u "Ljava/lang/Class;"), (0, .class_ 386), (0, u "java/io/Serializable"), (0, .class_ 388), (0, u "java/lang/Comparable"), (0, .class_ 390), (0, u "java/lang/constant/Constable"), (0, u "MIN_RADIX"), (0, u "I"), (2, u "MAX_RADIX"), (1, u "MIN_VALUE"), (1, u "MAX_VALUE"), (3, u "UNASSIGNED"), (0, u "B"), (0, u "UPPERCASE_LETTER"), (1, u "LOWERCASE_LETTER"), (0, u "TITLECASE_LETTER"), (1, u "MODIFIER_LETTER"), (1, u "OTHER_LETTER"), (1, u "NON_SPACING_MARK"), (1, u "ENCLOSING_MARK"), (1, u "COMBINING_SPACING_MARK"), (1, u "DECIMAL_DIGIT_NUMBER"), (1, u "LETTER_NUMBER"), (1, u "OTHER_NUMBER"), (1, u "SPACE_SEPARATOR"), (1, u "LINE_SEPARATOR"), (1, u "PARAGRAPH_SEPARATOR"), (1, u "CONTROL"), (1, u "FORMAT"), (1, u "PRIVATE_USE"), (1, u "SURROGATE"), (1, u "DASH_PUNCTUATION"), (1, u "START_PUNCTUATION"), (1, u "END_PUNCTUATION"), (1, u "CONNECTOR_PUNCTUATION"), (1, u "OTHER_PUNCTUATION"), (1, u "MATH_SYMBOL"), (1, u "CURRENCY_SYMBOL"), (1, u "MODIFIER_SYMBOL"), (1, u "OTHER_SYMBOL"), (1, u "INITIAL_QUOTE_PUNCTUATION"), (1, u "FINAL_QUOTE_PUNCTUATION"), (1, u "ERROR"), (1, u "DIRECTIONALITY_UNDEFINED"), (0, u "DIRECTIONALITY_LEFT_TO_RIGHT"), (0, u "DIRECTIONALITY_RIGHT_TO_LEFT"), (0, u "DIRECTIONALITY_RIGHT_TO_LEFT_ARABIC"), (0, u "DIRECTIONALITY_EUROPEAN_NUMBER"), (0, u "DIRECTIONALITY_EUROPEAN_NUMBER_SEPARATOR"), (0, u "DIRECTIONALITY_EUROPEAN_NUMBER_TERMINATOR"), (0, u "DIRECTIONALITY_ARABIC_NUMBER"), (0, u "DIRECTIONALITY_COMMON_NUMBER_SEPARATOR"), (0, u "DIRECTIONALITY_NONSPACING_MARK"), (0, u "DIRECTIONALITY_BOUNDARY_NEUTRAL"), (0, u "DIRECTIONALITY_PARAGRAPH_SEPARATOR"), (0, u "DIRECTIONALITY_SEGMENT_SEPARATOR"), (0, u "DIRECTIONALITY_WHITESPACE"), (0, u "DIRECTIONALITY_OTHER_NEUTRALS"), (0, u "DIRECTIONALITY_LEFT_TO_RIGHT_EMBEDDING"), (0, u "DIRECTIONALITY_LEFT_TO_RIGHT_OVERRIDE"), (0, u "DIRECTIONALITY_RIGHT_TO_LEFT_EMBEDDING"), (0, u "DIRECTIONALITY_RIGHT_TO_LEFT_OVERRIDE"), (1, u "DIRECTIONALITY_POP_DIRECTIONAL_FORMAT"), (0, u "DIRECTIONALITY_LEFT_TO_RIGHT_ISOLATE"), (0, u "DIRECTIONALITY_RIGHT_TO_LEFT_ISOLATE"), (0, u "DIRECTIONALITY_FIRST_STRONG_ISOLATE"), (0, u "DIRECTIONALITY_POP_DIRECTIONAL_ISOLATE"), (0, u "MIN_HIGH_SURROGATE"), (0, u "MAX_HIGH_SURROGATE"), (1, u "MIN_LOW_SURROGATE"), (0, u "MAX_LOW_SURROGATE"), (1, u "MIN_SURROGATE"), (0, u "MAX_SURROGATE"), (0, u "MIN_SUPPLEMENTARY_CODE_POINT"), (0, u "MIN_CODE_POINT"), (0, u "MAX_CODE_POINT"), (1, u "serialVersionUID"), (0, u "J"), (2, u "SIZE"), (0, u "BYTES"), (24, u "isSurrogate"), (63, .class_ 596), (0, u "java/lang/Character$UnicodeScript"), (0, .class_ 598), (0, u "java/lang/Character$Subset")] 5

def k13c0 : Code := { maxStack := 2, maxLocals := 1, code := jdk_89_method_16_code, exceptionTable := #[], attributes := #[] }
def k13m0 : Method := { name := "isSurrogate", desc := "(C)Z", sig := { parameters := [.char], returnType := some .boolean }, accessFlags := 9, code := some k13c0 }
/-- java/lang/Character -/
def k13 : Class := { plain "java/lang/Character" (some 0) with
  accessFlags := 49
  interfaces := #[2, 3, 5]
  cf := some (fileOf pool13 1 #[.nestMembers #[48, 595, 307, 597]] #[{ accessFlags := 9, nameIndex := 531, descriptorIndex := 81, attributes := #[] }] 49 42 #[385, 387, 389] #[{ accessFlags := 25, nameIndex := 391, descriptorIndex := 392, attributes := #[] }, { accessFlags := 25, nameIndex := 395, descriptorIndex := 392, attributes := #[] }, { accessFlags := 25, nameIndex := 397, descriptorIndex := 22, attributes := #[] }, { accessFlags := 25, nameIndex := 399, descriptorIndex := 22, attributes := #[] }, { accessFlags := 25, nameIndex := 383, descriptorIndex := 384, attributes := #[] }, { accessFlags := 25, nameIndex := 403, descriptorIndex := 404, attributes := #[] }, { accessFlags := 25, nameIndex := 405, descriptorIndex := 404, attributes := #[] }, { accessFlags := 25, nameIndex := 407, descriptorIndex := 404, attributes := #[] }, { accessFlags := 25, nameIndex := 408, descriptorIndex := 404, attributes := #[] }, { accessFlags := 25, nameIndex := 410, descriptorIndex := 404, attributes := #[] }, { accessFlags := 25, nameIndex := 412, descriptorIndex := 404, attributes := #[] }, { accessFlags := 25, nameIndex := 414, descriptorIndex := 404, attributes := #[] }, { accessFlags := 25, nameIndex := 416, descriptorIndex := 404, attributes := #[] }, { accessFlags := 25, nameIndex := 418, descriptorIndex := 404, attributes := #[] }, { accessFlags := 25, nameIndex := 420, descriptorIndex := 404, attributes := #[] }, { accessFlags := 25, nameIndex := 422, descriptorIndex := 404, attributes := #[] }, { accessFlags := 25, nameIndex := 424, descriptorIndex := 404, attributes := #[] }, { accessFlags := 25, nameIndex := 426, descriptorIndex := 404, attributes := #[] }, { accessFlags := 25, nameIndex := 428, descriptorIndex := 404, attributes := #[] }, { accessFlags := 25, nameIndex := 430, descriptorIndex := 404, attributes := #[] }, { accessFlags := 25, nameIndex := 432, descriptorIndex := 404, attributes := #[] }, { accessFlags := 25, nameIndex := 434, descriptorIndex := 404, attributes := #[] }, { accessFlags := 25, nameIndex := 436, descriptorIndex := 404, attributes := #[] }, { accessFlags := 25, nameIndex := 438, descriptorIndex := 404, attributes := #[] }, { accessFlags := 25, nameIndex := 440, descriptorIndex := 404, attributes := #[] }, { accessFlags := 25, nameIndex := 442, descriptorIndex := 404, attributes := #[] }, { accessFlags := 25, nameIndex := 444, descriptorIndex := 404, attributes := #[] }, { accessFlags := 25, nameIndex := 446, descriptorIndex := 404, attributes := #[] }, { accessFlags := 25, nameIndex := 448, descriptorIndex := 404, attributes := #[] }, { accessFlags := 25, nameIndex := 450, descriptorIndex := 404, attributes := #[] }, { accessFlags := 25, nameIndex := 452, descriptorIndex := 404, attributes := #[] }, { accessFlags := 25, nameIndex := 454, descriptorIndex := 404, attributes := #[] }, { accessFlags := 25, nameIndex := 456, descriptorIndex := 404, attributes := #[] }, { accessFlags := 25, nameIndex := 458, descriptorIndex := 404, attributes := #[] }, { accessFlags := 25, nameIndex := 460, descriptorIndex := 404, attributes := #[] }, { accessFlags := 24, nameIndex := 462, descriptorIndex := 392, attributes := #[] }, { accessFlags := 25, nameIndex := 464, descriptorIndex := 404, attributes := #[] }, { accessFlags := 25, nameIndex := 465, descriptorIndex := 404, attributes := #[] }, { accessFlags := 25, nameIndex := 466, descriptorIndex := 404, attributes := #[] }, { accessFlags := 25, nameIndex := 467, descriptorIndex := 404, attributes := #[] }, { accessFlags := 25, nameIndex := 468, descriptorIndex := 404, attributes := #[] }, { accessFlags := 25, nameIndex := 469, descriptorIndex := 404, attributes := #[] }, { accessFlags := 25, nameIndex := 470, descriptorIndex := 404, attributes := #[] }, { accessFlags := 25, nameIndex := 471, descriptorIndex := 404, attributes := #[] }, { accessFlags := 25, nameIndex := 472, descriptorIndex := 404, attributes := #[] }, { accessFlags := 25, nameIndex := 473, descriptorIndex := 404, attributes := #[] }, { accessFlags := 25, nameIndex := 474, descriptorIndex := 404, attributes := #[] }, { accessFlags := 25, nameIndex := 475, descriptorIndex := 404, attributes := #[] }, { accessFlags := 25, nameIndex := 476, descriptorIndex := 404, attributes := #[] }, { accessFlags := 25, nameIndex := 477, descriptorIndex := 404, attributes := #[] }, { accessFlags := 25, nameIndex := 478, descriptorIndex := 404, attributes := #[] }, { accessFlags := 25, nameIndex := 479, descriptorIndex := 404, attributes := #[] }, { accessFlags := 25, nameIndex := 480, descriptorIndex := 404, attributes := #[] }, { accessFlags := 25, nameIndex := 481, descriptorIndex := 404, attributes := #[] }, { accessFlags := 25, nameIndex := 482, descriptorIndex := 404, attributes := #[] }, { accessFlags := 25, nameIndex := 484, descriptorIndex := 404, attributes := #[] }, { accessFlags := 25, nameIndex := 485, descriptorIndex := 404, attributes := #[] }, { accessFlags := 25, nameIndex := 486, descriptorIndex := 404, attributes := #[] }, { accessFlags := 25, nameIndex := 487, descriptorIndex := 404, attributes := #[] }, { accessFlags := 25, nameIndex := 488, descriptorIndex := 404, attributes := #[] }, { accessFlags := 25, nameIndex := 489, descriptorIndex := 22, attributes := #[] }, { accessFlags := 25, nameIndex := 490, descriptorIndex := 22, attributes := #[] }, { accessFlags := 25, nameIndex := 492, descriptorIndex := 22, attributes := #[] }, { accessFlags := 25, nameIndex := 493, descriptorIndex := 22, attributes := #[] }, { accessFlags := 25, nameIndex := 495, descriptorIndex := 22, attributes := #[] }, { accessFlags := 25, nameIndex := 496, descriptorIndex := 22, attributes := #[] }, { accessFlags := 25, nameIndex := 497, descriptorIndex := 392, attributes := #[] }, { accessFlags := 25, nameIndex := 498, descriptorIndex := 392, attributes := #[] }, { accessFlags := 25, nameIndex := 499, descriptorIndex := 392, attributes := #[] }, { accessFlags := 18, nameIndex := 21, descriptorIndex := 22, attributes := #[] }, { accessFlags := 26, nameIndex := 501, descriptorIndex := 502, attributes := #[] }, { accessFlags := 25, nameIndex := 505, descriptorIndex := 392, attributes := #[] }, { accessFlags := 25, nameIndex := 506, descriptorIndex := 392, attributes := #[] }, { accessFlags := 4120, nameIndex := 284, descriptorIndex := 285, attributes := #[] }])
  fields := #[{ name := "MIN_RADIX", type := .int, accessFlags := 25, slot := 0, constantValue := 0 }, { name := "MAX_RADIX", type := .int, accessFlags := 25, slot := 1, constantValue := 0 }, { name := "MIN_VALUE", type := .char, accessFlags := 25, slot := 2, constantValue := 0 }, { name := "MAX_VALUE", type := .char, accessFlags := 25, slot := 3, constantValue := 0 }, { name := "TYPE", type := (.object "java/lang/Class"), accessFlags := 25, slot := 4, constantValue := 0 }, { name := "UNASSIGNED", type := .byte, accessFlags := 25, slot := 5, constantValue := 0 }, { name := "UPPERCASE_LETTER", type := .byte, accessFlags := 25, slot := 6, constantValue := 0 }, { name := "LOWERCASE_LETTER", type := .byte, accessFlags := 25, slot := 7, constantValue := 0 }, { name := "TITLECASE_LETTER", type := .byte, accessFlags := 25, slot := 8, constantValue := 0 }, { name := "MODIFIER_LETTER", type := .byte, accessFlags := 25, slot := 9, constantValue := 0 }, { name := "OTHER_LETTER", type := .byte, accessFlags := 25, slot := 10, constantValue := 0 }, { name := "NON_SPACING_MARK", type := .byte, accessFlags := 25, slot := 11, constantValue := 0 }, { name := "ENCLOSING_MARK", type := .byte, accessFlags := 25, slot := 12, constantValue := 0 }, { name := "COMBINING_SPACING_MARK", type := .byte, accessFlags := 25, slot := 13, constantValue := 0 }, { name := "DECIMAL_DIGIT_NUMBER", type := .byte, accessFlags := 25, slot := 14, constantValue := 0 }, { name := "LETTER_NUMBER", type := .byte, accessFlags := 25, slot := 15, constantValue := 0 }, { name := "OTHER_NUMBER", type := .byte, accessFlags := 25, slot := 16, constantValue := 0 }, { name := "SPACE_SEPARATOR", type := .byte, accessFlags := 25, slot := 17, constantValue := 0 }, { name := "LINE_SEPARATOR", type := .byte, accessFlags := 25, slot := 18, constantValue := 0 }, { name := "PARAGRAPH_SEPARATOR", type := .byte, accessFlags := 25, slot := 19, constantValue := 0 }, { name := "CONTROL", type := .byte, accessFlags := 25, slot := 20, constantValue := 0 }, { name := "FORMAT", type := .byte, accessFlags := 25, slot := 21, constantValue := 0 }, { name := "PRIVATE_USE", type := .byte, accessFlags := 25, slot := 22, constantValue := 0 }, { name := "SURROGATE", type := .byte, accessFlags := 25, slot := 23, constantValue := 0 }, { name := "DASH_PUNCTUATION", type := .byte, accessFlags := 25, slot := 24, constantValue := 0 }, { name := "START_PUNCTUATION", type := .byte, accessFlags := 25, slot := 25, constantValue := 0 }, { name := "END_PUNCTUATION", type := .byte, accessFlags := 25, slot := 26, constantValue := 0 }, { name := "CONNECTOR_PUNCTUATION", type := .byte, accessFlags := 25, slot := 27, constantValue := 0 }, { name := "OTHER_PUNCTUATION", type := .byte, accessFlags := 25, slot := 28, constantValue := 0 }, { name := "MATH_SYMBOL", type := .byte, accessFlags := 25, slot := 29, constantValue := 0 }, { name := "CURRENCY_SYMBOL", type := .byte, accessFlags := 25, slot := 30, constantValue := 0 }, { name := "MODIFIER_SYMBOL", type := .byte, accessFlags := 25, slot := 31, constantValue := 0 }, { name := "OTHER_SYMBOL", type := .byte, accessFlags := 25, slot := 32, constantValue := 0 }, { name := "INITIAL_QUOTE_PUNCTUATION", type := .byte, accessFlags := 25, slot := 33, constantValue := 0 }, { name := "FINAL_QUOTE_PUNCTUATION", type := .byte, accessFlags := 25, slot := 34, constantValue := 0 }, { name := "ERROR", type := .int, accessFlags := 24, slot := 35, constantValue := 0 }, { name := "DIRECTIONALITY_UNDEFINED", type := .byte, accessFlags := 25, slot := 36, constantValue := 0 }, { name := "DIRECTIONALITY_LEFT_TO_RIGHT", type := .byte, accessFlags := 25, slot := 37, constantValue := 0 }, { name := "DIRECTIONALITY_RIGHT_TO_LEFT", type := .byte, accessFlags := 25, slot := 38, constantValue := 0 }, { name := "DIRECTIONALITY_RIGHT_TO_LEFT_ARABIC", type := .byte, accessFlags := 25, slot := 39, constantValue := 0 }, { name := "DIRECTIONALITY_EUROPEAN_NUMBER", type := .byte, accessFlags := 25, slot := 40, constantValue := 0 }, { name := "DIRECTIONALITY_EUROPEAN_NUMBER_SEPARATOR", type := .byte, accessFlags := 25, slot := 41, constantValue := 0 }, { name := "DIRECTIONALITY_EUROPEAN_NUMBER_TERMINATOR", type := .byte, accessFlags := 25, slot := 42, constantValue := 0 }, { name := "DIRECTIONALITY_ARABIC_NUMBER", type := .byte, accessFlags := 25, slot := 43, constantValue := 0 }, { name := "DIRECTIONALITY_COMMON_NUMBER_SEPARATOR", type := .byte, accessFlags := 25, slot := 44, constantValue := 0 }, { name := "DIRECTIONALITY_NONSPACING_MARK", type := .byte, accessFlags := 25, slot := 45, constantValue := 0 }, { name := "DIRECTIONALITY_BOUNDARY_NEUTRAL", type := .byte, accessFlags := 25, slot := 46, constantValue := 0 }, { name := "DIRECTIONALITY_PARAGRAPH_SEPARATOR", type := .byte, accessFlags := 25, slot := 47, constantValue := 0 }, { name := "DIRECTIONALITY_SEGMENT_SEPARATOR", type := .byte, accessFlags := 25, slot := 48, constantValue := 0 }, { name := "DIRECTIONALITY_WHITESPACE", type := .byte, accessFlags := 25, slot := 49, constantValue := 0 }, { name := "DIRECTIONALITY_OTHER_NEUTRALS", type := .byte, accessFlags := 25, slot := 50, constantValue := 0 }, { name := "DIRECTIONALITY_LEFT_TO_RIGHT_EMBEDDING", type := .byte, accessFlags := 25, slot := 51, constantValue := 0 }, { name := "DIRECTIONALITY_LEFT_TO_RIGHT_OVERRIDE", type := .byte, accessFlags := 25, slot := 52, constantValue := 0 }, { name := "DIRECTIONALITY_RIGHT_TO_LEFT_EMBEDDING", type := .byte, accessFlags := 25, slot := 53, constantValue := 0 }, { name := "DIRECTIONALITY_RIGHT_TO_LEFT_OVERRIDE", type := .byte, accessFlags := 25, slot := 54, constantValue := 0 }, { name := "DIRECTIONALITY_POP_DIRECTIONAL_FORMAT", type := .byte, accessFlags := 25, slot := 55, constantValue := 0 }, { name := "DIRECTIONALITY_LEFT_TO_RIGHT_ISOLATE", type := .byte, accessFlags := 25, slot := 56, constantValue := 0 }, { name := "DIRECTIONALITY_RIGHT_TO_LEFT_ISOLATE", type := .byte, accessFlags := 25, slot := 57, constantValue := 0 }, { name := "DIRECTIONALITY_FIRST_STRONG_ISOLATE", type := .byte, accessFlags := 25, slot := 58, constantValue := 0 }, { name := "DIRECTIONALITY_POP_DIRECTIONAL_ISOLATE", type := .byte, accessFlags := 25, slot := 59, constantValue := 0 }, { name := "MIN_HIGH_SURROGATE", type := .char, accessFlags := 25, slot := 60, constantValue := 0 }, { name := "MAX_HIGH_SURROGATE", type := .char, accessFlags := 25, slot := 61, constantValue := 0 }, { name := "MIN_LOW_SURROGATE", type := .char, accessFlags := 25, slot := 62, constantValue := 0 }, { name := "MAX_LOW_SURROGATE", type := .char, accessFlags := 25, slot := 63, constantValue := 0 }, { name := "MIN_SURROGATE", type := .char, accessFlags := 25, slot := 64, constantValue := 0 }, { name := "MAX_SURROGATE", type := .char, accessFlags := 25, slot := 65, constantValue := 0 }, { name := "MIN_SUPPLEMENTARY_CODE_POINT", type := .int, accessFlags := 25, slot := 66, constantValue := 0 }, { name := "MIN_CODE_POINT", type := .int, accessFlags := 25, slot := 67, constantValue := 0 }, { name := "MAX_CODE_POINT", type := .int, accessFlags := 25, slot := 68, constantValue := 0 }, { name := "value", type := .char, accessFlags := 18, slot := 0, constantValue := 0 }, { name := "serialVersionUID", type := .long, accessFlags := 26, slot := 69, constantValue := 0 }, { name := "SIZE", type := .int, accessFlags := 25, slot := 70, constantValue := 0 }, { name := "BYTES", type := .int, accessFlags := 25, slot := 71, constantValue := 0 }, { name := "$assertionsDisabled", type := .boolean, accessFlags := 4120, slot := 72, constantValue := 0 }]
  methods := #[k13m0]
  instanceTypes := #[.char]
  staticTypes := #[.int, .int, .char, .char, (.object "java/lang/Class"), .byte, .byte, .byte, .byte, .byte, .byte, .byte, .byte, .byte, .byte, .byte, .byte, .byte, .byte, .byte, .byte, .byte, .byte, .byte, .byte, .byte, .byte, .byte, .byte, .byte, .byte, .byte, .byte, .byte, .byte, .int, .byte, .byte, .byte, .byte, .byte, .byte, .byte, .byte, .byte, .byte, .byte, .byte, .byte, .byte, .byte, .byte, .byte, .byte, .byte, .byte, .byte, .byte, .byte, .byte, .char, .char, .char, .char, .char, .char, .int, .int, .int, .long, .int, .int, .boolean]
  resolved := Array.replicate 604 none
  statics := none }

def pool14 : Array CpInfo := pool [(9, u "<init>"), (6, .class_ 18), (1, u "java/lang/Object"), (0, u "()V"), (1, .class_ 23), (1, u "jdk/internal/util/ArraysSupport"), (0, u "LOG2_ARRAY_LONG_INDEX_SCALE"), (0, u "I"), (2, u "U"), (0, u "Ljdk/internal/misc/Unsafe;"), (8, u "BIG_ENDIAN"), (0, u "Z"), (8, u "LOG2_BYTE_BIT_SIZE"), (4, u "LOG2_ARRAY_INT_INDEX_SCALE"), (54, u "JLA"), (0, u "Ljdk/internal/access/JavaLangAccess;"), (11, u "LOG2_ARRAY_BOOLEAN_INDEX_SCALE"), (9, u "LOG2_ARRAY_BYTE_INDEX_SCALE"), (5, u "LOG2_ARRAY_CHAR_INDEX_SCALE"), (5, u "LOG2_ARRAY_SHORT_INDEX_SCALE"), (18, u "LOG2_ARRAY_FLOAT_INDEX_SCALE"), (24, u "LOG2_ARRAY_DOUBLE_INDEX_SCALE"), (89, u "T_BOOLEAN"), (2, u "T_CHAR"), (1, u "T_FLOAT"), (1, u "T_DOUBLE"), (1, u "T_BYTE"), (1, u "T_SHORT"), (1, u "T_INT"), (1, u "T_LONG"), (1, u "SOFT_MAX_ARRAY_LENGTH")] 83

def k14m0 : Method := { name := "<init>", desc := "()V", sig := { parameters := [], returnType := none }, accessFlags := 2, code := none }
/-- jdk/internal/util/ArraysSupport -/
def k14 : Class := { plain "jdk/internal/util/ArraysSupport" (some 0) with
  accessFlags := 33
  interfaces := #[]
  cf := some (fileOf pool14 21 #[] #[{ accessFlags := 2, nameIndex := 9, descriptorIndex := 19, attributes := #[] }] 33 16 #[] #[{ accessFlags := 24, nameIndex := 28, descriptorIndex := 29, attributes := #[] }, { accessFlags := 26, nameIndex := 38, descriptorIndex := 39, attributes := #[] }, { accessFlags := 25, nameIndex := 121, descriptorIndex := 25, attributes := #[] }, { accessFlags := 25, nameIndex := 131, descriptorIndex := 25, attributes := #[] }, { accessFlags := 25, nameIndex := 137, descriptorIndex := 25, attributes := #[] }, { accessFlags := 25, nameIndex := 143, descriptorIndex := 25, attributes := #[] }, { accessFlags := 25, nameIndex := 53, descriptorIndex := 25, attributes := #[] }, { accessFlags := 25, nameIndex := 24, descriptorIndex := 25, attributes := #[] }, { accessFlags := 25, nameIndex := 162, descriptorIndex := 25, attributes := #[] }, { accessFlags := 25, nameIndex := 187, descriptorIndex := 25, attributes := #[] }, { accessFlags := 26, nameIndex := 48, descriptorIndex := 25, attributes := #[] }, { accessFlags := 25, nameIndex := 277, descriptorIndex := 25, attributes := #[] }, { accessFlags := 25, nameIndex := 280, descriptorIndex := 25, attributes := #[] }, { accessFlags := 25, nameIndex := 282, descriptorIndex := 25, attributes := #[] }, { accessFlags := 25, nameIndex := 284, descriptorIndex := 25, attributes := #[] }, { accessFlags := 25, nameIndex := 286, descriptorIndex := 25, attributes := #[] }, { accessFlags := 25, nameIndex := 288, descriptorIndex := 25, attributes := #[] }, { accessFlags := 25, nameIndex := 290, descriptorIndex := 25, attributes := #[] }, { accessFlags := 25, nameIndex := 292, descriptorIndex := 25, attributes := #[] }, { accessFlags := 26, nameIndex := 108, descriptorIndex := 109, attributes := #[] }, { accessFlags := 25, nameIndex := 294, descriptorIndex := 25, attributes := #[] }])
  fields := #[{ name := "U", type := (.object "jdk/internal/misc/Unsafe"), accessFlags := 24, slot := 0, constantValue := 0 }, { name := "BIG_ENDIAN", type := .boolean, accessFlags := 26, slot := 1, constantValue := 0 }, { name := "LOG2_ARRAY_BOOLEAN_INDEX_SCALE", type := .int, accessFlags := 25, slot := 2, constantValue := 0 }, { name := "LOG2_ARRAY_BYTE_INDEX_SCALE", type := .int, accessFlags := 25, slot := 3, constantValue := 0 }, { name := "LOG2_ARRAY_CHAR_INDEX_SCALE", type := .int, accessFlags := 25, slot := 4, constantValue := 0 }, { name := "LOG2_ARRAY_SHORT_INDEX_SCALE", type := .int, accessFlags := 25, slot := 5, constantValue := 0 }, { name := "LOG2_ARRAY_INT_INDEX_SCALE", type := .int, accessFlags := 25, slot := 6, constantValue := 0 }, { name := "LOG2_ARRAY_LONG_INDEX_SCALE", type := .int, accessFlags := 25, slot := 7, constantValue := 0 }, { name := "LOG2_ARRAY_FLOAT_INDEX_SCALE", type := .int, accessFlags := 25, slot := 8, constantValue := 0 }, { name := "LOG2_ARRAY_DOUBLE_INDEX_SCALE", type := .int, accessFlags := 25, slot := 9, constantValue := 0 }, { name := "LOG2_BYTE_BIT_SIZE", type := .int, accessFlags := 26, slot := 10, constantValue := 0 }, { name := "T_BOOLEAN", type := .int, accessFlags := 25, slot := 11, constantValue := 0 }, { name := "T_CHAR", type := .int, accessFlags := 25, slot := 12, constantValue := 0 }, { name := "T_FLOAT", type := .int, accessFlags := 25, slot := 13, constantValue := 0 }, { name := "T_DOUBLE", type := .int, accessFlags := 25, slot := 14, constantValue := 0 }, { name := "T_BYTE", type := .int, accessFlags := 25, slot := 15, constantValue := 0 }, { name := "T_SHORT", type := .int, accessFlags := 25, slot := 16, constantValue := 0 }, { name := "T_INT", type := .int, accessFlags := 25, slot := 17, constantValue := 0 }, { name := "T_LONG", type := .int, accessFlags := 25, slot := 18, constantValue := 0 }, { name := "JLA", type := (.object "jdk/internal/access/JavaLangAccess"), accessFlags := 26, slot := 19, constantValue := 0 }, { name := "SOFT_MAX_ARRAY_LENGTH", type := .int, accessFlags := 25, slot := 20, constantValue := 0 }]
  methods := #[k14m0]
  instanceTypes := #[]
  staticTypes := #[(.object "jdk/internal/misc/Unsafe"), .boolean, .int, .int, .int, .int, .int, .int, .int, .int, .int, .int, .int, .int, .int, .int, .int, .int, .int, (.object "jdk/internal/access/JavaLangAccess"), .int]
  resolved := Array.replicate 378 none
  statics := none }

def pool15 : Array CpInfo := pool [(1, u "java/lang/Cloneable"), (0, .class_ 1), (0, u "java/lang/Object"), (0, .class_ 3)] 3

/-- java/lang/Cloneable -/
def k15 : Class := { plain "java/lang/Cloneable" (some 0) with
  accessFlags := 1537
  interfaces := #[]
  cf := some (fileOf pool15 2 #[] #[] 1537 4 #[] #[])
  fields := #[]
  methods := #[]
  instanceTypes := #[]
  staticTypes := #[]
  resolved := Array.replicate 8 none
  statics := none }

/-- the primitive byte -/
def k16 : Class := { plain "byte" none with kind := .primitive 'B', accessFlags := 0x411 }
/-- [B -/
def k17 : Class := { plain "[B" (some 0) with kind := .array 16 .byte, interfaces := #[15, 2], accessFlags := 1041 }

/-- the primitive char -/
def k18 : Class := { plain "char" none with kind := .primitive 'C', accessFlags := 0x411 }
/-- [C -/
def k19 : Class := { plain "[C" (some 0) with kind := .array 18 .char, interfaces := #[15, 2], accessFlags := 1041 }

/-- the primitive int -/
def k20 : Class := { plain "int" none with kind := .primitive 'I', accessFlags := 0x411 }
/-- [I -/
def k21 : Class := { plain "[I" (some 0) with kind := .array 20 .int, interfaces := #[15, 2], accessFlags := 1041 }

def heap : Heap := #[{ cls := 7, slots := #[.long 0, .int 1, .null, .int 0, .null, .int 0, .int 0], vm := .statics 7 },
  { cls := 9, slots := #[.int 0, .int 8, .int 0, .int 1], vm := .statics 9 },
  { cls := 12, slots := #[.null, .null, .null], vm := .statics 12 }]
def classes : Array Class := #[k0, k1, k2, k3, k4, k5, k6, k7, k8, k9, k10, k11, k12, k13, k14, k15, k16, k17, k18, k19, k20, k21]
def interned : List (Array UInt16 × Addr) := []
def slotsUsed : Nat := 14
def theMethod : MethodId := ⟨1, 1⟩
def args0 : Array Value := #[.long 2, .long 65, .int 66]
def aboutOver (below : List Frame) : State where
  vm := { classes := classes, interned := interned.toArray }
  heap := heap
  slotsUsed := slotsUsed
  threads := #[{ frames := .invoking theMethod args0 :: below }]
def below0 : List Frame := [.native { method := ⟨0, 0⟩, args := #[] }]
def about1 : State := aboutOver below0
def p0 : Program := .bare "" "" ""
def e0 : Env := launch0.env 0 0 0
theorem w_frames : about1.frames = Frame.invoking theMethod args0 :: below0 := rfl
set_option maxRecDepth 65536 in
theorem w_args : argsFit about1.vm theMethod args0 = true := by decide +kernel
set_option maxRecDepth 65536 in
theorem w_heap : heapFits about1 = true := by decide +kernel
set_option maxRecDepth 65536 in
theorem w_runnable : about1.curStatus? = some .runnable := by decide +kernel
set_option maxRecDepth 65536 in
theorem w_alone : about1.alone = true := by decide +kernel
set_option maxRecDepth 65536 in
theorem w_named : about1.methodNamed? x = some theMethod := by decide +kernel
set_option maxRecDepth 65536 in
theorem w_hears : about1.hears theMethod below0 = true := by decide +kernel
set_option maxRecDepth 65536 in
theorem w_ripe : about1.ripe theMethod args0 below0 = true := by decide +kernel
theorem w_running : about1.status = .running := rfl
set_option maxRecDepth 65536 in
theorem w_room : about1.hasRoom e0.platform room_1 = true :=
  launch0.hasRoom_least _ room_1 (by decide +kernel) (by decide +kernel) (by decide +kernel) (by decide +kernel) (by decide +kernel) (by decide +kernel)
theorem allAtoms_all (ts : List Jvm.Cond) (a : Array Jvm.Value) (st : Jvm.State) : (allAtoms ts).before a st = ts.all (fun c => c.before a st) := by
  induction ts with
  | nil => rfl
  | cons c t ih =>
    show (Jvm.Cond.and c (allAtoms t)).before a st = _
    rw [Jvm.Cond.before_and, ih, List.all_cons]
def words1 : List Jvm.Cond := Jvm.Cond.code x code maxLocals ret :: tables_1
/-- a 'code' word, met by the world's own term for the bytes: nothing is compared byte by byte -/
theorem code_word {y : MethodName} {bytes : ByteArray} {mx : Nat} {rt : Option FieldType} {a : Array Value} {s : State} {m : MethodId} {meth : Method} {c : Code} (h1 : s.methodNamed? y = some m) (h2 : s.vm.method? m = some meth) (h3 : meth.code = some c) (h4 : c.code = bytes)
    (h5 : (c.maxLocals == mx && c.exceptionTable.isEmpty && decide (c.maxStack ≤ mostOperands) && decide (meth.sig.returnType = rt) && !meth.locks && decide (parseMethodDescriptor y.desc = some meth.sig)) = true) : (Jvm.Cond.code y bytes mx rt).before a s = true := by
  simp only [Bool.and_eq_true, beq_iff_eq, Bool.not_eq_true', decide_eq_true_eq] at h5
  obtain ⟨⟨⟨⟨⟨g1, g2⟩, g3⟩, g4⟩, g5⟩, g6⟩ := h5
  simp [Cond.before, Cond.holds, Cond.value, h1, h2, h3, h4, g1, g2, g3, g4, g5, g6]
def isCode : Jvm.Cond → Bool
  | .code _ _ _ _ => true
  | _ => false
theorem all_split {L : List Jvm.Cond} {P : Jvm.Cond → Bool} (h1 : L.all (fun c => isCode c || P c) = true) (h2 : ∀ c ∈ L.filter isCode, P c = true) : L.all P = true := by
  refine List.all_eq_true.mpr fun c hc => ?_
  have h := List.all_eq_true.mp h1 c hc
  rcases Bool.eq_false_or_eq_true (isCode c) with hi | hi
  · exact h2 c (List.mem_filter.mpr ⟨hc, hi⟩)
  · simpa [hi] using h
set_option maxRecDepth 65536 in
theorem w_c0 : (Jvm.Cond.code x code maxLocals ret).before args0 about1 = true := code_word (m := ⟨1, 1⟩) (meth := k1m1) (c := k1c1) (by decide +kernel) rfl rfl rfl (by decide +kernel)
set_option maxRecDepth 65536 in
theorem w_c1 : (Jvm.Cond.code ({ cls := "com/example/known_paths/knownpaths/item/CodePointOrderComparePinLaw", name := "mk", desc := "(ICCC)Ljava/lang/String;" } : Jvm.MethodName) method_3_code (4 : Nat) (Option.some (Jvm.ClassFile.FieldType.object "java/lang/String"))).before args0 about1 = true := code_word (m := ⟨1, 2⟩) (meth := k1m2) (c := k1c2) (by decide +kernel) rfl rfl rfl (by decide +kernel)
set_option maxRecDepth 65536 in
theorem w_c2 : (Jvm.Cond.code ({ cls := "com/example/known_paths/knownpaths/item/CodePointOrder", name := "compare", desc := "(Ljava/lang/String;Ljava/lang/String;)I" } : Jvm.MethodName) prog_5_method_2_code (6 : Nat) (Option.some Jvm.ClassFile.FieldType.int)).before args0 about1 = true := code_word (m := ⟨8, 1⟩) (meth := k8m1) (c := k8c1) (by decide +kernel) rfl rfl rfl (by decide +kernel)
set_option maxRecDepth 65536 in
theorem w_c3 : (Jvm.Cond.code ({ cls := "java/lang/String", name := "equals", desc := "(Ljava/lang/Object;)Z" } : Jvm.MethodName) jdk_42_method_66_code (3 : Nat) (Option.some Jvm.ClassFile.FieldType.boolean)).before args0 about1 = true := code_word (m := ⟨7, 4⟩) (meth := k7m4) (c := k7c4) (by decide +kernel) rfl rfl rfl (by decide +kernel)
set_option maxRecDepth 65536 in
theorem w_c4 : (Jvm.Cond.code ({ cls := "com/example/known_paths/knownpaths/item/CodePointOrderComparePinLaw", name := "sgn", desc := "(I)I" } : Jvm.MethodName) method_5_code (1 : Nat) (Option.some Jvm.ClassFile.FieldType.int)).before args0 about1 = true := code_word (m := ⟨1, 4⟩) (meth := k1m4) (c := k1c4) (by decide +kernel) rfl rfl rfl (by decide +kernel)
set_option maxRecDepth 65536 in
theorem w_c5 : (Jvm.Cond.code ({ cls := "com/example/known_paths/knownpaths/item/CodePointOrderComparePinLaw", name := "ref", desc := "(ICCCICCC)I" } : Jvm.MethodName) method_6_code (8 : Nat) (Option.some Jvm.ClassFile.FieldType.int)).before args0 about1 = true := code_word (m := ⟨1, 5⟩) (meth := k1m5) (c := k1c5) (by decide +kernel) rfl rfl rfl (by decide +kernel)
set_option maxRecDepth 65536 in
theorem w_c6 : (Jvm.Cond.code ({ cls := "java/lang/String", name := "<init>", desc := "([C)V" } : Jvm.MethodName) jdk_42_method_3_code (2 : Nat) (Option.none : Option Jvm.ClassFile.FieldType)).before args0 about1 = true := code_word (m := ⟨7, 1⟩) (meth := k7m1) (c := k7c1) (by decide +kernel) rfl rfl rfl (by decide +kernel)
set_option maxRecDepth 65536 in
theorem w_c7 : (Jvm.Cond.code ({ cls := "java/lang/String", name := "<init>", desc := "([CIILjava/lang/Void;)V" } : Jvm.MethodName) jdk_42_method_149_code (6 : Nat) (Option.none : Option Jvm.ClassFile.FieldType)).before args0 about1 = true := code_word (m := ⟨7, 5⟩) (meth := k7m5) (c := k7c5) (by decide +kernel) rfl rfl rfl (by decide +kernel)
set_option maxRecDepth 65536 in
theorem w_c8 : (Jvm.Cond.code ({ cls := "java/lang/Object", name := "<init>", desc := "()V" } : Jvm.MethodName) object_method_1_code (1 : Nat) (Option.none : Option Jvm.ClassFile.FieldType)).before args0 about1 = true := code_word (m := ⟨0, 0⟩) (meth := k0m0) (c := k0c0) (by decide +kernel) rfl rfl rfl (by decide +kernel)
set_option maxRecDepth 65536 in
theorem w_c9 : (Jvm.Cond.code ({ cls := "java/lang/StringUTF16", name := "compress", desc := "([CII)[B" } : Jvm.MethodName) jdk_52_method_16_code (6 : Nat) (Option.some (Jvm.ClassFile.FieldType.array Jvm.ClassFile.FieldType.byte))).before args0 about1 = true := code_word (m := ⟨9, 8⟩) (meth := k9m8) (c := k9c8) (by decide +kernel) rfl rfl rfl (by decide +kernel)
set_option maxRecDepth 65536 in
theorem w_c10 : (Jvm.Cond.code ({ cls := "java/lang/StringUTF16", name := "compress", desc := "([CI[BII)I" } : Jvm.MethodName) jdk_52_method_21_code (7 : Nat) (Option.some Jvm.ClassFile.FieldType.int)).before args0 about1 = true := code_word (m := ⟨9, 9⟩) (meth := k9m9) (c := k9c9) (by decide +kernel) rfl rfl rfl (by decide +kernel)
set_option maxRecDepth 65536 in
theorem w_c11 : (Jvm.Cond.code ({ cls := "java/lang/StringUTF16", name := "coderFromArrayLen", desc := "([BI)B" } : Jvm.MethodName) jdk_52_method_15_code (2 : Nat) (Option.some Jvm.ClassFile.FieldType.byte)).before args0 about1 = true := code_word (m := ⟨9, 7⟩) (meth := k9m7) (c := k9c7) (by decide +kernel) rfl rfl rfl (by decide +kernel)
set_option maxRecDepth 65536 in
theorem w_c12 : (Jvm.Cond.code ({ cls := "java/lang/StringLatin1", name := "equals", desc := "([B[B)Z" } : Jvm.MethodName) jdk_43_method_13_code (3 : Nat) (Option.some Jvm.ClassFile.FieldType.boolean)).before args0 about1 = true := code_word (m := ⟨10, 2⟩) (meth := k10m2) (c := k10c2) (by decide +kernel) rfl rfl rfl (by decide +kernel)
set_option maxRecDepth 65536 in
theorem w_c13 : (Jvm.Cond.code ({ cls := "java/lang/String", name := "length", desc := "()I" } : Jvm.MethodName) jdk_42_method_54_code (1 : Nat) (Option.some Jvm.ClassFile.FieldType.int)).before args0 about1 = true := code_word (m := ⟨7, 2⟩) (meth := k7m2) (c := k7c2) (by decide +kernel) rfl rfl rfl (by decide +kernel)
set_option maxRecDepth 65536 in
theorem w_c14 : (Jvm.Cond.code ({ cls := "java/lang/String", name := "coder", desc := "()B" } : Jvm.MethodName) jdk_42_method_152_code (1 : Nat) (Option.some Jvm.ClassFile.FieldType.byte)).before args0 about1 = true := code_word (m := ⟨7, 6⟩) (meth := k7m6) (c := k7c6) (by decide +kernel) rfl rfl rfl (by decide +kernel)
set_option maxRecDepth 65536 in
theorem w_c15 : (Jvm.Cond.code ({ cls := "java/lang/Math", name := "min", desc := "(II)I" } : Jvm.MethodName) jdk_29_method_69_code (2 : Nat) (Option.some Jvm.ClassFile.FieldType.int)).before args0 about1 = true := code_word (m := ⟨11, 1⟩) (meth := k11m1) (c := k11c1) (by decide +kernel) rfl rfl rfl (by decide +kernel)
set_option maxRecDepth 65536 in
theorem w_c16 : (Jvm.Cond.code ({ cls := "java/lang/String", name := "charAt", desc := "(I)C" } : Jvm.MethodName) jdk_42_method_56_code (2 : Nat) (Option.some Jvm.ClassFile.FieldType.char)).before args0 about1 = true := code_word (m := ⟨7, 3⟩) (meth := k7m3) (c := k7c3) (by decide +kernel) rfl rfl rfl (by decide +kernel)
set_option maxRecDepth 65536 in
theorem w_c17 : (Jvm.Cond.code ({ cls := "java/lang/String", name := "isLatin1", desc := "()Z" } : Jvm.MethodName) jdk_42_method_154_code (1 : Nat) (Option.some Jvm.ClassFile.FieldType.boolean)).before args0 about1 = true := code_word (m := ⟨7, 7⟩) (meth := k7m7) (c := k7c7) (by decide +kernel) rfl rfl rfl (by decide +kernel)
set_option maxRecDepth 65536 in
theorem w_c18 : (Jvm.Cond.code ({ cls := "java/lang/StringLatin1", name := "charAt", desc := "([BI)C" } : Jvm.MethodName) jdk_43_method_2_code (2 : Nat) (Option.some Jvm.ClassFile.FieldType.char)).before args0 about1 = true := code_word (m := ⟨10, 1⟩) (meth := k10m1) (c := k10c1) (by decide +kernel) rfl rfl rfl (by decide +kernel)
set_option maxRecDepth 65536 in
theorem w_c19 : (Jvm.Cond.code ({ cls := "java/lang/String", name := "checkIndex", desc := "(II)V" } : Jvm.MethodName) jdk_42_method_155_code (2 : Nat) (Option.none : Option Jvm.ClassFile.FieldType)).before args0 about1 = true := code_word (m := ⟨7, 8⟩) (meth := k7m8) (c := k7c8) (by decide +kernel) rfl rfl rfl (by decide +kernel)
set_option maxRecDepth 65536 in
theorem w_c20 : (Jvm.Cond.code ({ cls := "jdk/internal/util/Preconditions", name := "checkIndex", desc := "(IILjava/util/function/BiFunction;)I" } : Jvm.MethodName) jdk_41_method_11_code (3 : Nat) (Option.some Jvm.ClassFile.FieldType.int)).before args0 about1 = true := code_word (m := ⟨12, 1⟩) (meth := k12m1) (c := k12c1) (by decide +kernel) rfl rfl rfl (by decide +kernel)
set_option maxRecDepth 65536 in
theorem w_c21 : (Jvm.Cond.code ({ cls := "com/example/known_paths/knownpaths/item/CodePointOrder", name := "rank", desc := "(C)I" } : Jvm.MethodName) prog_5_method_3_code (1 : Nat) (Option.some Jvm.ClassFile.FieldType.int)).before args0 about1 = true := code_word (m := ⟨8, 2⟩) (meth := k8m2) (c := k8c2) (by decide +kernel) rfl rfl rfl (by decide +kernel)
set_option maxRecDepth 65536 in
theorem w_c22 : (Jvm.Cond.code ({ cls := "java/lang/Character", name := "isSurrogate", desc := "(C)Z" } : Jvm.MethodName) jdk_89_method_16_code (1 : Nat) (Option.some Jvm.ClassFile.FieldType.boolean)).before args0 about1 = true := code_word (m := ⟨13, 0⟩) (meth := k13m0) (c := k13c0) (by decide +kernel) rfl rfl rfl (by decide +kernel)
set_option maxRecDepth 65536 in
theorem w_c23 : (Jvm.Cond.code ({ cls := "com/example/known_paths/knownpaths/item/CodePointOrderComparePinLaw", name := "key", desc := "(C)I" } : Jvm.MethodName) method_4_code (1 : Nat) (Option.some Jvm.ClassFile.FieldType.int)).before args0 about1 = true := code_word (m := ⟨1, 3⟩) (meth := k1m3) (c := k1c3) (by decide +kernel) rfl rfl rfl (by decide +kernel)
set_option maxRecDepth 65536 in
theorem w_c24 : (Jvm.Cond.code ({ cls := "java/lang/StringUTF16", name := "toBytes", desc := "([CII)[B" } : Jvm.MethodName) jdk_52_method_14_code (5 : Nat) (Option.some (Jvm.ClassFile.FieldType.array Jvm.ClassFile.FieldType.byte))).before args0 about1 = true := code_word (m := ⟨9, 6⟩) (meth := k9m6) (c := k9c6) (by decide +kernel) rfl rfl rfl (by decide +kernel)
set_option maxRecDepth 65536 in
theorem w_c25 : (Jvm.Cond.code ({ cls := "java/lang/StringUTF16", name := "newBytesFor", desc := "(I)[B" } : Jvm.MethodName) jdk_52_method_2_code (1 : Nat) (Option.some (Jvm.ClassFile.FieldType.array Jvm.ClassFile.FieldType.byte))).before args0 about1 = true := code_word (m := ⟨9, 1⟩) (meth := k9m1) (c := k9c1) (by decide +kernel) rfl rfl rfl (by decide +kernel)
set_option maxRecDepth 65536 in
theorem w_c26 : (Jvm.Cond.code ({ cls := "java/lang/StringUTF16", name := "newBytesLength", desc := "(I)I" } : Jvm.MethodName) jdk_52_method_3_code (1 : Nat) (Option.some Jvm.ClassFile.FieldType.int)).before args0 about1 = true := code_word (m := ⟨9, 2⟩) (meth := k9m2) (c := k9c2) (by decide +kernel) rfl rfl rfl (by decide +kernel)
set_option maxRecDepth 65536 in
theorem w_c27 : (Jvm.Cond.code ({ cls := "java/lang/StringUTF16", name := "putChar", desc := "([BII)V" } : Jvm.MethodName) jdk_52_method_4_code (3 : Nat) (Option.none : Option Jvm.ClassFile.FieldType)).before args0 about1 = true := code_word (m := ⟨9, 3⟩) (meth := k9m3) (c := k9c3) (by decide +kernel) rfl rfl rfl (by decide +kernel)
set_option maxRecDepth 65536 in
theorem w_c28 : (Jvm.Cond.code ({ cls := "java/lang/StringUTF16", name := "getChar", desc := "([BI)C" } : Jvm.MethodName) jdk_52_method_5_code (2 : Nat) (Option.some Jvm.ClassFile.FieldType.char)).before args0 about1 = true := code_word (m := ⟨9, 4⟩) (meth := k9m4) (c := k9c4) (by decide +kernel) rfl rfl rfl (by decide +kernel)
set_option maxRecDepth 65536 in
theorem w_c29 : (Jvm.Cond.code ({ cls := "java/lang/StringUTF16", name := "charAt", desc := "([BI)C" } : Jvm.MethodName) jdk_52_method_83_code (2 : Nat) (Option.some Jvm.ClassFile.FieldType.char)).before args0 about1 = true := code_word (m := ⟨9, 10⟩) (meth := k9m10) (c := k9c10) (by decide +kernel) rfl rfl rfl (by decide +kernel)
set_option maxRecDepth 65536 in
theorem w_c30 : (Jvm.Cond.code ({ cls := "java/lang/StringUTF16", name := "checkIndex", desc := "(I[B)V" } : Jvm.MethodName) jdk_52_method_91_code (2 : Nat) (Option.none : Option Jvm.ClassFile.FieldType)).before args0 about1 = true := code_word (m := ⟨9, 11⟩) (meth := k9m11) (c := k9c11) (by decide +kernel) rfl rfl rfl (by decide +kernel)
set_option maxRecDepth 65536 in
theorem w_c31 : (Jvm.Cond.code ({ cls := "java/lang/StringUTF16", name := "length", desc := "([B)I" } : Jvm.MethodName) jdk_52_method_6_code (1 : Nat) (Option.some Jvm.ClassFile.FieldType.int)).before args0 about1 = true := code_word (m := ⟨9, 5⟩) (meth := k9m5) (c := k9c5) (by decide +kernel) rfl rfl rfl (by decide +kernel)
def codes1 : List Jvm.Cond := [Jvm.Cond.code x code maxLocals ret, Jvm.Cond.code ({ cls := "com/example/known_paths/knownpaths/item/CodePointOrderComparePinLaw", name := "mk", desc := "(ICCC)Ljava/lang/String;" } : Jvm.MethodName) method_3_code (4 : Nat) (Option.some (Jvm.ClassFile.FieldType.object "java/lang/String")), Jvm.Cond.code ({ cls := "com/example/known_paths/knownpaths/item/CodePointOrder", name := "compare", desc := "(Ljava/lang/String;Ljava/lang/String;)I" } : Jvm.MethodName) prog_5_method_2_code (6 : Nat) (Option.some Jvm.ClassFile.FieldType.int), Jvm.Cond.code ({ cls := "java/lang/String", name := "equals", desc := "(Ljava/lang/Object;)Z" } : Jvm.MethodName) jdk_42_method_66_code (3 : Nat) (Option.some Jvm.ClassFile.FieldType.boolean), Jvm.Cond.code ({ cls := "com/example/known_paths/knownpaths/item/CodePointOrderComparePinLaw", name := "sgn", desc := "(I)I" } : Jvm.MethodName) method_5_code (1 : Nat) (Option.some Jvm.ClassFile.FieldType.int), Jvm.Cond.code ({ cls := "com/example/known_paths/knownpaths/item/CodePointOrderComparePinLaw", name := "ref", desc := "(ICCCICCC)I" } : Jvm.MethodName) method_6_code (8 : Nat) (Option.some Jvm.ClassFile.FieldType.int), Jvm.Cond.code ({ cls := "java/lang/String", name := "<init>", desc := "([C)V" } : Jvm.MethodName) jdk_42_method_3_code (2 : Nat) (Option.none : Option Jvm.ClassFile.FieldType), Jvm.Cond.code ({ cls := "java/lang/String", name := "<init>", desc := "([CIILjava/lang/Void;)V" } : Jvm.MethodName) jdk_42_method_149_code (6 : Nat) (Option.none : Option Jvm.ClassFile.FieldType), Jvm.Cond.code ({ cls := "java/lang/Object", name := "<init>", desc := "()V" } : Jvm.MethodName) object_method_1_code (1 : Nat) (Option.none : Option Jvm.ClassFile.FieldType), Jvm.Cond.code ({ cls := "java/lang/StringUTF16", name := "compress", desc := "([CII)[B" } : Jvm.MethodName) jdk_52_method_16_code (6 : Nat) (Option.some (Jvm.ClassFile.FieldType.array Jvm.ClassFile.FieldType.byte)), Jvm.Cond.code ({ cls := "java/lang/StringUTF16", name := "compress", desc := "([CI[BII)I" } : Jvm.MethodName) jdk_52_method_21_code (7 : Nat) (Option.some Jvm.ClassFile.FieldType.int), Jvm.Cond.code ({ cls := "java/lang/StringUTF16", name := "coderFromArrayLen", desc := "([BI)B" } : Jvm.MethodName) jdk_52_method_15_code (2 : Nat) (Option.some Jvm.ClassFile.FieldType.byte), Jvm.Cond.code ({ cls := "java/lang/StringLatin1", name := "equals", desc := "([B[B)Z" } : Jvm.MethodName) jdk_43_method_13_code (3 : Nat) (Option.some Jvm.ClassFile.FieldType.boolean), Jvm.Cond.code ({ cls := "java/lang/String", name := "length", desc := "()I" } : Jvm.MethodName) jdk_42_method_54_code (1 : Nat) (Option.some Jvm.ClassFile.FieldType.int), Jvm.Cond.code ({ cls := "java/lang/String", name := "coder", desc := "()B" } : Jvm.MethodName) jdk_42_method_152_code (1 : Nat) (Option.some Jvm.ClassFile.FieldType.byte), Jvm.Cond.code ({ cls := "java/lang/Math", name := "min", desc := "(II)I" } : Jvm.MethodName) jdk_29_method_69_code (2 : Nat) (Option.some Jvm.ClassFile.FieldType.int), Jvm.Cond.code ({ cls := "java/lang/String", name := "charAt", desc := "(I)C" } : Jvm.MethodName) jdk_42_method_56_code (2 : Nat) (Option.some Jvm.ClassFile.FieldType.char), Jvm.Cond.code ({ cls := "java/lang/String", name := "isLatin1", desc := "()Z" } : Jvm.MethodName) jdk_42_method_154_code (1 : Nat) (Option.some Jvm.ClassFile.FieldType.boolean), Jvm.Cond.code ({ cls := "java/lang/StringLatin1", name := "charAt", desc := "([BI)C" } : Jvm.MethodName) jdk_43_method_2_code (2 : Nat) (Option.some Jvm.ClassFile.FieldType.char), Jvm.Cond.code ({ cls := "java/lang/String", name := "checkIndex", desc := "(II)V" } : Jvm.MethodName) jdk_42_method_155_code (2 : Nat) (Option.none : Option Jvm.ClassFile.FieldType), Jvm.Cond.code ({ cls := "jdk/internal/util/Preconditions", name := "checkIndex", desc := "(IILjava/util/function/BiFunction;)I" } : Jvm.MethodName) jdk_41_method_11_code (3 : Nat) (Option.some Jvm.ClassFile.FieldType.int), Jvm.Cond.code ({ cls := "com/example/known_paths/knownpaths/item/CodePointOrder", name := "rank", desc := "(C)I" } : Jvm.MethodName) prog_5_method_3_code (1 : Nat) (Option.some Jvm.ClassFile.FieldType.int), Jvm.Cond.code ({ cls := "java/lang/Character", name := "isSurrogate", desc := "(C)Z" } : Jvm.MethodName) jdk_89_method_16_code (1 : Nat) (Option.some Jvm.ClassFile.FieldType.boolean), Jvm.Cond.code ({ cls := "com/example/known_paths/knownpaths/item/CodePointOrderComparePinLaw", name := "key", desc := "(C)I" } : Jvm.MethodName) method_4_code (1 : Nat) (Option.some Jvm.ClassFile.FieldType.int), Jvm.Cond.code ({ cls := "java/lang/StringUTF16", name := "toBytes", desc := "([CII)[B" } : Jvm.MethodName) jdk_52_method_14_code (5 : Nat) (Option.some (Jvm.ClassFile.FieldType.array Jvm.ClassFile.FieldType.byte)), Jvm.Cond.code ({ cls := "java/lang/StringUTF16", name := "newBytesFor", desc := "(I)[B" } : Jvm.MethodName) jdk_52_method_2_code (1 : Nat) (Option.some (Jvm.ClassFile.FieldType.array Jvm.ClassFile.FieldType.byte)), Jvm.Cond.code ({ cls := "java/lang/StringUTF16", name := "newBytesLength", desc := "(I)I" } : Jvm.MethodName) jdk_52_method_3_code (1 : Nat) (Option.some Jvm.ClassFile.FieldType.int), Jvm.Cond.code ({ cls := "java/lang/StringUTF16", name := "putChar", desc := "([BII)V" } : Jvm.MethodName) jdk_52_method_4_code (3 : Nat) (Option.none : Option Jvm.ClassFile.FieldType), Jvm.Cond.code ({ cls := "java/lang/StringUTF16", name := "getChar", desc := "([BI)C" } : Jvm.MethodName) jdk_52_method_5_code (2 : Nat) (Option.some Jvm.ClassFile.FieldType.char), Jvm.Cond.code ({ cls := "java/lang/StringUTF16", name := "charAt", desc := "([BI)C" } : Jvm.MethodName) jdk_52_method_83_code (2 : Nat) (Option.some Jvm.ClassFile.FieldType.char), Jvm.Cond.code ({ cls := "java/lang/StringUTF16", name := "checkIndex", desc := "(I[B)V" } : Jvm.MethodName) jdk_52_method_91_code (2 : Nat) (Option.none : Option Jvm.ClassFile.FieldType), Jvm.Cond.code ({ cls := "java/lang/StringUTF16", name := "length", desc := "([B)I" } : Jvm.MethodName) jdk_52_method_6_code (1 : Nat) (Option.some Jvm.ClassFile.FieldType.int)]
set_option maxRecDepth 65536 in
theorem codes_eq : words1.filter isCode = codes1 := rfl
theorem w_codes : ∀ c ∈ words1.filter isCode, c.before args0 about1 = true := by
  rw [codes_eq]
  intro c hc
  simp only [codes1, List.mem_cons, List.not_mem_nil, or_false] at hc
  rcases hc with rfl | rfl | rfl | rfl | rfl | rfl | rfl | rfl | rfl | rfl | rfl | rfl | rfl | rfl | rfl | rfl | rfl | rfl | rfl | rfl | rfl | rfl | rfl | rfl | rfl | rfl | rfl | rfl | rfl | rfl | rfl | rfl
  · exact w_c0
  · exact w_c1
  · exact w_c2
  · exact w_c3
  · exact w_c4
  · exact w_c5
  · exact w_c6
  · exact w_c7
  · exact w_c8
  · exact w_c9
  · exact w_c10
  · exact w_c11
  · exact w_c12
  · exact w_c13
  · exact w_c14
  · exact w_c15
  · exact w_c16
  · exact w_c17
  · exact w_c18
  · exact w_c19
  · exact w_c20
  · exact w_c21
  · exact w_c22
  · exact w_c23
  · exact w_c24
  · exact w_c25
  · exact w_c26
  · exact w_c27
  · exact w_c28
  · exact w_c29
  · exact w_c30
  · exact w_c31
set_option maxRecDepth 65536 in
theorem w_t1 : (words1.take 24).all (fun c => isCode c || c.before args0 about1) = true := by decide +kernel
set_option maxRecDepth 65536 in
theorem w_t2 : ((words1.drop 24).take 24).all (fun c => isCode c || c.before args0 about1) = true := by decide +kernel
set_option maxRecDepth 65536 in
theorem w_t3 : (((words1.drop 24).drop 24).take 24).all (fun c => isCode c || c.before args0 about1) = true := by decide +kernel
set_option maxRecDepth 65536 in
theorem w_t4 : ((((words1.drop 24).drop 24).drop 24).take 24).all (fun c => isCode c || c.before args0 about1) = true := by decide +kernel
set_option maxRecDepth 65536 in
theorem w_t5 : (((((words1.drop 24).drop 24).drop 24).drop 24).take 24).all (fun c => isCode c || c.before args0 about1) = true := by decide +kernel
set_option maxRecDepth 65536 in
theorem w_t6 : (((((words1.drop 24).drop 24).drop 24).drop 24).drop 24).all (fun c => isCode c || c.before args0 about1) = true := by decide +kernel
theorem w_tables : (allAtoms (Jvm.Cond.code x code maxLocals ret :: tables_1)).before args0 about1 = true := by
  rw [allAtoms_all]
  show words1.all (fun c => c.before args0 about1) = true
  refine all_split ?_ w_codes
  rw [← List.take_append_drop 24 words1, List.all_append, w_t1, ← List.take_append_drop 24 (words1.drop 24), List.all_append, w_t2, ← List.take_append_drop 24 ((words1.drop 24).drop 24), List.all_append, w_t3, ← List.take_append_drop 24 (((words1.drop 24).drop 24).drop 24), List.all_append, w_t4, ← List.take_append_drop 24 ((((words1.drop 24).drop 24).drop 24).drop 24), List.all_append, w_t5, w_t6]
  rfl
set_option maxRecDepth 65536 in
theorem w_rest : rest_1_c.before args0 about1 = true := by decide +kernel
set_option maxRecDepth 65536 in
theorem w_case : (Jvm.Cond.and given_1 narrow_1).before args0 about1 = true := by decide +kernel
set_option maxRecDepth 65536 in
theorem w_consts : constsHeld consts_1 about1 := Jvm.Lit.constsHeldB_iff.mp (by decide +kernel)
theorem w_applies : (headSpec (Jvm.Cond.code x code maxLocals ret :: tables_1) room_1).applies x e0.platform about1 = true :=
  (Spec.applies_iff w_frames).mpr ⟨w_running, w_runnable, w_alone, w_named, w_hears, w_ripe, w_room, w_tables⟩
theorem atStart : AtStart classFile x code maxLocals ret World_1 tables_1 room_1 Calls_1 rest_1 Pre_1 launch0 p0 e0 about1 theMethod args0 below0 :=
  ⟨lists_1, trivial, launch0.admits_env _ _ _, launch0.least_env, fairChoices_fair.cas, fairChoices_fair.clock, w_frames, w_args, w_heap, w_applies, ⟨w_consts, trivial⟩, w_rest, w_case⟩
end start1
theorem witness_1 : WitnessClaimed_1 := ⟨start1.p0, start1.e0, start1.about1, start1.theMethod, start1.args0, start1.below0, start1.atStart⟩
end Jvm.Pilot.@@N@@
