import JvmDerived
import JvmDerived.Pilot.@@N@@Statement
import JvmDerived.Pilot.@@N@@Code
set_option linter.unusedVariables false
set_option linter.unusedSimpArgs false
namespace Jvm.RoadKit
open Sem ClassFile Op Lib Jvm.Stand Jvm.Free Jvm.LawKit
section New
variable {p : Program} {l : Launch} {e : Env} {R : Room} {s : State} {m : MethodId} {args : Array Value} {below : List Frame} {meth : Method} {c : Code} {T : State} {locs : List Loc} {cells slots : Nat}
theorem retI (X : Stand p l e R s m args below meth c T locs cells slots) (hx : p.tables.exec = Jvm.exec) {pc : Nat} {Ls : Array Slot} {z : Int32} {rest : List Value} (hret : meth.sig.returnType = some .int) (hd : decode c.code pc = .ok (.ireturn, 1)) {fs : List Frame}
    (hl : ∀ (f : JFrame) (acts : List Action), f.method = m → f.locked = none → f.entered = [] → (doReturn e (T.setTop f) acts (some (.int z))).1 = T.setFrames fs) : Steps p.tables e below (T.setTop (mkF m pc Ls (.int z :: rest))) (T.setFrames fs) := by
  have hm' : T.vm.method? m = some meth := X.method'
  have hn : narrow .int (.int z) = .int z := rfl
  show Steps p.tables e below (T.setTop { method := m, pc := pc, locals := Ls, stack := _ :: rest, locked := none }) _
  jvm_step X.here [X.here.top, hx, hd, hm', hret, hn]
  first | (intro acts; rw [hl _ acts rfl rfl rfl]) | rw [hl _ _ rfl rfl rfl]
  exact Steps.refl _
end New
end Jvm.RoadKit
namespace Jvm.Pilot.@@N@@
open Jvm Jvm.ClassFile Sem Op Lib Jvm.Free Jvm.Stand Jvm.LawKit Jvm.RoadKit Bundle Jvm.Pilot.@@N@@.Jvm.D
theorem wq {a0 : Array Value} {Z : State} (hw : ∀ d ∈ tables_1, d.before a0 Z = true) (i : Nat) {d : Jvm.Cond} (h : tables_1[i]? = some d) : d.before a0 Z = true := hw d (List.mem_of_getElem? h)
/-- from U the run comes back to its caller; what it returns, the heap and the places written meet Q -/
def Goes (p : Program) (e : Env) (below : List Frame) (s : State) (Q : Option Value → Heap → List Loc → Prop) (C S : Nat) (U : State) : Prop :=
  ∃ s₂ o, Steps p.tables e below U s₂ ∧ s₂.status = .running ∧ Ended s₂ below o ∧ ∃ v L, o = .returned v ∧ Q v s₂.heap L ∧ FrameEnd s o s₂ L C S
section Own
variable {p : Program} {l : Launch} {e : Env} {R : Room} {s : State} {m : MethodId} {args : Array Value} {below : List Frame} {meth : Method} {c : Code} {T : State} {locs : List Loc} {cells slots : Nat} {Q : Option Value → Heap → List Loc → Prop} {C S : Nat} {U U' : State}
theorem Goes.pre (f : ∀ t, Steps p.tables e below U' t → Steps p.tables e below U t) (g : Goes p e below s Q C S U') : Goes p e below s Q C S U := by
  obtain ⟨s₂, o, h1, r⟩ := g
  exact ⟨s₂, o, f _ h1, r⟩
theorem Goes.enter {g g' : JFrame} (q : g = g') (h : Goes p e below s Q C S (U.setTop g')) : Goes p e below s Q C S (U.setTop g) := q ▸ h
theorem Goes.ret (X : Stand p l e R s m args below meth c T locs cells slots) {v : Option Value} (hv : meth.sig.returnType = none → v = none) (hlocks : meth.locks = false) (hc : cells ≤ C) (hs : slots ≤ S) {h : Heap} (eT : T.heap = h)
    (step : ∀ fs, (∀ (f : JFrame) (acts : List Action), f.method = m → f.locked = none → f.entered = [] → (doReturn e (T.setTop f) acts v).1 = T.setFrames fs) → Steps p.tables e below U (T.setFrames fs)) (q : Q v h locs) : Goes p e below s Q C S U := by
  obtain ⟨fs, hr, hrun, hended, hW, hsame⟩ := X.leave hv hlocks
  refine ⟨_, _, step fs hr, hrun, hended, _, _, rfl, ?_, ⟨_, rfl⟩, hW, hsame.mono hc hs⟩
  show Q v T.heap locs
  rw [eT]
  exact q
end Own
abbrev Rm (f c s l : Nat) : Room := { frames := f, cells := c, slots := s, locals := l }
/-- the contract of a body: called with these values at the heap h0, it comes back and Q holds of what it leaves -/
abbrev Met (l : Launch) (Z : State) (y : MethodName) (bytes : ByteArray) (maxL : Nat) (ret : Option FieldType) (ws : List Jvm.Cond) (rm : Room) (as' : Array Value) (h0 : Heap) (Q : Option Value → Heap → List Loc → Prop) : Prop :=
  MetFree l y (head1 (Jvm.Cond.code y bytes maxL ret :: ws) rm) (fun argv U => argv = as' ∧ Z.Warmed39 U.vm ∧ U.heap = h0) (fun _ _ _ _ _ => True) (fun _ U o U' => ∃ v L, o = .returned v ∧ Q v U'.heap L ∧ FrameEnd U o U' L rm.cells rm.slots)
theorem met_of {l : Launch} {Z : State} {y : MethodName} {bytes : ByteArray} {maxL : Nat} {ret : Option FieldType} {ws : List Jvm.Cond} {rm : Room} {as' : Array Value} {h0 : Heap} {Q : Option Value → Heap → List Loc → Prop} {L0 : Array Slot} {own : String}
    (hp : plainFor y = true) (ho : y.cls = own) (ef : ∀ m, entryFrame m as' maxL = mkF m 0 L0 [])
    (body : ∀ (p : Program) (e : Env) (s : State) (m : MethodId) (below : List Frame) (meth : Method) (c : Code) (s₁ : State), p.tables.exec = Jvm.exec → c.code = bytes → c.maxLocals = maxL → s.vm.findClass own = some m.cls → meth.name = y.name → Z.Warmed39 s.vm → Stand p l e rm s m as' below meth c s₁ [] 0 0 → s₁.heap = h0 → meth.sig.returnType = ret → meth.locks = false → Goes p e below s Q rm.cells rm.slots (s₁.setTop (mkF m 0 L0 []))) :
    Met l Z y bytes maxL ret ws rm as' h0 Q := by
  refine MetFree.of_bodySF hp hisR ?_
  intro p e s m args below meth c s₁ Bd hml0 hP hK
  obtain ⟨rfl, hZ, hh⟩ := hP
  refine Goes.enter (ef m) (body p e s m below meth c s₁ Bd.exec Bd.bytes hml0 (ho ▸ findClass_of_methodNamed Bd.named) (name_of_methodNamed Bd.named Bd.method).1 hZ (Stand.of_body Bd) (by rw [← hh, Bd.state]; rfl) Bd.returns Bd.notSynchronized)
theorem own_lsw {tb : Tables} [Ours tb] {e : Env} {below : List Frame} {T target : State} {m : MethodId} {c : Code} {g : JFrame} (h : At T m c below) (hx : tb.exec = Jvm.exec) (hg : g.method = m) {dflt : Int} {prs : Array (Int × Int)} {len : Nat} {o : Int} {pc0 pc' : Nat} (hpc : g.pc = pc0) (hd : decode c.code g.pc = .ok (.lookupswitch dflt prs, len)) {i : Int32} {rest : List Value} (hs : g.stack = .int i :: rest)
    (hso : ∀ (a b a_1 b_1 : Int), ((a, b), a_1, b_1) ∈ prs.toList.zip prs.toList.tail → a < a_1) (hoff : lookupswitch.offset prs.toList dflt i.toInt = o) (ho : 0 ≤ (pc0 : Int) + o) (hp : ((pc0 : Int) + o).toNat = pc')
    (hr : Steps tb e below (T.setTop { g with pc := pc', stack := rest }) target) : Steps tb e below (T.setTop g) target := by
  subst hg hpc hp
  jvm_step h [h.top, hx, hd, hs, lookupswitch.wp_chain, hoff, ho]
  exact ⟨hso, hr⟩
/-- as Goes, for a walk that may load String constants cold: the end is the wide one, and the constants' book goes on -/
def GoesW (p : Program) (e : Env) (below : List Frame) (s Z : State) (EL : List (String × Nat)) (Q : Option Value → Heap → List Loc → Prop) (C S : Nat) (U : State) : Prop :=
  ∃ s₂ o, Steps p.tables e below U s₂ ∧ s₂.status = .running ∧ Ended s₂ below o ∧ ∃ v L, o = .returned v ∧ Q v s₂.heap L ∧ CHr Z EL s.vm s.heap s₂.vm s₂.heap ∧ ReturnedEndW s o s₂ L C S
section OwnW
variable {p : Program} {l : Launch} {e : Env} {R : Room} {s Z : State} {m : MethodId} {args a0 : Array Value} {below : List Frame} {meth : Method} {c : Code} {T : State} {locs : List Loc} {cells slots : Nat} {Q : Option Value → Heap → List Loc → Prop} {C S : Nat} {U U' : State} {EL : List (String × Nat)} {vm0 : Vm} {h : Heap}
theorem GoesW.pre (f : ∀ t, Steps p.tables e below U' t → Steps p.tables e below U t) (g : GoesW p e below s Z EL Q C S U') : GoesW p e below s Z EL Q C S U := by
  obtain ⟨s₂, o, h1, r⟩ := g
  exact ⟨s₂, o, f _ h1, r⟩
theorem GoesW.enter {g g' : JFrame} (q : g = g') (h : GoesW p e below s Z EL Q C S (U.setTop g')) : GoesW p e below s Z EL Q C S (U.setTop g) := q ▸ h
theorem GoesW.ret (X : Stand p l e R (s.setVm vm0) m args below meth c T locs cells slots) {k0 : Nat} (hZ : Z.Warmed39 (s.setVm vm0).vm) (hEL : EW Z a0 EL) (hS : s.Since vm0 k0) (hk : k0 ≤ h.size) (H : CHv Z EL vm0 h) (CR : CHr Z EL s.vm s.heap vm0 h) {v : Option Value} (hv : meth.sig.returnType = none → v = none) (hlocks : meth.locks = false) (hc : cells ≤ C) (hs : slots ≤ S) (eT : T.heap = h)
    (step : ∀ fs, (∀ (f : JFrame) (acts : List Action), f.method = m → f.locked = none → f.entered = [] → (doReturn e (T.setTop f) acts v).1 = T.setFrames fs) → Steps p.tables e below U (T.setFrames fs)) (q : Q v h locs) : GoesW p e below s Z EL Q C S U := by
  obtain ⟨fs, hr, hrun, hended, hW⟩ := X.leaveW hS (by rw [eT]; exact hk) hv hlocks
  refine ⟨_, _, step fs hr, hrun, hended, _, _, rfl, ?_, ?_, hW.1, hW.2.1, hW.2.2.1, hW.2.2.2.mono hc hs⟩
  · show Q v T.heap locs
    rw [eT]
    exact q
  · show CHr Z EL s.vm s.heap T.vm T.heap
    rw [eT]
    exact CR.trans (CHv.at X hZ hEL H)
abbrev MetW (l : Launch) (Z : State) (EL : List (String × Nat)) (y : MethodName) (bytes : ByteArray) (maxL : Nat) (ret : Option FieldType) (ws : List Jvm.Cond) (rm : Room) (as' : Array Value) (sf : List Addr) (h0 : Heap) (Q : Option Value → Heap → List Loc → Prop) : Prop :=
  MetFree l y (head1 (Jvm.Cond.code y bytes maxL ret :: ws) rm) (fun argv U => argv = as' ∧ Z.Warmed39 U.vm ∧ U.heap = h0 ∧ CHv Z EL U.vm h0 ∧ ∀ x ∈ sf, Safe Z EL U.vm h0 x) (fun _ _ _ _ _ => True) (fun _ U o U' => ∃ v L, o = .returned v ∧ Q v U'.heap L ∧ CHr Z EL U.vm U.heap U'.vm U'.heap ∧ ReturnedEndW U o U' L rm.cells rm.slots)
theorem metW_of {y : MethodName} {bytes : ByteArray} {maxL : Nat} {ret : Option FieldType} {ws : List Jvm.Cond} {rm : Room} {as' : Array Value} {sf : List Addr} {h0 : Heap} {L0 : Array Slot} {own : String}
    (hp : plainFor y = true) (ho : y.cls = own) (ef : ∀ m, entryFrame m as' maxL = mkF m 0 L0 [])
    (body : ∀ (p : Program) (e : Env) (s : State) (m : MethodId) (below : List Frame) (meth : Method) (c : Code) (s₁ : State), p.tables.exec = Jvm.exec → c.code = bytes → c.maxLocals = maxL → (s.setVm s.vm).vm.findClass own = some m.cls → meth.name = y.name → Z.Warmed39 (s.setVm s.vm).vm → Stand p l e rm (s.setVm s.vm) m as' below meth c s₁ [] 0 0 → s₁.heap = h0 → meth.sig.returnType = ret → meth.locks = false → CHv Z EL s.vm h0 → (∀ x ∈ sf, Safe Z EL s.vm h0 x) → CHr Z EL s.vm s.heap s.vm h0 → s.Since s.vm h0.size → GoesW p e below s Z EL Q rm.cells rm.slots (s₁.setTop (mkF m 0 L0 []))) :
    MetW l Z EL y bytes maxL ret ws rm as' sf h0 Q := by
  refine MetFree.of_bodySF hp hisR ?_
  intro p e s m args below meth c s₁ Bd hml0 hP hK
  obtain ⟨rfl, hZ, hh, H, hSf⟩ := hP
  refine GoesW.enter (ef m) (body p e s m below meth c s₁ Bd.exec Bd.bytes hml0 (ho ▸ findClass_of_methodNamed Bd.named) (name_of_methodNamed Bd.named Bd.method).1 hZ (Stand.of_body Bd) (by rw [← hh, Bd.state]; rfl) Bd.returns Bd.notSynchronized H hSf (by rw [hh]; exact CHr.refl H) ((State.WarmedH.refl s).since _))
theorem own_backSH {y : MethodName} {bytes : ByteArray} {maxL : Nat} {ret : Option FieldType} {rm : Room} {len W : Nat} {as' : Array Value} {sf : List Addr}
    (hM : MetFree l y (head1 [Cond.code y bytes maxL ret] rm) (fun argv U => argv = as' ∧ Z.Warmed39 U.vm ∧ U.heap = h ∧ CHv Z EL U.vm h ∧ ∀ x ∈ sf, Safe Z EL U.vm h x) (fun _ _ _ _ _ => True) (fun _ U o U' => ∃ v L, o = .returned v ∧ Q v U'.heap L ∧ CHr Z EL U.vm U.heap U'.vm U'.heap ∧ ReturnedEndW U o U' L rm.cells rm.slots))
    (hZ : Z.Warmed39 (s.setVm vm0).vm) (wc : (Cond.code y bytes maxL ret).before a0 Z = true) (wz : (Cond.initialized y.cls).before a0 Z = true) (hf : rm.frames + 1 ≤ R.frames) (hl : W + (maxL + 11) + rm.locals ≤ R.locals) (hEL : EW Z a0 EL) (H : CHv Z EL vm0 h) (hs : ∀ x ∈ sf, Safe Z EL vm0 h x ∧ x < h.size) :
    BackS l R p e below (s.setVm vm0) args y len W (fun A a => a = as' ∧ A.U.heap = h ∧ A.cells + rm.cells ≤ R.cells ∧ A.slots + rm.slots ≤ R.slots)
      (fun A _ v B => ∃ L, Q v B.U.heap L ∧ B.locs = A.locs ++ L ∧ B.cells = A.cells + rm.cells ∧ B.slots = A.slots + rm.slots ∧ CHr Z EL vm0 h B.U.vm B.U.heap) := by
  refine BackS.of_freeW (bytes := bytes) (maxL := maxL) (ret := ret) (E := fun _ first o t L k n => k = rm.cells ∧ n = rm.slots ∧ (∃ v, o = .returned v ∧ Q v t.heap L) ∧ CHr Z EL first.vm first.heap t.vm t.heap) hM hf hl ?_ ?_ (fun _ _ _ _ _ _ _ _ _ => trivial) ?_ ?_
  · intro m meth c A a Y hp
    have hU : Z.Warmed39 A.U.vm := wtrans (s := s.setVm vm0) hZ Y.warmed
    exact ⟨by show (Cond.and _ .tt).before a A.U = true; rw [Cond.before_and, mv hU wc]; rfl, mv hU wc, mv hU wz, hp.2.2.1, hp.2.2.2⟩
  · intro m meth c A a g mk Y hp
    have q := CHv.at Y hZ hEL H
    exact ⟨hp.1, wtrans (s := s.setVm vm0) hZ Y.warmed, hp.2.1, q.1, fun x hx => q.safe (hs x hx).2 (hs x hx).1⟩
  · intro _ _ _ _ z
    obtain ⟨v, L, h1, h2, h3, h4⟩ := z
    exact ⟨L, _, _, h4, rfl, rfl, ⟨v, h1, h2⟩, h3⟩
  · intro m meth c A a g mk v t L k n Y hp _ _ z
    obtain ⟨e1, e2, ⟨v', e3, e4⟩, e5⟩ := z
    cases e3
    subst e1 e2
    refine ⟨L, e4, rfl, rfl, rfl, (CHv.at Y hZ hEL H).trans ?_⟩
    rw [← hp.2.1]
    exact e5
theorem own_since (s : State) (n : Nat) : s.Since s.vm n := (State.WarmedH.refl s).since n
theorem own_found {vm1 : Vm} {own : String} {k : ClassId} {n : Nat} (hS : (s.setVm vm0).Since vm1 n) (hown : (s.setVm vm0).vm.findClass own = some k) : (s.setVm vm1).vm.findClass own = some k := by
  show vm1.findClass own = some k
  rw [hS.1.alike.findClass]
  exact hown
end OwnW
abbrev own_EL : List (String × Nat) := [("java/lang/String", 7)]
theorem own_atoms {a0 : Array Value} {Z : State} (hw : ∀ d ∈ tables_1, d.before a0 Z = true) : ∀ a ∈ Bundle.stringAtoms, a.before a0 Z = true := by
  intro a ha
  simp only [Bundle.stringAtoms, Bundle.sN, List.mem_cons, List.not_mem_nil, or_false] at ha
  rcases ha with rfl | rfl | rfl | rfl | rfl | rfl | rfl
  · exact (wq hw 10 rfl)
  · exact (wq hw 9 rfl)
  · exact (wq hw 23 rfl)
  · exact (wq hw 24 rfl)
  · exact (wq hw 25 rfl)
  · exact (wq hw 26 rfl)
  · exact (wq hw 27 rfl)
theorem own_bb (x : Int32) : nar .byte x.toInt8.toInt32 = x.toInt8.toInt32 := by
  show x.toInt8.toInt32.toInt8.toInt32 = x.toInt8.toInt32
  rw [Int8.toInt8_toInt32]
def OwnCh (c : Int32) : Prop := 0 ≤ c.toInt ∧ c.toInt < 65536
def OwnStr (Z : State) (h : Heap) (r b : Addr) (kb : ClassId) (cs : List Int32) : Prop :=
  Exa Z h r "java/lang/String" ∧ Fld Z h r "java/lang/String" "value" "[B" (.ref b) ∧ (∀ c ∈ cs, OwnCh c) ∧
  ((Fld Z h r "java/lang/String" "coder" "B" (.int (0 : Int32)) ∧ Arv Z h b kb .byte (Int32.ofNat cs.length) (cs.map fun c => .int c.toInt8.toInt32) (.int (0 : Int32)) ∧ ∀ c ∈ cs, ¬ ((255 : Int32) < c)) ∨
   (Fld Z h r "java/lang/String" "coder" "B" (.int (1 : Int32)) ∧ Arv Z h b kb .byte (Int32.ofNat (2 * cs.length)) (cs.flatMap fun c => [.int (c >>> ((0 : Int32) &&& 31)).toInt8.toInt32, .int (c >>> ((8 : Int32) &&& 31)).toInt8.toInt32]) (.int (0 : Int32)) ∧ ∃ c ∈ cs, (255 : Int32) < c))
theorem OwnStr.ext {Z : State} {h h' : Heap} {r b : Addr} {kb : ClassId} {cs : List Int32} (F : OwnStr Z h r b kb cs) (E : Ext h h') : OwnStr Z h' r b kb cs := by
  obtain ⟨e1, f1, g, q⟩ := F
  refine ⟨e1.ext E, f1.ext E, g, ?_⟩
  rcases q with ⟨q1, q2, q3⟩ | ⟨q1, q2, q3⟩
  · exact Or.inl ⟨q1.ext E, q2.ext E, q3⟩
  · exact Or.inr ⟨q1.ext E, q2.ext E, q3⟩
theorem OwnStr.keep {Z : State} {h h' : Heap} {r b : Addr} {kb : ClassId} {cs : List Int32} {ws : List Addr} (F : OwnStr Z h r b kb cs) (K : Keep h h' ws) (n1 : r ∉ ws) (n2 : b ∉ ws) : OwnStr Z h' r b kb cs := by
  obtain ⟨e1, f1, g, q⟩ := F
  refine ⟨e1.keep K, f1.keep K n1, g, ?_⟩
  rcases q with ⟨q1, q2, q3⟩ | ⟨q1, q2, q3⟩
  · exact Or.inl ⟨q1.keep K n1, q2.keep K n2, q3⟩
  · exact Or.inr ⟨q1.keep K n1, q2.keep K n2, q3⟩
theorem OwnStr.lt {Z : State} {h : Heap} {r b : Addr} {kb : ClassId} {cs : List Int32} (F : OwnStr Z h r b kb cs) : r < h.size := F.1.lt
theorem OwnStr.ltb {Z : State} {h : Heap} {r b : Addr} {kb : ClassId} {cs : List Int32} (F : OwnStr Z h r b kb cs) : b < h.size := by
  obtain ⟨e1, f1, g, q⟩ := F
  rcases q with ⟨q1, q2, q3⟩ | ⟨q1, q2, q3⟩ <;> exact q2.lt
theorem own_l1 (c : Int32) (h0 : OwnCh c) (h1 : ¬ ((255 : Int32) < c)) : nar .char (c.toInt8.toInt32 &&& (255 : Int32)).toUInt32.toUInt16.toUInt32.toInt32 = c := by
  have k : (255 : Int32).toInt = 255 := by decide
  rw [Int32.lt_iff_toInt_lt, k] at h1
  obtain ⟨h0, -⟩ := h0
  have a1 := c_i2b c
  have a2 := c_mask c.toInt8.toInt32 255 8 (by decide) (by decide)
  have a3 := c_i2c (c.toInt8.toInt32 &&& 255)
  have a4 := c_i2c (c.toInt8.toInt32 &&& (255 : Int32)).toUInt32.toUInt16.toUInt32.toInt32
  apply Int32.toInt_inj.mp
  show ((c.toInt8.toInt32 &&& (255 : Int32)).toUInt32.toUInt16.toUInt32.toInt32.toUInt32.toUInt16.toUInt32.toInt32).toInt = c.toInt
  omega
theorem own_u16 (c : Int32) (h0 : OwnCh c) : nar .char ((((c >>> ((0 : Int32) &&& 31)).toInt8.toInt32 &&& (255 : Int32)) <<< ((0 : Int32) &&& 31)) ||| (((c >>> ((8 : Int32) &&& 31)).toInt8.toInt32 &&& (255 : Int32)) <<< ((8 : Int32) &&& 31))).toUInt32.toUInt16.toUInt32.toInt32 = c := by
  obtain ⟨h0, h1⟩ := h0
  have s0 := c_ishr c 0 0 (by decide)
  have s8 := c_ishr c 8 8 (by decide)
  generalize c >>> ((0 : Int32) &&& 31) = x at *
  generalize c >>> ((8 : Int32) &&& 31) = y at *
  have a1 := c_i2b x
  have b1 := c_i2b y
  have a2 := c_mask x.toInt8.toInt32 255 8 (by decide) (by decide)
  have b2 := c_mask y.toInt8.toInt32 255 8 (by decide) (by decide)
  generalize x.toInt8.toInt32 &&& (255 : Int32) = u at *
  generalize y.toInt8.toInt32 &&& (255 : Int32) = v at *
  have a3 := c_ishl u 0 0 (by decide)
  have b3 := c_ishl v 8 8 (by decide)
  have r1 := rng32 (u <<< ((0 : Int32) &&& 31))
  have r2 := rng32 (v <<< ((8 : Int32) &&& 31))
  generalize u <<< ((0 : Int32) &&& 31) = u' at *
  generalize v <<< ((8 : Int32) &&& 31) = v' at *
  have o := c_or' u' v' 8 (by decide) 256 (by decide) (by omega) (by omega) (by omega)
  have r3 := rng32 (u' ||| v')
  generalize u' ||| v' = t at *
  have a5 := c_i2c t
  have a6 := c_i2c t.toUInt32.toUInt16.toUInt32.toInt32
  apply Int32.toInt_inj.mp
  show (t.toUInt32.toUInt16.toUInt32.toInt32.toUInt32.toUInt16.toUInt32.toInt32).toInt = c.toInt
  omega
theorem own_chr (x : Int32) : nar .char x.toUInt32.toUInt16.toUInt32.toInt32 = x.toUInt32.toUInt16.toUInt32.toInt32 := by
  have a5 := c_i2c x
  have a6 := c_i2c x.toUInt32.toUInt16.toUInt32.toInt32
  apply Int32.toInt_inj.mp
  show (x.toUInt32.toUInt16.toUInt32.toInt32.toUInt32.toUInt16.toUInt32.toInt32).toInt = _
  omega
theorem own_nch (c : Int32) (h : OwnCh c) : nar .char c = c := by
  obtain ⟨h0, h1⟩ := h
  have a5 := c_i2c c
  apply Int32.toInt_inj.mp
  show (c.toUInt32.toUInt16.toUInt32.toInt32).toInt = c.toInt
  omega
theorem own_isch (x : Int32) : OwnCh x.toUInt32.toUInt16.toUInt32.toInt32 := (c_i2c x).2
theorem ef_rm_pcIdx (m : MethodId) (x0 : Int32) (x1 : Int32) (x2 : Value) (hx2 : x2.isRef = true) : entryFrame m #[(.int x0), (.int x1), x2] 3 = mkF m 0 #[.val (.int x0), .val (.int x1), .val x2] [] := by rcases ref_cases hx2 with rfl | ⟨_, rfl⟩ <;> first | (simp [entryFrame, mkF, argsToLocals, Value.category]; done) | rfl
theorem pn_jdk_internal_util_Preconditions : plainName "jdk/internal/util/Preconditions" = true := by first | (simp [plainName, overriddenIn]; done) | decide +kernel
abbrev M17 : MethodName := ⟨"jdk/internal/util/Preconditions", "checkIndex", "(IILjava/util/function/BiFunction;)I"⟩
theorem d17_0 : decode jdk_41_method_11_code 0 = .ok (.iload_n 0, 1) := by decide +kernel
theorem d17_1 : decode jdk_41_method_11_code 1 = .ok (.ifCond .lt 8, 3) := by decide +kernel
theorem d17_4 : decode jdk_41_method_11_code 4 = .ok (.iload_n 0, 1) := by decide +kernel
theorem d17_5 : decode jdk_41_method_11_code 5 = .ok (.iload_n 1, 1) := by decide +kernel
theorem d17_6 : decode jdk_41_method_11_code 6 = .ok (.if_icmp .lt 10, 3) := by decide +kernel
theorem d17_16 : decode jdk_41_method_11_code 16 = .ok (.iload_n 0, 1) := by decide +kernel
theorem d17_17 : decode jdk_41_method_11_code 17 = .ok (.ireturn, 1) := by decide +kernel
def Q_rm_pcIdx (Z : State) (i : Int32) (n : Int32) (sf : Value) (h0 : Heap) (n0 : Nat) (v : Option Value) (h : Heap) (L : List Loc) : Prop := v = some (.int i) ∧ Fr n0 L ∧ h = h0
set_option maxRecDepth 65536 in
set_option maxHeartbeats 40000000 in
theorem rm_pcIdx (l : Launch) (Z : State) (a0 : Array Value) (hw : ∀ d ∈ tables_1, d.before a0 Z = true) (ws : List Jvm.Cond) (i : Int32) (n : Int32) (sf : Value) (h0 : Heap) (n0 : Nat) (Z0 : n0 ≤ h0.size)  (h1 : ¬ (i < (0 : Int32))) (h2 : i < n) (hsf : sf.isRef = true) :
    Met l Z M17 jdk_41_method_11_code 3 (some .int) ws (Rm 0 0 0 0) #[(.int i), (.int n), sf] h0 (Q_rm_pcIdx Z i n sf h0 n0) := by
  refine met_of (plainFor_of_name pn_jdk_internal_util_Preconditions) (own := "jdk/internal/util/Preconditions") rfl (fun m => ef_rm_pcIdx m i n sf hsf) ?_
  intro p e s m below meth c s₁ hx hby hml hown hnm hZ X0 e0 hret hlk
  have N0 := Fr.nil n0
  show Goes p e below s _ _ _ (s₁.setTop (mkF m 0 #[.val (.int i), .val (.int n), .val sf] []))
  refine Goes.pre (U' := s₁.setTop (mkF m 1 #[.val (.int i), .val (.int n), .val sf] [(.int i)])) (fun t k => XS.iloadN X0.here hx rfl (hb hby d17_0) rfl k) ?_
  have hc1 : ¬ (i < (0 : Int32)) := h1
  refine Goes.pre (U' := s₁.setTop (mkF m 6 #[.val (.int i), .val (.int n), .val sf] [(.int n), (.int i)])) (fun t k => XS.ifNo X0.here hx rfl (hb hby d17_1) rfl ((if0 _ _).trans (flt hc1).1) (XS.iloadN X0.here hx rfl (hb hby d17_4) rfl (XS.iloadN X0.here hx rfl (hb hby d17_5) rfl k))) ?_
  have hc6 : i < n := h2
  refine Goes.pre (U' := s₁.setTop (mkF m 17 #[.val (.int i), .val (.int n), .val sf] [(.int i)])) (fun t k => XS.icmpYes X0.here hx rfl (pc0 := 6) (pc' := 16) rfl (hb hby d17_6) rfl (tlt hc6).1 (by decide) (by decide) (XS.iloadN X0.here hx rfl (hb hby d17_16) rfl k)) ?_
  refine Goes.ret X0 (v := (some (.int i))) (fun h => by rw [hret] at h; cases h) hlk (by decide) (by decide) e0 (fun fs hr => retI X0 hx hret (hb hby d17_17) hr) ?_
  exact ⟨rfl, N0, rfl⟩
theorem ef_rm_sIdx (m : MethodId) (x0 : Int32) (x1 : Int32) : entryFrame m #[(.int x0), (.int x1)] 2 = mkF m 0 #[.val (.int x0), .val (.int x1)] [] := by first | (simp [entryFrame, mkF, argsToLocals, Value.category]; done) | rfl
theorem pn_java_lang_String : plainName "java/lang/String" = true := by first | (simp [plainName, overriddenIn]; done) | decide +kernel
abbrev M16 : MethodName := ⟨"java/lang/String", "checkIndex", "(II)V"⟩
theorem d16_0 : decode jdk_42_method_155_code 0 = .ok (.iload_n 0, 1) := by decide +kernel
theorem d16_1 : decode jdk_42_method_155_code 1 = .ok (.iload_n 1, 1) := by decide +kernel
theorem d16_2 : decode jdk_42_method_155_code 2 = .ok (.getstatic 1053, 3) := by decide +kernel
theorem d16_5 : decode jdk_42_method_155_code 5 = .ok (.invokestatic 1059, 3) := by decide +kernel
theorem pd__28IILjava_2futil_2ffunction_2fBiFunction_3b_29I : parseMethodDescriptor "(IILjava/util/function/BiFunction;)I" = some ⟨[.int, .int, (.object "java/util/function/BiFunction")], some .int⟩ := by decide +kernel
theorem d16_8 : decode jdk_42_method_155_code 8 = .ok (.pop, 1) := by decide +kernel
theorem d16_9 : decode jdk_42_method_155_code 9 = .ok (.return_, 1) := by decide +kernel
def Q_rm_sIdx (Z : State) (i : Int32) (n : Int32) (sf : Value) (h0 : Heap) (n0 : Nat) (v : Option Value) (h : Heap) (L : List Loc) : Prop := v = none ∧ Fr n0 L ∧ h = h0
set_option maxRecDepth 65536 in
set_option maxHeartbeats 40000000 in
theorem rm_sIdx (l : Launch) (Z : State) (a0 : Array Value) (hw : ∀ d ∈ tables_1, d.before a0 Z = true) (ws : List Jvm.Cond) (i : Int32) (n : Int32) (sf : Value) (h0 : Heap) (n0 : Nat) (Z0 : n0 ≤ h0.size) (S_SIOOBE_FORMATTER : Sta Z Z.heap "jdk/internal/util/Preconditions" "SIOOBE_FORMATTER" "Ljava/util/function/BiFunction;" sf) (h1 : ¬ (i < (0 : Int32))) (h2 : i < n) (hsf : sf.isRef = true) (O : Old Z n0 h0) :
    Met l Z M16 jdk_42_method_155_code 2 none ws (Rm 1 0 0 14) #[(.int i), (.int n)] h0 (Q_rm_sIdx Z i n sf h0 n0) := by
  refine met_of (plainFor_of_name pn_java_lang_String) (own := "java/lang/String") rfl (fun m => ef_rm_sIdx m i n) ?_
  intro p e s m below meth c s₁ hx hby hml hown hnm hZ X0 e0 hret hlk
  have N0 := Fr.nil n0
  show Goes p e below s _ _ _ (s₁.setTop (mkF m 0 #[.val (.int i), .val (.int n)] []))
  refine Goes.pre (U' := s₁.setTop (mkF m 2 #[.val (.int i), .val (.int n)] [(.int n), (.int i)])) (fun t k => XS.iloadN X0.here hx rfl (hb hby d16_0) rfl (XS.iloadN X0.here hx rfl (hb hby d16_1) rfl k)) ?_
  obtain ⟨T1, X1, e1, st1⟩ := getS2 X0 hx hZ hown (host := "") (Or.inl (wq hw 82 rfl)) Via.refl e0 (S_SIOOBE_FORMATTER.ext O.2) (g := (mkF m 2 #[.val (.int i), .val (.int n)] [(.int n), (.int i)])) rfl (hb hby d16_2)
  refine Goes.pre (U' := T1.setTop (mkF m 5 #[.val (.int i), .val (.int n)] [sf, (.int n), (.int i)])) (fun t k => st1 t k) ?_
  obtain ⟨_, _, ⟨T2, L2, k2, n2⟩, -, X2, ⟨Lc2, hQ2, l2, y2, z2⟩, st2⟩ := Jvm.LawKit.callS X1 hx (y := (⟨"jdk/internal/util/Preconditions", "checkIndex", "(IILjava/util/function/BiFunction;)I"⟩ : MethodName)) hown (mvT hZ (wq hw 84 rfl)) (mvT hZ (wq hw 85 rfl)) (mvT hZ (wq hw 83 rfl)) (mvT hZ (wq hw 86 rfl)) (by decide) (backOf (W := 0) (rm_pcIdx l Z a0 hw [] i n sf h0 n0 Z0  h1 h2 hsf) hZ (wq hw 86 rfl) (wq hw 83 rfl) (by decide) (by decide)) (g := (mkF m 5 #[.val (.int i), .val (.int n)] [sf, (.int n), (.int i)])) rfl (by rw [hml]; rfl) (argsL := [(.int i), (.int n), sf]) (rest := []) (lenOf pd__28IILjava_2futil_2ffunction_2fBiFunction_3b_29I rfl) rfl (by show 2 * 0 + _ ≤ _; exact Nat.le_of_eq rfl) (hb hby d16_5) (fun _ _ => ⟨rfl, e1, (by decide : 0 + 0 ≤ _), (by decide : 0 + 0 ≤ _)⟩)
  dsimp only [Pt.U, Pt.locs, Pt.cells, Pt.slots] at X2 l2 y2 z2 st2 hQ2
  subst l2 y2 z2
  obtain ⟨rfl, N2q, HQ2⟩ := hQ2
  have N2 := Fr.app N0 N2q
  refine Goes.pre (U' := T2.setTop (mkF m 9 #[.val (.int i), .val (.int n)] [])) (fun t k => st2 t (XS.pop X2.here hx rfl (hb hby d16_8) rfl rfl k)) ?_
  refine Goes.ret X2 (v := none) (fun _ => rfl) hlk (by decide) (by decide) HQ2 (fun fs hr => X2.returnOut hx hret (hb hby d16_9) hr) ?_
  exact ⟨rfl, N2, rfl⟩
theorem ef_rm_ulen1 (m : MethodId) (x0 : Addr) : entryFrame m #[(.ref x0)] 1 = mkF m 0 #[.val (.ref x0)] [] := by first | (simp [entryFrame, mkF, argsToLocals, Value.category]; done) | rfl
theorem pn_java_lang_StringUTF16 : plainName "java/lang/StringUTF16" = true := by first | (simp [plainName, overriddenIn]; done) | decide +kernel
abbrev M26 : MethodName := ⟨"java/lang/StringUTF16", "length", "([B)I"⟩
theorem d26_0 : decode jdk_52_method_6_code 0 = .ok (.aload_n 0, 1) := by decide +kernel
theorem d26_1 : decode jdk_52_method_6_code 1 = .ok (.arraylength, 1) := by decide +kernel
theorem d26_2 : decode jdk_52_method_6_code 2 = .ok (.iconst 1, 1) := by decide +kernel
theorem d26_3 : decode jdk_52_method_6_code 3 = .ok (.ishr, 1) := by decide +kernel
theorem d26_4 : decode jdk_52_method_6_code 4 = .ok (.ireturn, 1) := by decide +kernel
def Q_rm_ulen1 (Z : State) (b : Addr) (kb : ClassId) (c0 : Int32) (h0 : Heap) (n0 : Nat) (v : Option Value) (h : Heap) (L : List Loc) : Prop := v = some (.int (1 : Int32)) ∧ Fr n0 L ∧ h = h0
set_option maxRecDepth 65536 in
set_option maxHeartbeats 40000000 in
theorem rm_ulen1 (l : Launch) (Z : State) (a0 : Array Value) (hw : ∀ d ∈ tables_1, d.before a0 Z = true) (ws : List Jvm.Cond) (b : Addr) (kb : ClassId) (c0 : Int32) (h0 : Heap) (n0 : Nat) (Z0 : n0 ≤ h0.size) (V_b : Arv Z h0 b kb .byte (2 : Int32) [(.int (c0 >>> ((0 : Int32) &&& 31)).toInt8.toInt32), (.int (c0 >>> ((8 : Int32) &&& 31)).toInt8.toInt32)] (.int (0 : Int32))) :
    Met l Z M26 jdk_52_method_6_code 1 (some .int) ws (Rm 0 0 0 0) #[(.ref b)] h0 (Q_rm_ulen1 Z b kb c0 h0 n0) := by
  refine met_of (plainFor_of_name pn_java_lang_StringUTF16) (own := "java/lang/StringUTF16") rfl (fun m => ef_rm_ulen1 m b) ?_
  intro p e s m below meth c s₁ hx hby hml hown hnm hZ X0 e0 hret hlk
  have N0 := Fr.nil n0
  show Goes p e below s _ _ _ (s₁.setTop (mkF m 0 #[.val (.ref b)] []))
  refine Goes.pre (U' := s₁.setTop (mkF m 1 #[.val (.ref b)] [(.ref b)])) (fun t k => XS.aloadN X0.here hx rfl (hb hby d26_0) rfl rfl k) ?_
  obtain ⟨cl1, Ar1, q1, Sz1, Ng1, -, -⟩ := id V_b
  have ln1 := len_of Sz1 Ng1
  refine Goes.pre (U' := s₁.setTop (mkF m 4 #[.val (.ref b)] [(.int ((2 : Int32) >>> ((1 : Int32) &&& 31)))])) (fun t k => X0.arraylength hx (by rw [e0]; exact Ar1.1) (State.isArrayOf_alike hZ.alike Ar1.2.1) (g := (mkF m 1 #[.val (.ref b)] [(.ref b)])) rfl rfl (hb hby d26_1) _ (by rw [ln1]; exact (XS.iconst X0.here hx rfl (hb hby d26_2) (XS.ishr X0.here hx rfl (hb hby d26_3) rfl k)))) ?_
  rw [(by decide : ((2 : Int32) >>> ((1 : Int32) &&& 31)) = (1 : Int32))]
  refine Goes.ret X0 (v := (some (.int (1 : Int32)))) (fun h => by rw [hret] at h; cases h) hlk (by decide) (by decide) e0 (fun fs hr => retI X0 hx hret (hb hby d26_4) hr) ?_
  exact ⟨rfl, N0, rfl⟩
theorem ef_rm_l1ch10 (m : MethodId) (x0 : Addr) (x1 : Int32) : entryFrame m #[(.ref x0), (.int x1)] 2 = mkF m 0 #[.val (.ref x0), .val (.int x1)] [] := by first | (simp [entryFrame, mkF, argsToLocals, Value.category]; done) | rfl
theorem pn_java_lang_StringLatin1 : plainName "java/lang/StringLatin1" = true := by first | (simp [plainName, overriddenIn]; done) | decide +kernel
abbrev M15 : MethodName := ⟨"java/lang/StringLatin1", "charAt", "([BI)C"⟩
theorem d15_0 : decode jdk_43_method_2_code 0 = .ok (.iload_n 1, 1) := by decide +kernel
theorem d15_1 : decode jdk_43_method_2_code 1 = .ok (.aload_n 0, 1) := by decide +kernel
theorem d15_2 : decode jdk_43_method_2_code 2 = .ok (.arraylength, 1) := by decide +kernel
theorem d15_3 : decode jdk_43_method_2_code 3 = .ok (.invokestatic 9, 3) := by decide +kernel
theorem pd__28II_29V : parseMethodDescriptor "(II)V" = some ⟨[.int, .int], none⟩ := by decide +kernel
theorem d15_6 : decode jdk_43_method_2_code 6 = .ok (.aload_n 0, 1) := by decide +kernel
theorem d15_7 : decode jdk_43_method_2_code 7 = .ok (.iload_n 1, 1) := by decide +kernel
theorem d15_8 : decode jdk_43_method_2_code 8 = .ok (.baload, 1) := by decide +kernel
theorem d15_9 : decode jdk_43_method_2_code 9 = .ok (.sipush 255, 3) := by decide +kernel
theorem d15_12 : decode jdk_43_method_2_code 12 = .ok (.iand, 1) := by decide +kernel
theorem d15_13 : decode jdk_43_method_2_code 13 = .ok (.i2c, 1) := by decide +kernel
theorem d15_14 : decode jdk_43_method_2_code 14 = .ok (.ireturn, 1) := by decide +kernel
def Q_rm_l1ch10 (Z : State) (b : Addr) (kb : ClassId) (c0 : Int32) (sf : Value) (h0 : Heap) (n0 : Nat) (v : Option Value) (h : Heap) (L : List Loc) : Prop := v = some (.int c0) ∧ Fr n0 L ∧ h = h0
set_option maxRecDepth 65536 in
set_option maxHeartbeats 40000000 in
theorem rm_l1ch10 (l : Launch) (Z : State) (a0 : Array Value) (hw : ∀ d ∈ tables_1, d.before a0 Z = true) (ws : List Jvm.Cond) (b : Addr) (kb : ClassId) (c0 : Int32) (sf : Value) (h0 : Heap) (n0 : Nat) (Z0 : n0 ≤ h0.size) (V_b : Arv Z h0 b kb .byte (1 : Int32) [(.int c0.toInt8.toInt32)] (.int (0 : Int32))) (S_SIOOBE_FORMATTER : Sta Z Z.heap "jdk/internal/util/Preconditions" "SIOOBE_FORMATTER" "Ljava/util/function/BiFunction;" sf) (hch : OwnCh c0) (hle : ¬ ((255 : Int32) < c0)) (hsf : sf.isRef = true) (O : Old Z n0 h0) :
    Met l Z M15 jdk_43_method_2_code 2 (some .char) ws (Rm 2 0 0 27) #[(.ref b), (.int (0 : Int32))] h0 (Q_rm_l1ch10 Z b kb c0 sf h0 n0) := by
  refine met_of (plainFor_of_name pn_java_lang_StringLatin1) (own := "java/lang/StringLatin1") rfl (fun m => ef_rm_l1ch10 m b (0 : Int32)) ?_
  intro p e s m below meth c s₁ hx hby hml hown hnm hZ X0 e0 hret hlk
  have N0 := Fr.nil n0
  show Goes p e below s _ _ _ (s₁.setTop (mkF m 0 #[.val (.ref b), .val (.int (0 : Int32))] []))
  refine Goes.pre (U' := s₁.setTop (mkF m 2 #[.val (.ref b), .val (.int (0 : Int32))] [(.ref b), (.int (0 : Int32))])) (fun t k => XS.iloadN X0.here hx rfl (hb hby d15_0) rfl (XS.aloadN X0.here hx rfl (hb hby d15_1) rfl rfl k)) ?_
  obtain ⟨cl1, Ar1, q1, Sz1, Ng1, -, -⟩ := id V_b
  have ln1 := len_of Sz1 Ng1
  refine Goes.pre (U' := s₁.setTop (mkF m 3 #[.val (.ref b), .val (.int (0 : Int32))] [(.int (1 : Int32)), (.int (0 : Int32))])) (fun t k => X0.arraylength hx (by rw [e0]; exact Ar1.1) (State.isArrayOf_alike hZ.alike Ar1.2.1) (g := (mkF m 2 #[.val (.ref b), .val (.int (0 : Int32))] [(.ref b), (.int (0 : Int32))])) rfl rfl (hb hby d15_2) _ (by rw [ln1]; exact k)) ?_
  obtain ⟨_, _, ⟨T2, L2, k2, n2⟩, -, X2, ⟨Lc2, hQ2, l2, y2, z2⟩, st2⟩ := Jvm.LawKit.callS X0 hx (y := (⟨"java/lang/String", "checkIndex", "(II)V"⟩ : MethodName)) hown (mvT hZ (wq hw 79 rfl)) (mvT hZ (wq hw 80 rfl)) (mvT hZ (wq hw 10 rfl)) (mvT hZ (wq hw 81 rfl)) (by decide) (backOf (W := 0) (rm_sIdx l Z a0 hw [] (0 : Int32) (1 : Int32) sf h0 n0 Z0 S_SIOOBE_FORMATTER (by decide) (by decide) hsf O) hZ (wq hw 81 rfl) (wq hw 10 rfl) (by decide) (by decide)) (g := (mkF m 3 #[.val (.ref b), .val (.int (0 : Int32))] [(.int (1 : Int32)), (.int (0 : Int32))])) rfl (by rw [hml]; rfl) (argsL := [(.int (0 : Int32)), (.int (1 : Int32))]) (rest := []) (lenOf pd__28II_29V rfl) rfl (by show 2 * 0 + _ ≤ _; exact Nat.le_of_eq rfl) (hb hby d15_3) (fun _ _ => ⟨rfl, e0, (by decide : 0 + 0 ≤ _), (by decide : 0 + 0 ≤ _)⟩)
  dsimp only [Pt.U, Pt.locs, Pt.cells, Pt.slots] at X2 l2 y2 z2 st2 hQ2
  subst l2 y2 z2
  obtain ⟨rfl, N2q, HQ2⟩ := hQ2
  have N2 := Fr.app N0 N2q
  refine Goes.pre (U' := T2.setTop (mkF m 8 #[.val (.ref b), .val (.int (0 : Int32))] [(.int (0 : Int32)), (.ref b)])) (fun t k => st2 t (XS.aloadN X2.here hx rfl (hb hby d15_6) rfl rfl (XS.iloadN X2.here hx rfl (hb hby d15_7) rfl k))) ?_
  obtain ⟨cl3, Ar3, q3, Sz3, Ng3, Hs3, Ft3⟩ := id V_b
  have hin3 := inb_of (j := (0 : Int32)) Sz3 ⟨by decide, by decide⟩
  refine Goes.pre (U' := T2.setTop (mkF m 14 #[.val (.ref b), .val (.int (0 : Int32))] [(.int ((c0.toInt8.toInt32 &&& (255 : Int32)).toUInt32.toUInt16.toUInt32.toInt32))])) (fun t k => X2.baloadBytes hx (j := (0 : Int32)) (v := (.int c0.toInt8.toInt32)) (by rw [HQ2]; exact Ar3.1) (State.isArrayOf_alike hZ.alike Ar3.2.1) Ar3.2.2 hin3 (Has.at Hs3 hin3 rfl) (g := (mkF m 8 #[.val (.ref b), .val (.int (0 : Int32))] [(.int (0 : Int32)), (.ref b)])) rfl rfl (hb hby d15_8) _ (XS.sipush X2.here hx rfl (hb hby d15_9) (XS.iand X2.here hx rfl (hb hby d15_12) rfl (XS.i2c X2.here hx rfl (hb hby d15_13) rfl k)))) ?_
  refine Goes.ret X2 (v := (some (.int c0))) (fun h => by rw [hret] at h; cases h) hlk (by decide) (by decide) HQ2 (fun fs hr => retN X2 hx (t := .char) hret (by simp) (hb hby d15_14) (by rw [show nar .char ((c0.toInt8.toInt32 &&& (255 : Int32)).toUInt32.toUInt16.toUInt32.toInt32) = c0 from own_l1 _ hch hle]; exact hr)) ?_
  exact ⟨rfl, N2, rfl⟩
theorem ef_rm_uIdx10 (m : MethodId) (x0 : Int32) (x1 : Addr) : entryFrame m #[(.int x0), (.ref x1)] 2 = mkF m 0 #[.val (.int x0), .val (.ref x1)] [] := by first | (simp [entryFrame, mkF, argsToLocals, Value.category]; done) | rfl
abbrev M25 : MethodName := ⟨"java/lang/StringUTF16", "checkIndex", "(I[B)V"⟩
theorem d25_0 : decode jdk_52_method_91_code 0 = .ok (.iload_n 0, 1) := by decide +kernel
theorem d25_1 : decode jdk_52_method_91_code 1 = .ok (.aload_n 1, 1) := by decide +kernel
theorem d25_2 : decode jdk_52_method_91_code 2 = .ok (.invokestatic 48, 3) := by decide +kernel
theorem pd__28_5bB_29I : parseMethodDescriptor "([B)I" = some ⟨[(.array .byte)], some .int⟩ := by decide +kernel
theorem d25_5 : decode jdk_52_method_91_code 5 = .ok (.invokestatic 414, 3) := by decide +kernel
theorem d25_8 : decode jdk_52_method_91_code 8 = .ok (.return_, 1) := by decide +kernel
def Q_rm_uIdx10 (Z : State) (b : Addr) (kb : ClassId) (c0 : Int32) (sf : Value) (h0 : Heap) (n0 : Nat) (v : Option Value) (h : Heap) (L : List Loc) : Prop := v = none ∧ Fr n0 L ∧ h = h0
set_option maxRecDepth 65536 in
set_option maxHeartbeats 40000000 in
theorem rm_uIdx10 (l : Launch) (Z : State) (a0 : Array Value) (hw : ∀ d ∈ tables_1, d.before a0 Z = true) (ws : List Jvm.Cond) (b : Addr) (kb : ClassId) (c0 : Int32) (sf : Value) (h0 : Heap) (n0 : Nat) (Z0 : n0 ≤ h0.size) (V_b : Arv Z h0 b kb .byte (2 : Int32) [(.int (c0 >>> ((0 : Int32) &&& 31)).toInt8.toInt32), (.int (c0 >>> ((8 : Int32) &&& 31)).toInt8.toInt32)] (.int (0 : Int32))) (S_SIOOBE_FORMATTER : Sta Z Z.heap "jdk/internal/util/Preconditions" "SIOOBE_FORMATTER" "Ljava/util/function/BiFunction;" sf) (hsf : sf.isRef = true) (O : Old Z n0 h0) :
    Met l Z M25 jdk_52_method_91_code 2 none ws (Rm 2 0 0 27) #[(.int (0 : Int32)), (.ref b)] h0 (Q_rm_uIdx10 Z b kb c0 sf h0 n0) := by
  refine met_of (plainFor_of_name pn_java_lang_StringUTF16) (own := "java/lang/StringUTF16") rfl (fun m => ef_rm_uIdx10 m (0 : Int32) b) ?_
  intro p e s m below meth c s₁ hx hby hml hown hnm hZ X0 e0 hret hlk
  have N0 := Fr.nil n0
  show Goes p e below s _ _ _ (s₁.setTop (mkF m 0 #[.val (.int (0 : Int32)), .val (.ref b)] []))
  refine Goes.pre (U' := s₁.setTop (mkF m 2 #[.val (.int (0 : Int32)), .val (.ref b)] [(.ref b), (.int (0 : Int32))])) (fun t k => XS.iloadN X0.here hx rfl (hb hby d25_0) rfl (XS.aloadN X0.here hx rfl (hb hby d25_1) rfl rfl k)) ?_
  obtain ⟨_, _, ⟨T1, L1, k1, n1⟩, -, X1, ⟨Lc1, hQ1, l1, y1, z1⟩, st1⟩ := Jvm.LawKit.callS X0 hx (y := (⟨"java/lang/StringUTF16", "length", "([B)I"⟩ : MethodName)) hown (mvT hZ (wq hw 115 rfl)) (mvT hZ (wq hw 116 rfl)) (mvT hZ (wq hw 51 rfl)) (mvT hZ (wq hw 117 rfl)) (by decide) (backOf (W := 1) (rm_ulen1 l Z a0 hw [] b kb c0 h0 n0 Z0 V_b) hZ (wq hw 117 rfl) (wq hw 51 rfl) (by decide) (by decide)) (g := (mkF m 2 #[.val (.int (0 : Int32)), .val (.ref b)] [(.ref b), (.int (0 : Int32))])) rfl (by rw [hml]; rfl) (argsL := [(.ref b)]) (rest := [(.int (0 : Int32))]) (lenOf pd__28_5bB_29I rfl) rfl (by show 2 * 0 + _ ≤ _; exact Nat.le_of_eq rfl) (hb hby d25_2) (fun _ _ => ⟨rfl, e0, (by decide : 0 + 0 ≤ _), (by decide : 0 + 0 ≤ _)⟩)
  dsimp only [Pt.U, Pt.locs, Pt.cells, Pt.slots] at X1 l1 y1 z1 st1 hQ1
  subst l1 y1 z1
  obtain ⟨rfl, N1q, HQ1⟩ := hQ1
  have N1 := Fr.app N0 N1q
  refine Goes.pre (U' := T1.setTop (mkF m 5 #[.val (.int (0 : Int32)), .val (.ref b)] [(.int (1 : Int32)), (.int (0 : Int32))])) (fun t k => st1 t k) ?_
  obtain ⟨_, _, ⟨T2, L2, k2, n2⟩, -, X2, ⟨Lc2, hQ2, l2, y2, z2⟩, st2⟩ := Jvm.LawKit.callS X1 hx (y := (⟨"java/lang/String", "checkIndex", "(II)V"⟩ : MethodName)) hown (mvT hZ (wq hw 118 rfl)) (mvT hZ (wq hw 80 rfl)) (mvT hZ (wq hw 10 rfl)) (mvT hZ (wq hw 81 rfl)) (by decide) (backOf (W := 0) (rm_sIdx l Z a0 hw [] (0 : Int32) (1 : Int32) sf h0 n0 Z0 S_SIOOBE_FORMATTER (by decide) (by decide) hsf O) hZ (wq hw 81 rfl) (wq hw 10 rfl) (by decide) (by decide)) (g := (mkF m 5 #[.val (.int (0 : Int32)), .val (.ref b)] [(.int (1 : Int32)), (.int (0 : Int32))])) rfl (by rw [hml]; rfl) (argsL := [(.int (0 : Int32)), (.int (1 : Int32))]) (rest := []) (lenOf pd__28II_29V rfl) rfl (by show 2 * 0 + _ ≤ _; exact Nat.le_of_eq rfl) (hb hby d25_5) (fun _ _ => ⟨rfl, HQ1, (by decide : 0 + 0 ≤ _), (by decide : 0 + 0 ≤ _)⟩)
  dsimp only [Pt.U, Pt.locs, Pt.cells, Pt.slots] at X2 l2 y2 z2 st2 hQ2
  subst l2 y2 z2
  obtain ⟨rfl, N2q, HQ2⟩ := hQ2
  have N2 := Fr.app N1 N2q
  refine Goes.pre (U' := T2.setTop (mkF m 8 #[.val (.int (0 : Int32)), .val (.ref b)] [])) (fun t k => st2 t k) ?_
  refine Goes.ret X2 (v := none) (fun _ => rfl) hlk (by decide) (by decide) HQ2 (fun fs hr => X2.returnOut hx hret (hb hby d25_8) hr) ?_
  exact ⟨rfl, N2, rfl⟩
theorem ef_rm_getCh10 (m : MethodId) (x0 : Addr) (x1 : Int32) : entryFrame m #[(.ref x0), (.int x1)] 2 = mkF m 0 #[.val (.ref x0), .val (.int x1)] [] := by first | (simp [entryFrame, mkF, argsToLocals, Value.category]; done) | rfl
abbrev M23 : MethodName := ⟨"java/lang/StringUTF16", "getChar", "([BI)C"⟩
theorem d23_0 : decode jdk_52_method_5_code 0 = .ok (.getstatic 44, 3) := by decide +kernel
theorem d23_3 : decode jdk_52_method_5_code 3 = .ok (.ifCond .ne 25, 3) := by decide +kernel
theorem d23_28 : decode jdk_52_method_5_code 28 = .ok (.iload_n 1, 1) := by decide +kernel
theorem d23_29 : decode jdk_52_method_5_code 29 = .ok (.iconst 1, 1) := by decide +kernel
theorem d23_30 : decode jdk_52_method_5_code 30 = .ok (.ishl, 1) := by decide +kernel
theorem d23_31 : decode jdk_52_method_5_code 31 = .ok (.istore_n 1, 1) := by decide +kernel
theorem d23_32 : decode jdk_52_method_5_code 32 = .ok (.aload_n 0, 1) := by decide +kernel
theorem d23_33 : decode jdk_52_method_5_code 33 = .ok (.iload_n 1, 1) := by decide +kernel
theorem d23_34 : decode jdk_52_method_5_code 34 = .ok (.iinc 1 1, 3) := by decide +kernel
theorem d23_37 : decode jdk_52_method_5_code 37 = .ok (.baload, 1) := by decide +kernel
theorem d23_38 : decode jdk_52_method_5_code 38 = .ok (.sipush 255, 3) := by decide +kernel
theorem d23_41 : decode jdk_52_method_5_code 41 = .ok (.iand, 1) := by decide +kernel
theorem d23_42 : decode jdk_52_method_5_code 42 = .ok (.getstatic 59, 3) := by decide +kernel
theorem d23_45 : decode jdk_52_method_5_code 45 = .ok (.ishl, 1) := by decide +kernel
theorem d23_46 : decode jdk_52_method_5_code 46 = .ok (.aload_n 0, 1) := by decide +kernel
theorem d23_47 : decode jdk_52_method_5_code 47 = .ok (.iload_n 1, 1) := by decide +kernel
theorem d23_48 : decode jdk_52_method_5_code 48 = .ok (.baload, 1) := by decide +kernel
theorem d23_49 : decode jdk_52_method_5_code 49 = .ok (.sipush 255, 3) := by decide +kernel
theorem d23_52 : decode jdk_52_method_5_code 52 = .ok (.iand, 1) := by decide +kernel
theorem d23_53 : decode jdk_52_method_5_code 53 = .ok (.getstatic 63, 3) := by decide +kernel
theorem d23_56 : decode jdk_52_method_5_code 56 = .ok (.ishl, 1) := by decide +kernel
theorem d23_57 : decode jdk_52_method_5_code 57 = .ok (.ior, 1) := by decide +kernel
theorem d23_58 : decode jdk_52_method_5_code 58 = .ok (.i2c, 1) := by decide +kernel
theorem d23_59 : decode jdk_52_method_5_code 59 = .ok (.ireturn, 1) := by decide +kernel
def Q_rm_getCh10 (Z : State) (b : Addr) (kb : ClassId) (c0 : Int32) (h0 : Heap) (n0 : Nat) (v : Option Value) (h : Heap) (L : List Loc) : Prop := v = some (.int c0) ∧ Fr n0 L ∧ h = h0
set_option maxRecDepth 65536 in
set_option maxHeartbeats 40000000 in
theorem rm_getCh10 (l : Launch) (Z : State) (a0 : Array Value) (hw : ∀ d ∈ tables_1, d.before a0 Z = true) (ws : List Jvm.Cond) (b : Addr) (kb : ClassId) (c0 : Int32) (h0 : Heap) (n0 : Nat) (Z0 : n0 ≤ h0.size) (V_b : Arv Z h0 b kb .byte (2 : Int32) [(.int (c0 >>> ((0 : Int32) &&& 31)).toInt8.toInt32), (.int (c0 >>> ((8 : Int32) &&& 31)).toInt8.toInt32)] (.int (0 : Int32))) (S__assertionsDisabled : Sta Z Z.heap "java/lang/StringUTF16" "$assertionsDisabled" "Z" (.int (1 : Int32))) (S_HI_BYTE_SHIFT : Sta Z Z.heap "java/lang/StringUTF16" "HI_BYTE_SHIFT" "I" (.int (0 : Int32))) (S_LO_BYTE_SHIFT : Sta Z Z.heap "java/lang/StringUTF16" "LO_BYTE_SHIFT" "I" (.int (8 : Int32))) (hch : OwnCh c0) (O : Old Z n0 h0) :
    Met l Z M23 jdk_52_method_5_code 2 (some .char) ws (Rm 0 0 0 0) #[(.ref b), (.int (0 : Int32))] h0 (Q_rm_getCh10 Z b kb c0 h0 n0) := by
  refine met_of (plainFor_of_name pn_java_lang_StringUTF16) (own := "java/lang/StringUTF16") rfl (fun m => ef_rm_getCh10 m b (0 : Int32)) ?_
  intro p e s m below meth c s₁ hx hby hml hown hnm hZ X0 e0 hret hlk
  have N0 := Fr.nil n0
  show Goes p e below s _ _ _ (s₁.setTop (mkF m 0 #[.val (.ref b), .val (.int (0 : Int32))] []))
  obtain ⟨T1, X1, e1, st1⟩ := getS2 X0 hx hZ hown (host := "") (Or.inl (wq hw 103 rfl)) Via.refl e0 (S__assertionsDisabled.ext O.2) (g := (mkF m 0 #[.val (.ref b), .val (.int (0 : Int32))] [])) rfl (hb hby d23_0)
  refine Goes.pre (U' := T1.setTop (mkF m 3 #[.val (.ref b), .val (.int (0 : Int32))] [(.int (1 : Int32))])) (fun t k => st1 t k) ?_
  have hc3 : ¬ ((1 : Int32) = (0 : Int32)) := by decide
  refine Goes.pre (U' := T1.setTop (mkF m 31 #[.val (.ref b), .val (.int (0 : Int32))] [(.int ((0 : Int32) <<< ((1 : Int32) &&& 31)))])) (fun t k => XS.ifYes X1.here hx rfl (pc0 := 3) (pc' := 28) rfl (hb hby d23_3) rfl ((if0 _ _).trans (feq hc3).2) (by decide) (by decide) (XS.iloadN X1.here hx rfl (hb hby d23_28) rfl (XS.iconst X1.here hx rfl (hb hby d23_29) (XS.ishl X1.here hx rfl (hb hby d23_30) rfl k)))) ?_
  rw [(by decide : ((0 : Int32) <<< ((1 : Int32) &&& 31)) = (0 : Int32))]
  refine Goes.pre (U' := T1.setTop (mkF m 37 #[.val (.ref b), .val (.int ((0 : Int32) + (1 : Int32)))] [(.int (0 : Int32)), (.ref b)])) (fun t k => XS.istoreN X1.here hx rfl (hb hby d23_31) rfl (l' := #[.val (.ref b), .val (.int (0 : Int32))]) rfl (XS.aloadN X1.here hx rfl (hb hby d23_32) rfl rfl (XS.iloadN X1.here hx rfl (hb hby d23_33) rfl (XT.iincV X1.here hx rfl (1 : Int32) (hb hby d23_34) (by decide) rfl (l' := #[.val (.ref b), .val (.int ((0 : Int32) + (1 : Int32)))]) rfl k)))) ?_
  rw [(by decide : ((0 : Int32) + (1 : Int32)) = (1 : Int32))]
  obtain ⟨cl2, Ar2, q2, Sz2, Ng2, Hs2, Ft2⟩ := id V_b
  have hin2 := inb_of (j := (0 : Int32)) Sz2 ⟨by decide, by decide⟩
  refine Goes.pre (U' := T1.setTop (mkF m 42 #[.val (.ref b), .val (.int (1 : Int32))] [(.int ((c0 >>> ((0 : Int32) &&& 31)).toInt8.toInt32 &&& (255 : Int32)))])) (fun t k => X1.baloadBytes hx (j := (0 : Int32)) (v := (.int (c0 >>> ((0 : Int32) &&& 31)).toInt8.toInt32)) (by rw [e1]; exact Ar2.1) (State.isArrayOf_alike hZ.alike Ar2.2.1) Ar2.2.2 hin2 (Has.at Hs2 hin2 rfl) (g := (mkF m 37 #[.val (.ref b), .val (.int (1 : Int32))] [(.int (0 : Int32)), (.ref b)])) rfl rfl (hb hby d23_37) _ (XS.sipush X1.here hx rfl (hb hby d23_38) (XS.iand X1.here hx rfl (hb hby d23_41) rfl k))) ?_
  obtain ⟨T3, X3, e3, st3⟩ := getS2 X1 hx hZ hown (host := "") (Or.inl (wq hw 104 rfl)) Via.refl e1 (S_HI_BYTE_SHIFT.ext O.2) (g := (mkF m 42 #[.val (.ref b), .val (.int (1 : Int32))] [(.int ((c0 >>> ((0 : Int32) &&& 31)).toInt8.toInt32 &&& (255 : Int32)))])) rfl (hb hby d23_42)
  refine Goes.pre (U' := T3.setTop (mkF m 48 #[.val (.ref b), .val (.int (1 : Int32))] [(.int (1 : Int32)), (.ref b), (.int (((c0 >>> ((0 : Int32) &&& 31)).toInt8.toInt32 &&& (255 : Int32)) <<< ((0 : Int32) &&& 31)))])) (fun t k => st3 t (XS.ishl X3.here hx rfl (hb hby d23_45) rfl (XS.aloadN X3.here hx rfl (hb hby d23_46) rfl rfl (XS.iloadN X3.here hx rfl (hb hby d23_47) rfl k)))) ?_
  obtain ⟨cl4, Ar4, q4, Sz4, Ng4, Hs4, Ft4⟩ := id V_b
  have hin4 := inb_of (j := (1 : Int32)) Sz4 ⟨by decide, by decide⟩
  refine Goes.pre (U' := T3.setTop (mkF m 53 #[.val (.ref b), .val (.int (1 : Int32))] [(.int ((c0 >>> ((8 : Int32) &&& 31)).toInt8.toInt32 &&& (255 : Int32))), (.int (((c0 >>> ((0 : Int32) &&& 31)).toInt8.toInt32 &&& (255 : Int32)) <<< ((0 : Int32) &&& 31)))])) (fun t k => X3.baloadBytes hx (j := (1 : Int32)) (v := (.int (c0 >>> ((8 : Int32) &&& 31)).toInt8.toInt32)) (by rw [e3]; exact Ar4.1) (State.isArrayOf_alike hZ.alike Ar4.2.1) Ar4.2.2 hin4 (Has.at Hs4 hin4 rfl) (g := (mkF m 48 #[.val (.ref b), .val (.int (1 : Int32))] [(.int (1 : Int32)), (.ref b), (.int (((c0 >>> ((0 : Int32) &&& 31)).toInt8.toInt32 &&& (255 : Int32)) <<< ((0 : Int32) &&& 31)))])) rfl rfl (hb hby d23_48) _ (XS.sipush X3.here hx rfl (hb hby d23_49) (XS.iand X3.here hx rfl (hb hby d23_52) rfl k))) ?_
  obtain ⟨T5, X5, e5, st5⟩ := getS2 X3 hx hZ hown (host := "") (Or.inl (wq hw 105 rfl)) Via.refl e3 (S_LO_BYTE_SHIFT.ext O.2) (g := (mkF m 53 #[.val (.ref b), .val (.int (1 : Int32))] [(.int ((c0 >>> ((8 : Int32) &&& 31)).toInt8.toInt32 &&& (255 : Int32))), (.int (((c0 >>> ((0 : Int32) &&& 31)).toInt8.toInt32 &&& (255 : Int32)) <<< ((0 : Int32) &&& 31)))])) rfl (hb hby d23_53)
  refine Goes.pre (U' := T5.setTop (mkF m 59 #[.val (.ref b), .val (.int (1 : Int32))] [(.int (((((c0 >>> ((0 : Int32) &&& 31)).toInt8.toInt32 &&& (255 : Int32)) <<< ((0 : Int32) &&& 31)) ||| (((c0 >>> ((8 : Int32) &&& 31)).toInt8.toInt32 &&& (255 : Int32)) <<< ((8 : Int32) &&& 31))).toUInt32.toUInt16.toUInt32.toInt32))])) (fun t k => st5 t (XS.ishl X5.here hx rfl (hb hby d23_56) rfl (XS.ior X5.here hx rfl (hb hby d23_57) rfl (XS.i2c X5.here hx rfl (hb hby d23_58) rfl k)))) ?_
  refine Goes.ret X5 (v := (some (.int c0))) (fun h => by rw [hret] at h; cases h) hlk (by decide) (by decide) e5 (fun fs hr => retN X5 hx (t := .char) hret (by simp) (hb hby d23_59) (by rw [show nar .char (((((c0 >>> ((0 : Int32) &&& 31)).toInt8.toInt32 &&& (255 : Int32)) <<< ((0 : Int32) &&& 31)) ||| (((c0 >>> ((8 : Int32) &&& 31)).toInt8.toInt32 &&& (255 : Int32)) <<< ((8 : Int32) &&& 31))).toUInt32.toUInt16.toUInt32.toInt32) = c0 from own_u16 _ hch]; exact hr)) ?_
  exact ⟨rfl, N0, rfl⟩
theorem ef_rm_uch10 (m : MethodId) (x0 : Addr) (x1 : Int32) : entryFrame m #[(.ref x0), (.int x1)] 2 = mkF m 0 #[.val (.ref x0), .val (.int x1)] [] := by first | (simp [entryFrame, mkF, argsToLocals, Value.category]; done) | rfl
abbrev M24 : MethodName := ⟨"java/lang/StringUTF16", "charAt", "([BI)C"⟩
theorem d24_0 : decode jdk_52_method_83_code 0 = .ok (.iload_n 1, 1) := by decide +kernel
theorem d24_1 : decode jdk_52_method_83_code 1 = .ok (.aload_n 0, 1) := by decide +kernel
theorem d24_2 : decode jdk_52_method_83_code 2 = .ok (.invokestatic 67, 3) := by decide +kernel
theorem pd__28I_5bB_29V : parseMethodDescriptor "(I[B)V" = some ⟨[.int, (.array .byte)], none⟩ := by decide +kernel
theorem d24_5 : decode jdk_52_method_83_code 5 = .ok (.aload_n 0, 1) := by decide +kernel
theorem d24_6 : decode jdk_52_method_83_code 6 = .ok (.iload_n 1, 1) := by decide +kernel
theorem d24_7 : decode jdk_52_method_83_code 7 = .ok (.invokestatic 71, 3) := by decide +kernel
theorem pd__28_5bBI_29C : parseMethodDescriptor "([BI)C" = some ⟨[(.array .byte), .int], some .char⟩ := by decide +kernel
theorem d24_10 : decode jdk_52_method_83_code 10 = .ok (.ireturn, 1) := by decide +kernel
def Q_rm_uch10 (Z : State) (b : Addr) (kb : ClassId) (c0 : Int32) (sf : Value) (h0 : Heap) (n0 : Nat) (v : Option Value) (h : Heap) (L : List Loc) : Prop := v = some (.int c0) ∧ Fr n0 L ∧ h = h0
set_option maxRecDepth 65536 in
set_option maxHeartbeats 40000000 in
theorem rm_uch10 (l : Launch) (Z : State) (a0 : Array Value) (hw : ∀ d ∈ tables_1, d.before a0 Z = true) (ws : List Jvm.Cond) (b : Addr) (kb : ClassId) (c0 : Int32) (sf : Value) (h0 : Heap) (n0 : Nat) (Z0 : n0 ≤ h0.size) (V_b : Arv Z h0 b kb .byte (2 : Int32) [(.int (c0 >>> ((0 : Int32) &&& 31)).toInt8.toInt32), (.int (c0 >>> ((8 : Int32) &&& 31)).toInt8.toInt32)] (.int (0 : Int32))) (S__assertionsDisabled : Sta Z Z.heap "java/lang/StringUTF16" "$assertionsDisabled" "Z" (.int (1 : Int32))) (S_HI_BYTE_SHIFT : Sta Z Z.heap "java/lang/StringUTF16" "HI_BYTE_SHIFT" "I" (.int (0 : Int32))) (S_LO_BYTE_SHIFT : Sta Z Z.heap "java/lang/StringUTF16" "LO_BYTE_SHIFT" "I" (.int (8 : Int32))) (S_SIOOBE_FORMATTER : Sta Z Z.heap "jdk/internal/util/Preconditions" "SIOOBE_FORMATTER" "Ljava/util/function/BiFunction;" sf) (hch0 : OwnCh c0) (hsf : sf.isRef = true) (O : Old Z n0 h0) :
    Met l Z M24 jdk_52_method_83_code 2 (some .char) ws (Rm 3 0 0 40) #[(.ref b), (.int (0 : Int32))] h0 (Q_rm_uch10 Z b kb c0 sf h0 n0) := by
  refine met_of (plainFor_of_name pn_java_lang_StringUTF16) (own := "java/lang/StringUTF16") rfl (fun m => ef_rm_uch10 m b (0 : Int32)) ?_
  intro p e s m below meth c s₁ hx hby hml hown hnm hZ X0 e0 hret hlk
  have N0 := Fr.nil n0
  show Goes p e below s _ _ _ (s₁.setTop (mkF m 0 #[.val (.ref b), .val (.int (0 : Int32))] []))
  refine Goes.pre (U' := s₁.setTop (mkF m 2 #[.val (.ref b), .val (.int (0 : Int32))] [(.ref b), (.int (0 : Int32))])) (fun t k => XS.iloadN X0.here hx rfl (hb hby d24_0) rfl (XS.aloadN X0.here hx rfl (hb hby d24_1) rfl rfl k)) ?_
  obtain ⟨_, _, ⟨T1, L1, k1, n1⟩, -, X1, ⟨Lc1, hQ1, l1, y1, z1⟩, st1⟩ := Jvm.LawKit.callS X0 hx (y := (⟨"java/lang/StringUTF16", "checkIndex", "(I[B)V"⟩ : MethodName)) hown (mvT hZ (wq hw 112 rfl)) (mvT hZ (wq hw 113 rfl)) (mvT hZ (wq hw 51 rfl)) (mvT hZ (wq hw 114 rfl)) (by decide) (backOf (W := 0) (rm_uIdx10 l Z a0 hw [] b kb c0 sf h0 n0 Z0 V_b S_SIOOBE_FORMATTER hsf O) hZ (wq hw 114 rfl) (wq hw 51 rfl) (by decide) (by decide)) (g := (mkF m 2 #[.val (.ref b), .val (.int (0 : Int32))] [(.ref b), (.int (0 : Int32))])) rfl (by rw [hml]; rfl) (argsL := [(.int (0 : Int32)), (.ref b)]) (rest := []) (lenOf pd__28I_5bB_29V rfl) rfl (by show 2 * 0 + _ ≤ _; exact Nat.le_of_eq rfl) (hb hby d24_2) (fun _ _ => ⟨rfl, e0, (by decide : 0 + 0 ≤ _), (by decide : 0 + 0 ≤ _)⟩)
  dsimp only [Pt.U, Pt.locs, Pt.cells, Pt.slots] at X1 l1 y1 z1 st1 hQ1
  subst l1 y1 z1
  obtain ⟨rfl, N1q, HQ1⟩ := hQ1
  have N1 := Fr.app N0 N1q
  refine Goes.pre (U' := T1.setTop (mkF m 7 #[.val (.ref b), .val (.int (0 : Int32))] [(.int (0 : Int32)), (.ref b)])) (fun t k => st1 t (XS.aloadN X1.here hx rfl (hb hby d24_5) rfl rfl (XS.iloadN X1.here hx rfl (hb hby d24_6) rfl k))) ?_
  obtain ⟨_, _, ⟨T2, L2, k2, n2⟩, -, X2, ⟨Lc2, hQ2, l2, y2, z2⟩, st2⟩ := Jvm.LawKit.callS X1 hx (y := (⟨"java/lang/StringUTF16", "getChar", "([BI)C"⟩ : MethodName)) hown (mvT hZ (wq hw 106 rfl)) (mvT hZ (wq hw 107 rfl)) (mvT hZ (wq hw 51 rfl)) (mvT hZ (wq hw 108 rfl)) (by decide) (backOf (W := 0) (rm_getCh10 l Z a0 hw [] b kb c0 h0 n0 Z0 V_b S__assertionsDisabled S_HI_BYTE_SHIFT S_LO_BYTE_SHIFT hch0 O) hZ (wq hw 108 rfl) (wq hw 51 rfl) (by decide) (by decide)) (g := (mkF m 7 #[.val (.ref b), .val (.int (0 : Int32))] [(.int (0 : Int32)), (.ref b)])) rfl (by rw [hml]; rfl) (argsL := [(.ref b), (.int (0 : Int32))]) (rest := []) (lenOf pd__28_5bBI_29C rfl) rfl (by show 2 * 0 + _ ≤ _; exact Nat.le_of_eq rfl) (hb hby d24_7) (fun _ _ => ⟨rfl, HQ1, (by decide : 0 + 0 ≤ _), (by decide : 0 + 0 ≤ _)⟩)
  dsimp only [Pt.U, Pt.locs, Pt.cells, Pt.slots] at X2 l2 y2 z2 st2 hQ2
  subst l2 y2 z2
  obtain ⟨rfl, N2q, HQ2⟩ := hQ2
  have N2 := Fr.app N1 N2q
  refine Goes.pre (U' := T2.setTop (mkF m 10 #[.val (.ref b), .val (.int (0 : Int32))] [(.int c0)])) (fun t k => st2 t k) ?_
  refine Goes.ret X2 (v := (some (.int c0))) (fun h => by rw [hret] at h; cases h) hlk (by decide) (by decide) HQ2 (fun fs hr => retN X2 hx (t := .char) hret (by simp) (hb hby d24_10) (by rw [show nar .char c0 = c0 from own_nch _ hch0]; exact hr)) ?_
  exact ⟨rfl, N2, rfl⟩
theorem ef_rm_ulen2 (m : MethodId) (x0 : Addr) : entryFrame m #[(.ref x0)] 1 = mkF m 0 #[.val (.ref x0)] [] := by first | (simp [entryFrame, mkF, argsToLocals, Value.category]; done) | rfl
def Q_rm_ulen2 (Z : State) (b : Addr) (kb : ClassId) (c0 : Int32) (c1 : Int32) (h0 : Heap) (n0 : Nat) (v : Option Value) (h : Heap) (L : List Loc) : Prop := v = some (.int (2 : Int32)) ∧ Fr n0 L ∧ h = h0
set_option maxRecDepth 65536 in
set_option maxHeartbeats 40000000 in
theorem rm_ulen2 (l : Launch) (Z : State) (a0 : Array Value) (hw : ∀ d ∈ tables_1, d.before a0 Z = true) (ws : List Jvm.Cond) (b : Addr) (kb : ClassId) (c0 : Int32) (c1 : Int32) (h0 : Heap) (n0 : Nat) (Z0 : n0 ≤ h0.size) (V_b : Arv Z h0 b kb .byte (4 : Int32) [(.int (c0 >>> ((0 : Int32) &&& 31)).toInt8.toInt32), (.int (c0 >>> ((8 : Int32) &&& 31)).toInt8.toInt32), (.int (c1 >>> ((0 : Int32) &&& 31)).toInt8.toInt32), (.int (c1 >>> ((8 : Int32) &&& 31)).toInt8.toInt32)] (.int (0 : Int32))) :
    Met l Z M26 jdk_52_method_6_code 1 (some .int) ws (Rm 0 0 0 0) #[(.ref b)] h0 (Q_rm_ulen2 Z b kb c0 c1 h0 n0) := by
  refine met_of (plainFor_of_name pn_java_lang_StringUTF16) (own := "java/lang/StringUTF16") rfl (fun m => ef_rm_ulen2 m b) ?_
  intro p e s m below meth c s₁ hx hby hml hown hnm hZ X0 e0 hret hlk
  have N0 := Fr.nil n0
  show Goes p e below s _ _ _ (s₁.setTop (mkF m 0 #[.val (.ref b)] []))
  refine Goes.pre (U' := s₁.setTop (mkF m 1 #[.val (.ref b)] [(.ref b)])) (fun t k => XS.aloadN X0.here hx rfl (hb hby d26_0) rfl rfl k) ?_
  obtain ⟨cl1, Ar1, q1, Sz1, Ng1, -, -⟩ := id V_b
  have ln1 := len_of Sz1 Ng1
  refine Goes.pre (U' := s₁.setTop (mkF m 4 #[.val (.ref b)] [(.int ((4 : Int32) >>> ((1 : Int32) &&& 31)))])) (fun t k => X0.arraylength hx (by rw [e0]; exact Ar1.1) (State.isArrayOf_alike hZ.alike Ar1.2.1) (g := (mkF m 1 #[.val (.ref b)] [(.ref b)])) rfl rfl (hb hby d26_1) _ (by rw [ln1]; exact (XS.iconst X0.here hx rfl (hb hby d26_2) (XS.ishr X0.here hx rfl (hb hby d26_3) rfl k)))) ?_
  rw [(by decide : ((4 : Int32) >>> ((1 : Int32) &&& 31)) = (2 : Int32))]
  refine Goes.ret X0 (v := (some (.int (2 : Int32)))) (fun h => by rw [hret] at h; cases h) hlk (by decide) (by decide) e0 (fun fs hr => retI X0 hx hret (hb hby d26_4) hr) ?_
  exact ⟨rfl, N0, rfl⟩
theorem ef_rm_l1ch20 (m : MethodId) (x0 : Addr) (x1 : Int32) : entryFrame m #[(.ref x0), (.int x1)] 2 = mkF m 0 #[.val (.ref x0), .val (.int x1)] [] := by first | (simp [entryFrame, mkF, argsToLocals, Value.category]; done) | rfl
def Q_rm_l1ch20 (Z : State) (b : Addr) (kb : ClassId) (c0 : Int32) (c1 : Int32) (sf : Value) (h0 : Heap) (n0 : Nat) (v : Option Value) (h : Heap) (L : List Loc) : Prop := v = some (.int c0) ∧ Fr n0 L ∧ h = h0
set_option maxRecDepth 65536 in
set_option maxHeartbeats 40000000 in
theorem rm_l1ch20 (l : Launch) (Z : State) (a0 : Array Value) (hw : ∀ d ∈ tables_1, d.before a0 Z = true) (ws : List Jvm.Cond) (b : Addr) (kb : ClassId) (c0 : Int32) (c1 : Int32) (sf : Value) (h0 : Heap) (n0 : Nat) (Z0 : n0 ≤ h0.size) (V_b : Arv Z h0 b kb .byte (2 : Int32) [(.int c0.toInt8.toInt32), (.int c1.toInt8.toInt32)] (.int (0 : Int32))) (S_SIOOBE_FORMATTER : Sta Z Z.heap "jdk/internal/util/Preconditions" "SIOOBE_FORMATTER" "Ljava/util/function/BiFunction;" sf) (hch : OwnCh c0) (hle : ¬ ((255 : Int32) < c0)) (hsf : sf.isRef = true) (O : Old Z n0 h0) :
    Met l Z M15 jdk_43_method_2_code 2 (some .char) ws (Rm 2 0 0 27) #[(.ref b), (.int (0 : Int32))] h0 (Q_rm_l1ch20 Z b kb c0 c1 sf h0 n0) := by
  refine met_of (plainFor_of_name pn_java_lang_StringLatin1) (own := "java/lang/StringLatin1") rfl (fun m => ef_rm_l1ch20 m b (0 : Int32)) ?_
  intro p e s m below meth c s₁ hx hby hml hown hnm hZ X0 e0 hret hlk
  have N0 := Fr.nil n0
  show Goes p e below s _ _ _ (s₁.setTop (mkF m 0 #[.val (.ref b), .val (.int (0 : Int32))] []))
  refine Goes.pre (U' := s₁.setTop (mkF m 2 #[.val (.ref b), .val (.int (0 : Int32))] [(.ref b), (.int (0 : Int32))])) (fun t k => XS.iloadN X0.here hx rfl (hb hby d15_0) rfl (XS.aloadN X0.here hx rfl (hb hby d15_1) rfl rfl k)) ?_
  obtain ⟨cl1, Ar1, q1, Sz1, Ng1, -, -⟩ := id V_b
  have ln1 := len_of Sz1 Ng1
  refine Goes.pre (U' := s₁.setTop (mkF m 3 #[.val (.ref b), .val (.int (0 : Int32))] [(.int (2 : Int32)), (.int (0 : Int32))])) (fun t k => X0.arraylength hx (by rw [e0]; exact Ar1.1) (State.isArrayOf_alike hZ.alike Ar1.2.1) (g := (mkF m 2 #[.val (.ref b), .val (.int (0 : Int32))] [(.ref b), (.int (0 : Int32))])) rfl rfl (hb hby d15_2) _ (by rw [ln1]; exact k)) ?_
  obtain ⟨_, _, ⟨T2, L2, k2, n2⟩, -, X2, ⟨Lc2, hQ2, l2, y2, z2⟩, st2⟩ := Jvm.LawKit.callS X0 hx (y := (⟨"java/lang/String", "checkIndex", "(II)V"⟩ : MethodName)) hown (mvT hZ (wq hw 79 rfl)) (mvT hZ (wq hw 80 rfl)) (mvT hZ (wq hw 10 rfl)) (mvT hZ (wq hw 81 rfl)) (by decide) (backOf (W := 0) (rm_sIdx l Z a0 hw [] (0 : Int32) (2 : Int32) sf h0 n0 Z0 S_SIOOBE_FORMATTER (by decide) (by decide) hsf O) hZ (wq hw 81 rfl) (wq hw 10 rfl) (by decide) (by decide)) (g := (mkF m 3 #[.val (.ref b), .val (.int (0 : Int32))] [(.int (2 : Int32)), (.int (0 : Int32))])) rfl (by rw [hml]; rfl) (argsL := [(.int (0 : Int32)), (.int (2 : Int32))]) (rest := []) (lenOf pd__28II_29V rfl) rfl (by show 2 * 0 + _ ≤ _; exact Nat.le_of_eq rfl) (hb hby d15_3) (fun _ _ => ⟨rfl, e0, (by decide : 0 + 0 ≤ _), (by decide : 0 + 0 ≤ _)⟩)
  dsimp only [Pt.U, Pt.locs, Pt.cells, Pt.slots] at X2 l2 y2 z2 st2 hQ2
  subst l2 y2 z2
  obtain ⟨rfl, N2q, HQ2⟩ := hQ2
  have N2 := Fr.app N0 N2q
  refine Goes.pre (U' := T2.setTop (mkF m 8 #[.val (.ref b), .val (.int (0 : Int32))] [(.int (0 : Int32)), (.ref b)])) (fun t k => st2 t (XS.aloadN X2.here hx rfl (hb hby d15_6) rfl rfl (XS.iloadN X2.here hx rfl (hb hby d15_7) rfl k))) ?_
  obtain ⟨cl3, Ar3, q3, Sz3, Ng3, Hs3, Ft3⟩ := id V_b
  have hin3 := inb_of (j := (0 : Int32)) Sz3 ⟨by decide, by decide⟩
  refine Goes.pre (U' := T2.setTop (mkF m 14 #[.val (.ref b), .val (.int (0 : Int32))] [(.int ((c0.toInt8.toInt32 &&& (255 : Int32)).toUInt32.toUInt16.toUInt32.toInt32))])) (fun t k => X2.baloadBytes hx (j := (0 : Int32)) (v := (.int c0.toInt8.toInt32)) (by rw [HQ2]; exact Ar3.1) (State.isArrayOf_alike hZ.alike Ar3.2.1) Ar3.2.2 hin3 (Has.at Hs3 hin3 rfl) (g := (mkF m 8 #[.val (.ref b), .val (.int (0 : Int32))] [(.int (0 : Int32)), (.ref b)])) rfl rfl (hb hby d15_8) _ (XS.sipush X2.here hx rfl (hb hby d15_9) (XS.iand X2.here hx rfl (hb hby d15_12) rfl (XS.i2c X2.here hx rfl (hb hby d15_13) rfl k)))) ?_
  refine Goes.ret X2 (v := (some (.int c0))) (fun h => by rw [hret] at h; cases h) hlk (by decide) (by decide) HQ2 (fun fs hr => retN X2 hx (t := .char) hret (by simp) (hb hby d15_14) (by rw [show nar .char ((c0.toInt8.toInt32 &&& (255 : Int32)).toUInt32.toUInt16.toUInt32.toInt32) = c0 from own_l1 _ hch hle]; exact hr)) ?_
  exact ⟨rfl, N2, rfl⟩
theorem ef_rm_uIdx20 (m : MethodId) (x0 : Int32) (x1 : Addr) : entryFrame m #[(.int x0), (.ref x1)] 2 = mkF m 0 #[.val (.int x0), .val (.ref x1)] [] := by first | (simp [entryFrame, mkF, argsToLocals, Value.category]; done) | rfl
def Q_rm_uIdx20 (Z : State) (b : Addr) (kb : ClassId) (c0 : Int32) (c1 : Int32) (sf : Value) (h0 : Heap) (n0 : Nat) (v : Option Value) (h : Heap) (L : List Loc) : Prop := v = none ∧ Fr n0 L ∧ h = h0
set_option maxRecDepth 65536 in
set_option maxHeartbeats 40000000 in
theorem rm_uIdx20 (l : Launch) (Z : State) (a0 : Array Value) (hw : ∀ d ∈ tables_1, d.before a0 Z = true) (ws : List Jvm.Cond) (b : Addr) (kb : ClassId) (c0 : Int32) (c1 : Int32) (sf : Value) (h0 : Heap) (n0 : Nat) (Z0 : n0 ≤ h0.size) (V_b : Arv Z h0 b kb .byte (4 : Int32) [(.int (c0 >>> ((0 : Int32) &&& 31)).toInt8.toInt32), (.int (c0 >>> ((8 : Int32) &&& 31)).toInt8.toInt32), (.int (c1 >>> ((0 : Int32) &&& 31)).toInt8.toInt32), (.int (c1 >>> ((8 : Int32) &&& 31)).toInt8.toInt32)] (.int (0 : Int32))) (S_SIOOBE_FORMATTER : Sta Z Z.heap "jdk/internal/util/Preconditions" "SIOOBE_FORMATTER" "Ljava/util/function/BiFunction;" sf) (hsf : sf.isRef = true) (O : Old Z n0 h0) :
    Met l Z M25 jdk_52_method_91_code 2 none ws (Rm 2 0 0 27) #[(.int (0 : Int32)), (.ref b)] h0 (Q_rm_uIdx20 Z b kb c0 c1 sf h0 n0) := by
  refine met_of (plainFor_of_name pn_java_lang_StringUTF16) (own := "java/lang/StringUTF16") rfl (fun m => ef_rm_uIdx20 m (0 : Int32) b) ?_
  intro p e s m below meth c s₁ hx hby hml hown hnm hZ X0 e0 hret hlk
  have N0 := Fr.nil n0
  show Goes p e below s _ _ _ (s₁.setTop (mkF m 0 #[.val (.int (0 : Int32)), .val (.ref b)] []))
  refine Goes.pre (U' := s₁.setTop (mkF m 2 #[.val (.int (0 : Int32)), .val (.ref b)] [(.ref b), (.int (0 : Int32))])) (fun t k => XS.iloadN X0.here hx rfl (hb hby d25_0) rfl (XS.aloadN X0.here hx rfl (hb hby d25_1) rfl rfl k)) ?_
  obtain ⟨_, _, ⟨T1, L1, k1, n1⟩, -, X1, ⟨Lc1, hQ1, l1, y1, z1⟩, st1⟩ := Jvm.LawKit.callS X0 hx (y := (⟨"java/lang/StringUTF16", "length", "([B)I"⟩ : MethodName)) hown (mvT hZ (wq hw 115 rfl)) (mvT hZ (wq hw 116 rfl)) (mvT hZ (wq hw 51 rfl)) (mvT hZ (wq hw 117 rfl)) (by decide) (backOf (W := 1) (rm_ulen2 l Z a0 hw [] b kb c0 c1 h0 n0 Z0 V_b) hZ (wq hw 117 rfl) (wq hw 51 rfl) (by decide) (by decide)) (g := (mkF m 2 #[.val (.int (0 : Int32)), .val (.ref b)] [(.ref b), (.int (0 : Int32))])) rfl (by rw [hml]; rfl) (argsL := [(.ref b)]) (rest := [(.int (0 : Int32))]) (lenOf pd__28_5bB_29I rfl) rfl (by show 2 * 0 + _ ≤ _; exact Nat.le_of_eq rfl) (hb hby d25_2) (fun _ _ => ⟨rfl, e0, (by decide : 0 + 0 ≤ _), (by decide : 0 + 0 ≤ _)⟩)
  dsimp only [Pt.U, Pt.locs, Pt.cells, Pt.slots] at X1 l1 y1 z1 st1 hQ1
  subst l1 y1 z1
  obtain ⟨rfl, N1q, HQ1⟩ := hQ1
  have N1 := Fr.app N0 N1q
  refine Goes.pre (U' := T1.setTop (mkF m 5 #[.val (.int (0 : Int32)), .val (.ref b)] [(.int (2 : Int32)), (.int (0 : Int32))])) (fun t k => st1 t k) ?_
  obtain ⟨_, _, ⟨T2, L2, k2, n2⟩, -, X2, ⟨Lc2, hQ2, l2, y2, z2⟩, st2⟩ := Jvm.LawKit.callS X1 hx (y := (⟨"java/lang/String", "checkIndex", "(II)V"⟩ : MethodName)) hown (mvT hZ (wq hw 118 rfl)) (mvT hZ (wq hw 80 rfl)) (mvT hZ (wq hw 10 rfl)) (mvT hZ (wq hw 81 rfl)) (by decide) (backOf (W := 0) (rm_sIdx l Z a0 hw [] (0 : Int32) (2 : Int32) sf h0 n0 Z0 S_SIOOBE_FORMATTER (by decide) (by decide) hsf O) hZ (wq hw 81 rfl) (wq hw 10 rfl) (by decide) (by decide)) (g := (mkF m 5 #[.val (.int (0 : Int32)), .val (.ref b)] [(.int (2 : Int32)), (.int (0 : Int32))])) rfl (by rw [hml]; rfl) (argsL := [(.int (0 : Int32)), (.int (2 : Int32))]) (rest := []) (lenOf pd__28II_29V rfl) rfl (by show 2 * 0 + _ ≤ _; exact Nat.le_of_eq rfl) (hb hby d25_5) (fun _ _ => ⟨rfl, HQ1, (by decide : 0 + 0 ≤ _), (by decide : 0 + 0 ≤ _)⟩)
  dsimp only [Pt.U, Pt.locs, Pt.cells, Pt.slots] at X2 l2 y2 z2 st2 hQ2
  subst l2 y2 z2
  obtain ⟨rfl, N2q, HQ2⟩ := hQ2
  have N2 := Fr.app N1 N2q
  refine Goes.pre (U' := T2.setTop (mkF m 8 #[.val (.int (0 : Int32)), .val (.ref b)] [])) (fun t k => st2 t k) ?_
  refine Goes.ret X2 (v := none) (fun _ => rfl) hlk (by decide) (by decide) HQ2 (fun fs hr => X2.returnOut hx hret (hb hby d25_8) hr) ?_
  exact ⟨rfl, N2, rfl⟩
theorem ef_rm_getCh20 (m : MethodId) (x0 : Addr) (x1 : Int32) : entryFrame m #[(.ref x0), (.int x1)] 2 = mkF m 0 #[.val (.ref x0), .val (.int x1)] [] := by first | (simp [entryFrame, mkF, argsToLocals, Value.category]; done) | rfl
def Q_rm_getCh20 (Z : State) (b : Addr) (kb : ClassId) (c0 : Int32) (c1 : Int32) (h0 : Heap) (n0 : Nat) (v : Option Value) (h : Heap) (L : List Loc) : Prop := v = some (.int c0) ∧ Fr n0 L ∧ h = h0
set_option maxRecDepth 65536 in
set_option maxHeartbeats 40000000 in
theorem rm_getCh20 (l : Launch) (Z : State) (a0 : Array Value) (hw : ∀ d ∈ tables_1, d.before a0 Z = true) (ws : List Jvm.Cond) (b : Addr) (kb : ClassId) (c0 : Int32) (c1 : Int32) (h0 : Heap) (n0 : Nat) (Z0 : n0 ≤ h0.size) (V_b : Arv Z h0 b kb .byte (4 : Int32) [(.int (c0 >>> ((0 : Int32) &&& 31)).toInt8.toInt32), (.int (c0 >>> ((8 : Int32) &&& 31)).toInt8.toInt32), (.int (c1 >>> ((0 : Int32) &&& 31)).toInt8.toInt32), (.int (c1 >>> ((8 : Int32) &&& 31)).toInt8.toInt32)] (.int (0 : Int32))) (S__assertionsDisabled : Sta Z Z.heap "java/lang/StringUTF16" "$assertionsDisabled" "Z" (.int (1 : Int32))) (S_HI_BYTE_SHIFT : Sta Z Z.heap "java/lang/StringUTF16" "HI_BYTE_SHIFT" "I" (.int (0 : Int32))) (S_LO_BYTE_SHIFT : Sta Z Z.heap "java/lang/StringUTF16" "LO_BYTE_SHIFT" "I" (.int (8 : Int32))) (hch : OwnCh c0) (O : Old Z n0 h0) :
    Met l Z M23 jdk_52_method_5_code 2 (some .char) ws (Rm 0 0 0 0) #[(.ref b), (.int (0 : Int32))] h0 (Q_rm_getCh20 Z b kb c0 c1 h0 n0) := by
  refine met_of (plainFor_of_name pn_java_lang_StringUTF16) (own := "java/lang/StringUTF16") rfl (fun m => ef_rm_getCh20 m b (0 : Int32)) ?_
  intro p e s m below meth c s₁ hx hby hml hown hnm hZ X0 e0 hret hlk
  have N0 := Fr.nil n0
  show Goes p e below s _ _ _ (s₁.setTop (mkF m 0 #[.val (.ref b), .val (.int (0 : Int32))] []))
  obtain ⟨T1, X1, e1, st1⟩ := getS2 X0 hx hZ hown (host := "") (Or.inl (wq hw 103 rfl)) Via.refl e0 (S__assertionsDisabled.ext O.2) (g := (mkF m 0 #[.val (.ref b), .val (.int (0 : Int32))] [])) rfl (hb hby d23_0)
  refine Goes.pre (U' := T1.setTop (mkF m 3 #[.val (.ref b), .val (.int (0 : Int32))] [(.int (1 : Int32))])) (fun t k => st1 t k) ?_
  have hc3 : ¬ ((1 : Int32) = (0 : Int32)) := by decide
  refine Goes.pre (U' := T1.setTop (mkF m 31 #[.val (.ref b), .val (.int (0 : Int32))] [(.int ((0 : Int32) <<< ((1 : Int32) &&& 31)))])) (fun t k => XS.ifYes X1.here hx rfl (pc0 := 3) (pc' := 28) rfl (hb hby d23_3) rfl ((if0 _ _).trans (feq hc3).2) (by decide) (by decide) (XS.iloadN X1.here hx rfl (hb hby d23_28) rfl (XS.iconst X1.here hx rfl (hb hby d23_29) (XS.ishl X1.here hx rfl (hb hby d23_30) rfl k)))) ?_
  rw [(by decide : ((0 : Int32) <<< ((1 : Int32) &&& 31)) = (0 : Int32))]
  refine Goes.pre (U' := T1.setTop (mkF m 37 #[.val (.ref b), .val (.int ((0 : Int32) + (1 : Int32)))] [(.int (0 : Int32)), (.ref b)])) (fun t k => XS.istoreN X1.here hx rfl (hb hby d23_31) rfl (l' := #[.val (.ref b), .val (.int (0 : Int32))]) rfl (XS.aloadN X1.here hx rfl (hb hby d23_32) rfl rfl (XS.iloadN X1.here hx rfl (hb hby d23_33) rfl (XT.iincV X1.here hx rfl (1 : Int32) (hb hby d23_34) (by decide) rfl (l' := #[.val (.ref b), .val (.int ((0 : Int32) + (1 : Int32)))]) rfl k)))) ?_
  rw [(by decide : ((0 : Int32) + (1 : Int32)) = (1 : Int32))]
  obtain ⟨cl2, Ar2, q2, Sz2, Ng2, Hs2, Ft2⟩ := id V_b
  have hin2 := inb_of (j := (0 : Int32)) Sz2 ⟨by decide, by decide⟩
  refine Goes.pre (U' := T1.setTop (mkF m 42 #[.val (.ref b), .val (.int (1 : Int32))] [(.int ((c0 >>> ((0 : Int32) &&& 31)).toInt8.toInt32 &&& (255 : Int32)))])) (fun t k => X1.baloadBytes hx (j := (0 : Int32)) (v := (.int (c0 >>> ((0 : Int32) &&& 31)).toInt8.toInt32)) (by rw [e1]; exact Ar2.1) (State.isArrayOf_alike hZ.alike Ar2.2.1) Ar2.2.2 hin2 (Has.at Hs2 hin2 rfl) (g := (mkF m 37 #[.val (.ref b), .val (.int (1 : Int32))] [(.int (0 : Int32)), (.ref b)])) rfl rfl (hb hby d23_37) _ (XS.sipush X1.here hx rfl (hb hby d23_38) (XS.iand X1.here hx rfl (hb hby d23_41) rfl k))) ?_
  obtain ⟨T3, X3, e3, st3⟩ := getS2 X1 hx hZ hown (host := "") (Or.inl (wq hw 104 rfl)) Via.refl e1 (S_HI_BYTE_SHIFT.ext O.2) (g := (mkF m 42 #[.val (.ref b), .val (.int (1 : Int32))] [(.int ((c0 >>> ((0 : Int32) &&& 31)).toInt8.toInt32 &&& (255 : Int32)))])) rfl (hb hby d23_42)
  refine Goes.pre (U' := T3.setTop (mkF m 48 #[.val (.ref b), .val (.int (1 : Int32))] [(.int (1 : Int32)), (.ref b), (.int (((c0 >>> ((0 : Int32) &&& 31)).toInt8.toInt32 &&& (255 : Int32)) <<< ((0 : Int32) &&& 31)))])) (fun t k => st3 t (XS.ishl X3.here hx rfl (hb hby d23_45) rfl (XS.aloadN X3.here hx rfl (hb hby d23_46) rfl rfl (XS.iloadN X3.here hx rfl (hb hby d23_47) rfl k)))) ?_
  obtain ⟨cl4, Ar4, q4, Sz4, Ng4, Hs4, Ft4⟩ := id V_b
  have hin4 := inb_of (j := (1 : Int32)) Sz4 ⟨by decide, by decide⟩
  refine Goes.pre (U' := T3.setTop (mkF m 53 #[.val (.ref b), .val (.int (1 : Int32))] [(.int ((c0 >>> ((8 : Int32) &&& 31)).toInt8.toInt32 &&& (255 : Int32))), (.int (((c0 >>> ((0 : Int32) &&& 31)).toInt8.toInt32 &&& (255 : Int32)) <<< ((0 : Int32) &&& 31)))])) (fun t k => X3.baloadBytes hx (j := (1 : Int32)) (v := (.int (c0 >>> ((8 : Int32) &&& 31)).toInt8.toInt32)) (by rw [e3]; exact Ar4.1) (State.isArrayOf_alike hZ.alike Ar4.2.1) Ar4.2.2 hin4 (Has.at Hs4 hin4 rfl) (g := (mkF m 48 #[.val (.ref b), .val (.int (1 : Int32))] [(.int (1 : Int32)), (.ref b), (.int (((c0 >>> ((0 : Int32) &&& 31)).toInt8.toInt32 &&& (255 : Int32)) <<< ((0 : Int32) &&& 31)))])) rfl rfl (hb hby d23_48) _ (XS.sipush X3.here hx rfl (hb hby d23_49) (XS.iand X3.here hx rfl (hb hby d23_52) rfl k))) ?_
  obtain ⟨T5, X5, e5, st5⟩ := getS2 X3 hx hZ hown (host := "") (Or.inl (wq hw 105 rfl)) Via.refl e3 (S_LO_BYTE_SHIFT.ext O.2) (g := (mkF m 53 #[.val (.ref b), .val (.int (1 : Int32))] [(.int ((c0 >>> ((8 : Int32) &&& 31)).toInt8.toInt32 &&& (255 : Int32))), (.int (((c0 >>> ((0 : Int32) &&& 31)).toInt8.toInt32 &&& (255 : Int32)) <<< ((0 : Int32) &&& 31)))])) rfl (hb hby d23_53)
  refine Goes.pre (U' := T5.setTop (mkF m 59 #[.val (.ref b), .val (.int (1 : Int32))] [(.int (((((c0 >>> ((0 : Int32) &&& 31)).toInt8.toInt32 &&& (255 : Int32)) <<< ((0 : Int32) &&& 31)) ||| (((c0 >>> ((8 : Int32) &&& 31)).toInt8.toInt32 &&& (255 : Int32)) <<< ((8 : Int32) &&& 31))).toUInt32.toUInt16.toUInt32.toInt32))])) (fun t k => st5 t (XS.ishl X5.here hx rfl (hb hby d23_56) rfl (XS.ior X5.here hx rfl (hb hby d23_57) rfl (XS.i2c X5.here hx rfl (hb hby d23_58) rfl k)))) ?_
  refine Goes.ret X5 (v := (some (.int c0))) (fun h => by rw [hret] at h; cases h) hlk (by decide) (by decide) e5 (fun fs hr => retN X5 hx (t := .char) hret (by simp) (hb hby d23_59) (by rw [show nar .char (((((c0 >>> ((0 : Int32) &&& 31)).toInt8.toInt32 &&& (255 : Int32)) <<< ((0 : Int32) &&& 31)) ||| (((c0 >>> ((8 : Int32) &&& 31)).toInt8.toInt32 &&& (255 : Int32)) <<< ((8 : Int32) &&& 31))).toUInt32.toUInt16.toUInt32.toInt32) = c0 from own_u16 _ hch]; exact hr)) ?_
  exact ⟨rfl, N0, rfl⟩
theorem ef_rm_uch20 (m : MethodId) (x0 : Addr) (x1 : Int32) : entryFrame m #[(.ref x0), (.int x1)] 2 = mkF m 0 #[.val (.ref x0), .val (.int x1)] [] := by first | (simp [entryFrame, mkF, argsToLocals, Value.category]; done) | rfl
def Q_rm_uch20 (Z : State) (b : Addr) (kb : ClassId) (c0 : Int32) (c1 : Int32) (sf : Value) (h0 : Heap) (n0 : Nat) (v : Option Value) (h : Heap) (L : List Loc) : Prop := v = some (.int c0) ∧ Fr n0 L ∧ h = h0
set_option maxRecDepth 65536 in
set_option maxHeartbeats 40000000 in
theorem rm_uch20 (l : Launch) (Z : State) (a0 : Array Value) (hw : ∀ d ∈ tables_1, d.before a0 Z = true) (ws : List Jvm.Cond) (b : Addr) (kb : ClassId) (c0 : Int32) (c1 : Int32) (sf : Value) (h0 : Heap) (n0 : Nat) (Z0 : n0 ≤ h0.size) (V_b : Arv Z h0 b kb .byte (4 : Int32) [(.int (c0 >>> ((0 : Int32) &&& 31)).toInt8.toInt32), (.int (c0 >>> ((8 : Int32) &&& 31)).toInt8.toInt32), (.int (c1 >>> ((0 : Int32) &&& 31)).toInt8.toInt32), (.int (c1 >>> ((8 : Int32) &&& 31)).toInt8.toInt32)] (.int (0 : Int32))) (S__assertionsDisabled : Sta Z Z.heap "java/lang/StringUTF16" "$assertionsDisabled" "Z" (.int (1 : Int32))) (S_HI_BYTE_SHIFT : Sta Z Z.heap "java/lang/StringUTF16" "HI_BYTE_SHIFT" "I" (.int (0 : Int32))) (S_LO_BYTE_SHIFT : Sta Z Z.heap "java/lang/StringUTF16" "LO_BYTE_SHIFT" "I" (.int (8 : Int32))) (S_SIOOBE_FORMATTER : Sta Z Z.heap "jdk/internal/util/Preconditions" "SIOOBE_FORMATTER" "Ljava/util/function/BiFunction;" sf) (hch0 : OwnCh c0) (hsf : sf.isRef = true) (O : Old Z n0 h0) :
    Met l Z M24 jdk_52_method_83_code 2 (some .char) ws (Rm 3 0 0 40) #[(.ref b), (.int (0 : Int32))] h0 (Q_rm_uch20 Z b kb c0 c1 sf h0 n0) := by
  refine met_of (plainFor_of_name pn_java_lang_StringUTF16) (own := "java/lang/StringUTF16") rfl (fun m => ef_rm_uch20 m b (0 : Int32)) ?_
  intro p e s m below meth c s₁ hx hby hml hown hnm hZ X0 e0 hret hlk
  have N0 := Fr.nil n0
  show Goes p e below s _ _ _ (s₁.setTop (mkF m 0 #[.val (.ref b), .val (.int (0 : Int32))] []))
  refine Goes.pre (U' := s₁.setTop (mkF m 2 #[.val (.ref b), .val (.int (0 : Int32))] [(.ref b), (.int (0 : Int32))])) (fun t k => XS.iloadN X0.here hx rfl (hb hby d24_0) rfl (XS.aloadN X0.here hx rfl (hb hby d24_1) rfl rfl k)) ?_
  obtain ⟨_, _, ⟨T1, L1, k1, n1⟩, -, X1, ⟨Lc1, hQ1, l1, y1, z1⟩, st1⟩ := Jvm.LawKit.callS X0 hx (y := (⟨"java/lang/StringUTF16", "checkIndex", "(I[B)V"⟩ : MethodName)) hown (mvT hZ (wq hw 112 rfl)) (mvT hZ (wq hw 113 rfl)) (mvT hZ (wq hw 51 rfl)) (mvT hZ (wq hw 114 rfl)) (by decide) (backOf (W := 0) (rm_uIdx20 l Z a0 hw [] b kb c0 c1 sf h0 n0 Z0 V_b S_SIOOBE_FORMATTER hsf O) hZ (wq hw 114 rfl) (wq hw 51 rfl) (by decide) (by decide)) (g := (mkF m 2 #[.val (.ref b), .val (.int (0 : Int32))] [(.ref b), (.int (0 : Int32))])) rfl (by rw [hml]; rfl) (argsL := [(.int (0 : Int32)), (.ref b)]) (rest := []) (lenOf pd__28I_5bB_29V rfl) rfl (by show 2 * 0 + _ ≤ _; exact Nat.le_of_eq rfl) (hb hby d24_2) (fun _ _ => ⟨rfl, e0, (by decide : 0 + 0 ≤ _), (by decide : 0 + 0 ≤ _)⟩)
  dsimp only [Pt.U, Pt.locs, Pt.cells, Pt.slots] at X1 l1 y1 z1 st1 hQ1
  subst l1 y1 z1
  obtain ⟨rfl, N1q, HQ1⟩ := hQ1
  have N1 := Fr.app N0 N1q
  refine Goes.pre (U' := T1.setTop (mkF m 7 #[.val (.ref b), .val (.int (0 : Int32))] [(.int (0 : Int32)), (.ref b)])) (fun t k => st1 t (XS.aloadN X1.here hx rfl (hb hby d24_5) rfl rfl (XS.iloadN X1.here hx rfl (hb hby d24_6) rfl k))) ?_
  obtain ⟨_, _, ⟨T2, L2, k2, n2⟩, -, X2, ⟨Lc2, hQ2, l2, y2, z2⟩, st2⟩ := Jvm.LawKit.callS X1 hx (y := (⟨"java/lang/StringUTF16", "getChar", "([BI)C"⟩ : MethodName)) hown (mvT hZ (wq hw 106 rfl)) (mvT hZ (wq hw 107 rfl)) (mvT hZ (wq hw 51 rfl)) (mvT hZ (wq hw 108 rfl)) (by decide) (backOf (W := 0) (rm_getCh20 l Z a0 hw [] b kb c0 c1 h0 n0 Z0 V_b S__assertionsDisabled S_HI_BYTE_SHIFT S_LO_BYTE_SHIFT hch0 O) hZ (wq hw 108 rfl) (wq hw 51 rfl) (by decide) (by decide)) (g := (mkF m 7 #[.val (.ref b), .val (.int (0 : Int32))] [(.int (0 : Int32)), (.ref b)])) rfl (by rw [hml]; rfl) (argsL := [(.ref b), (.int (0 : Int32))]) (rest := []) (lenOf pd__28_5bBI_29C rfl) rfl (by show 2 * 0 + _ ≤ _; exact Nat.le_of_eq rfl) (hb hby d24_7) (fun _ _ => ⟨rfl, HQ1, (by decide : 0 + 0 ≤ _), (by decide : 0 + 0 ≤ _)⟩)
  dsimp only [Pt.U, Pt.locs, Pt.cells, Pt.slots] at X2 l2 y2 z2 st2 hQ2
  subst l2 y2 z2
  obtain ⟨rfl, N2q, HQ2⟩ := hQ2
  have N2 := Fr.app N1 N2q
  refine Goes.pre (U' := T2.setTop (mkF m 10 #[.val (.ref b), .val (.int (0 : Int32))] [(.int c0)])) (fun t k => st2 t k) ?_
  refine Goes.ret X2 (v := (some (.int c0))) (fun h => by rw [hret] at h; cases h) hlk (by decide) (by decide) HQ2 (fun fs hr => retN X2 hx (t := .char) hret (by simp) (hb hby d24_10) (by rw [show nar .char c0 = c0 from own_nch _ hch0]; exact hr)) ?_
  exact ⟨rfl, N2, rfl⟩
theorem ef_rm_l1ch21 (m : MethodId) (x0 : Addr) (x1 : Int32) : entryFrame m #[(.ref x0), (.int x1)] 2 = mkF m 0 #[.val (.ref x0), .val (.int x1)] [] := by first | (simp [entryFrame, mkF, argsToLocals, Value.category]; done) | rfl
def Q_rm_l1ch21 (Z : State) (b : Addr) (kb : ClassId) (c0 : Int32) (c1 : Int32) (sf : Value) (h0 : Heap) (n0 : Nat) (v : Option Value) (h : Heap) (L : List Loc) : Prop := v = some (.int c1) ∧ Fr n0 L ∧ h = h0
set_option maxRecDepth 65536 in
set_option maxHeartbeats 40000000 in
theorem rm_l1ch21 (l : Launch) (Z : State) (a0 : Array Value) (hw : ∀ d ∈ tables_1, d.before a0 Z = true) (ws : List Jvm.Cond) (b : Addr) (kb : ClassId) (c0 : Int32) (c1 : Int32) (sf : Value) (h0 : Heap) (n0 : Nat) (Z0 : n0 ≤ h0.size) (V_b : Arv Z h0 b kb .byte (2 : Int32) [(.int c0.toInt8.toInt32), (.int c1.toInt8.toInt32)] (.int (0 : Int32))) (S_SIOOBE_FORMATTER : Sta Z Z.heap "jdk/internal/util/Preconditions" "SIOOBE_FORMATTER" "Ljava/util/function/BiFunction;" sf) (hch : OwnCh c1) (hle : ¬ ((255 : Int32) < c1)) (hsf : sf.isRef = true) (O : Old Z n0 h0) :
    Met l Z M15 jdk_43_method_2_code 2 (some .char) ws (Rm 2 0 0 27) #[(.ref b), (.int (1 : Int32))] h0 (Q_rm_l1ch21 Z b kb c0 c1 sf h0 n0) := by
  refine met_of (plainFor_of_name pn_java_lang_StringLatin1) (own := "java/lang/StringLatin1") rfl (fun m => ef_rm_l1ch21 m b (1 : Int32)) ?_
  intro p e s m below meth c s₁ hx hby hml hown hnm hZ X0 e0 hret hlk
  have N0 := Fr.nil n0
  show Goes p e below s _ _ _ (s₁.setTop (mkF m 0 #[.val (.ref b), .val (.int (1 : Int32))] []))
  refine Goes.pre (U' := s₁.setTop (mkF m 2 #[.val (.ref b), .val (.int (1 : Int32))] [(.ref b), (.int (1 : Int32))])) (fun t k => XS.iloadN X0.here hx rfl (hb hby d15_0) rfl (XS.aloadN X0.here hx rfl (hb hby d15_1) rfl rfl k)) ?_
  obtain ⟨cl1, Ar1, q1, Sz1, Ng1, -, -⟩ := id V_b
  have ln1 := len_of Sz1 Ng1
  refine Goes.pre (U' := s₁.setTop (mkF m 3 #[.val (.ref b), .val (.int (1 : Int32))] [(.int (2 : Int32)), (.int (1 : Int32))])) (fun t k => X0.arraylength hx (by rw [e0]; exact Ar1.1) (State.isArrayOf_alike hZ.alike Ar1.2.1) (g := (mkF m 2 #[.val (.ref b), .val (.int (1 : Int32))] [(.ref b), (.int (1 : Int32))])) rfl rfl (hb hby d15_2) _ (by rw [ln1]; exact k)) ?_
  obtain ⟨_, _, ⟨T2, L2, k2, n2⟩, -, X2, ⟨Lc2, hQ2, l2, y2, z2⟩, st2⟩ := Jvm.LawKit.callS X0 hx (y := (⟨"java/lang/String", "checkIndex", "(II)V"⟩ : MethodName)) hown (mvT hZ (wq hw 79 rfl)) (mvT hZ (wq hw 80 rfl)) (mvT hZ (wq hw 10 rfl)) (mvT hZ (wq hw 81 rfl)) (by decide) (backOf (W := 0) (rm_sIdx l Z a0 hw [] (1 : Int32) (2 : Int32) sf h0 n0 Z0 S_SIOOBE_FORMATTER (by decide) (by decide) hsf O) hZ (wq hw 81 rfl) (wq hw 10 rfl) (by decide) (by decide)) (g := (mkF m 3 #[.val (.ref b), .val (.int (1 : Int32))] [(.int (2 : Int32)), (.int (1 : Int32))])) rfl (by rw [hml]; rfl) (argsL := [(.int (1 : Int32)), (.int (2 : Int32))]) (rest := []) (lenOf pd__28II_29V rfl) rfl (by show 2 * 0 + _ ≤ _; exact Nat.le_of_eq rfl) (hb hby d15_3) (fun _ _ => ⟨rfl, e0, (by decide : 0 + 0 ≤ _), (by decide : 0 + 0 ≤ _)⟩)
  dsimp only [Pt.U, Pt.locs, Pt.cells, Pt.slots] at X2 l2 y2 z2 st2 hQ2
  subst l2 y2 z2
  obtain ⟨rfl, N2q, HQ2⟩ := hQ2
  have N2 := Fr.app N0 N2q
  refine Goes.pre (U' := T2.setTop (mkF m 8 #[.val (.ref b), .val (.int (1 : Int32))] [(.int (1 : Int32)), (.ref b)])) (fun t k => st2 t (XS.aloadN X2.here hx rfl (hb hby d15_6) rfl rfl (XS.iloadN X2.here hx rfl (hb hby d15_7) rfl k))) ?_
  obtain ⟨cl3, Ar3, q3, Sz3, Ng3, Hs3, Ft3⟩ := id V_b
  have hin3 := inb_of (j := (1 : Int32)) Sz3 ⟨by decide, by decide⟩
  refine Goes.pre (U' := T2.setTop (mkF m 14 #[.val (.ref b), .val (.int (1 : Int32))] [(.int ((c1.toInt8.toInt32 &&& (255 : Int32)).toUInt32.toUInt16.toUInt32.toInt32))])) (fun t k => X2.baloadBytes hx (j := (1 : Int32)) (v := (.int c1.toInt8.toInt32)) (by rw [HQ2]; exact Ar3.1) (State.isArrayOf_alike hZ.alike Ar3.2.1) Ar3.2.2 hin3 (Has.at Hs3 hin3 rfl) (g := (mkF m 8 #[.val (.ref b), .val (.int (1 : Int32))] [(.int (1 : Int32)), (.ref b)])) rfl rfl (hb hby d15_8) _ (XS.sipush X2.here hx rfl (hb hby d15_9) (XS.iand X2.here hx rfl (hb hby d15_12) rfl (XS.i2c X2.here hx rfl (hb hby d15_13) rfl k)))) ?_
  refine Goes.ret X2 (v := (some (.int c1))) (fun h => by rw [hret] at h; cases h) hlk (by decide) (by decide) HQ2 (fun fs hr => retN X2 hx (t := .char) hret (by simp) (hb hby d15_14) (by rw [show nar .char ((c1.toInt8.toInt32 &&& (255 : Int32)).toUInt32.toUInt16.toUInt32.toInt32) = c1 from own_l1 _ hch hle]; exact hr)) ?_
  exact ⟨rfl, N2, rfl⟩
theorem ef_rm_uIdx21 (m : MethodId) (x0 : Int32) (x1 : Addr) : entryFrame m #[(.int x0), (.ref x1)] 2 = mkF m 0 #[.val (.int x0), .val (.ref x1)] [] := by first | (simp [entryFrame, mkF, argsToLocals, Value.category]; done) | rfl
def Q_rm_uIdx21 (Z : State) (b : Addr) (kb : ClassId) (c0 : Int32) (c1 : Int32) (sf : Value) (h0 : Heap) (n0 : Nat) (v : Option Value) (h : Heap) (L : List Loc) : Prop := v = none ∧ Fr n0 L ∧ h = h0
set_option maxRecDepth 65536 in
set_option maxHeartbeats 40000000 in
theorem rm_uIdx21 (l : Launch) (Z : State) (a0 : Array Value) (hw : ∀ d ∈ tables_1, d.before a0 Z = true) (ws : List Jvm.Cond) (b : Addr) (kb : ClassId) (c0 : Int32) (c1 : Int32) (sf : Value) (h0 : Heap) (n0 : Nat) (Z0 : n0 ≤ h0.size) (V_b : Arv Z h0 b kb .byte (4 : Int32) [(.int (c0 >>> ((0 : Int32) &&& 31)).toInt8.toInt32), (.int (c0 >>> ((8 : Int32) &&& 31)).toInt8.toInt32), (.int (c1 >>> ((0 : Int32) &&& 31)).toInt8.toInt32), (.int (c1 >>> ((8 : Int32) &&& 31)).toInt8.toInt32)] (.int (0 : Int32))) (S_SIOOBE_FORMATTER : Sta Z Z.heap "jdk/internal/util/Preconditions" "SIOOBE_FORMATTER" "Ljava/util/function/BiFunction;" sf) (hsf : sf.isRef = true) (O : Old Z n0 h0) :
    Met l Z M25 jdk_52_method_91_code 2 none ws (Rm 2 0 0 27) #[(.int (1 : Int32)), (.ref b)] h0 (Q_rm_uIdx21 Z b kb c0 c1 sf h0 n0) := by
  refine met_of (plainFor_of_name pn_java_lang_StringUTF16) (own := "java/lang/StringUTF16") rfl (fun m => ef_rm_uIdx21 m (1 : Int32) b) ?_
  intro p e s m below meth c s₁ hx hby hml hown hnm hZ X0 e0 hret hlk
  have N0 := Fr.nil n0
  show Goes p e below s _ _ _ (s₁.setTop (mkF m 0 #[.val (.int (1 : Int32)), .val (.ref b)] []))
  refine Goes.pre (U' := s₁.setTop (mkF m 2 #[.val (.int (1 : Int32)), .val (.ref b)] [(.ref b), (.int (1 : Int32))])) (fun t k => XS.iloadN X0.here hx rfl (hb hby d25_0) rfl (XS.aloadN X0.here hx rfl (hb hby d25_1) rfl rfl k)) ?_
  obtain ⟨_, _, ⟨T1, L1, k1, n1⟩, -, X1, ⟨Lc1, hQ1, l1, y1, z1⟩, st1⟩ := Jvm.LawKit.callS X0 hx (y := (⟨"java/lang/StringUTF16", "length", "([B)I"⟩ : MethodName)) hown (mvT hZ (wq hw 115 rfl)) (mvT hZ (wq hw 116 rfl)) (mvT hZ (wq hw 51 rfl)) (mvT hZ (wq hw 117 rfl)) (by decide) (backOf (W := 1) (rm_ulen2 l Z a0 hw [] b kb c0 c1 h0 n0 Z0 V_b) hZ (wq hw 117 rfl) (wq hw 51 rfl) (by decide) (by decide)) (g := (mkF m 2 #[.val (.int (1 : Int32)), .val (.ref b)] [(.ref b), (.int (1 : Int32))])) rfl (by rw [hml]; rfl) (argsL := [(.ref b)]) (rest := [(.int (1 : Int32))]) (lenOf pd__28_5bB_29I rfl) rfl (by show 2 * 0 + _ ≤ _; exact Nat.le_of_eq rfl) (hb hby d25_2) (fun _ _ => ⟨rfl, e0, (by decide : 0 + 0 ≤ _), (by decide : 0 + 0 ≤ _)⟩)
  dsimp only [Pt.U, Pt.locs, Pt.cells, Pt.slots] at X1 l1 y1 z1 st1 hQ1
  subst l1 y1 z1
  obtain ⟨rfl, N1q, HQ1⟩ := hQ1
  have N1 := Fr.app N0 N1q
  refine Goes.pre (U' := T1.setTop (mkF m 5 #[.val (.int (1 : Int32)), .val (.ref b)] [(.int (2 : Int32)), (.int (1 : Int32))])) (fun t k => st1 t k) ?_
  obtain ⟨_, _, ⟨T2, L2, k2, n2⟩, -, X2, ⟨Lc2, hQ2, l2, y2, z2⟩, st2⟩ := Jvm.LawKit.callS X1 hx (y := (⟨"java/lang/String", "checkIndex", "(II)V"⟩ : MethodName)) hown (mvT hZ (wq hw 118 rfl)) (mvT hZ (wq hw 80 rfl)) (mvT hZ (wq hw 10 rfl)) (mvT hZ (wq hw 81 rfl)) (by decide) (backOf (W := 0) (rm_sIdx l Z a0 hw [] (1 : Int32) (2 : Int32) sf h0 n0 Z0 S_SIOOBE_FORMATTER (by decide) (by decide) hsf O) hZ (wq hw 81 rfl) (wq hw 10 rfl) (by decide) (by decide)) (g := (mkF m 5 #[.val (.int (1 : Int32)), .val (.ref b)] [(.int (2 : Int32)), (.int (1 : Int32))])) rfl (by rw [hml]; rfl) (argsL := [(.int (1 : Int32)), (.int (2 : Int32))]) (rest := []) (lenOf pd__28II_29V rfl) rfl (by show 2 * 0 + _ ≤ _; exact Nat.le_of_eq rfl) (hb hby d25_5) (fun _ _ => ⟨rfl, HQ1, (by decide : 0 + 0 ≤ _), (by decide : 0 + 0 ≤ _)⟩)
  dsimp only [Pt.U, Pt.locs, Pt.cells, Pt.slots] at X2 l2 y2 z2 st2 hQ2
  subst l2 y2 z2
  obtain ⟨rfl, N2q, HQ2⟩ := hQ2
  have N2 := Fr.app N1 N2q
  refine Goes.pre (U' := T2.setTop (mkF m 8 #[.val (.int (1 : Int32)), .val (.ref b)] [])) (fun t k => st2 t k) ?_
  refine Goes.ret X2 (v := none) (fun _ => rfl) hlk (by decide) (by decide) HQ2 (fun fs hr => X2.returnOut hx hret (hb hby d25_8) hr) ?_
  exact ⟨rfl, N2, rfl⟩
theorem ef_rm_getCh21 (m : MethodId) (x0 : Addr) (x1 : Int32) : entryFrame m #[(.ref x0), (.int x1)] 2 = mkF m 0 #[.val (.ref x0), .val (.int x1)] [] := by first | (simp [entryFrame, mkF, argsToLocals, Value.category]; done) | rfl
def Q_rm_getCh21 (Z : State) (b : Addr) (kb : ClassId) (c0 : Int32) (c1 : Int32) (h0 : Heap) (n0 : Nat) (v : Option Value) (h : Heap) (L : List Loc) : Prop := v = some (.int c1) ∧ Fr n0 L ∧ h = h0
set_option maxRecDepth 65536 in
set_option maxHeartbeats 40000000 in
theorem rm_getCh21 (l : Launch) (Z : State) (a0 : Array Value) (hw : ∀ d ∈ tables_1, d.before a0 Z = true) (ws : List Jvm.Cond) (b : Addr) (kb : ClassId) (c0 : Int32) (c1 : Int32) (h0 : Heap) (n0 : Nat) (Z0 : n0 ≤ h0.size) (V_b : Arv Z h0 b kb .byte (4 : Int32) [(.int (c0 >>> ((0 : Int32) &&& 31)).toInt8.toInt32), (.int (c0 >>> ((8 : Int32) &&& 31)).toInt8.toInt32), (.int (c1 >>> ((0 : Int32) &&& 31)).toInt8.toInt32), (.int (c1 >>> ((8 : Int32) &&& 31)).toInt8.toInt32)] (.int (0 : Int32))) (S__assertionsDisabled : Sta Z Z.heap "java/lang/StringUTF16" "$assertionsDisabled" "Z" (.int (1 : Int32))) (S_HI_BYTE_SHIFT : Sta Z Z.heap "java/lang/StringUTF16" "HI_BYTE_SHIFT" "I" (.int (0 : Int32))) (S_LO_BYTE_SHIFT : Sta Z Z.heap "java/lang/StringUTF16" "LO_BYTE_SHIFT" "I" (.int (8 : Int32))) (hch : OwnCh c1) (O : Old Z n0 h0) :
    Met l Z M23 jdk_52_method_5_code 2 (some .char) ws (Rm 0 0 0 0) #[(.ref b), (.int (1 : Int32))] h0 (Q_rm_getCh21 Z b kb c0 c1 h0 n0) := by
  refine met_of (plainFor_of_name pn_java_lang_StringUTF16) (own := "java/lang/StringUTF16") rfl (fun m => ef_rm_getCh21 m b (1 : Int32)) ?_
  intro p e s m below meth c s₁ hx hby hml hown hnm hZ X0 e0 hret hlk
  have N0 := Fr.nil n0
  show Goes p e below s _ _ _ (s₁.setTop (mkF m 0 #[.val (.ref b), .val (.int (1 : Int32))] []))
  obtain ⟨T1, X1, e1, st1⟩ := getS2 X0 hx hZ hown (host := "") (Or.inl (wq hw 103 rfl)) Via.refl e0 (S__assertionsDisabled.ext O.2) (g := (mkF m 0 #[.val (.ref b), .val (.int (1 : Int32))] [])) rfl (hb hby d23_0)
  refine Goes.pre (U' := T1.setTop (mkF m 3 #[.val (.ref b), .val (.int (1 : Int32))] [(.int (1 : Int32))])) (fun t k => st1 t k) ?_
  have hc3 : ¬ ((1 : Int32) = (0 : Int32)) := by decide
  refine Goes.pre (U' := T1.setTop (mkF m 31 #[.val (.ref b), .val (.int (1 : Int32))] [(.int ((1 : Int32) <<< ((1 : Int32) &&& 31)))])) (fun t k => XS.ifYes X1.here hx rfl (pc0 := 3) (pc' := 28) rfl (hb hby d23_3) rfl ((if0 _ _).trans (feq hc3).2) (by decide) (by decide) (XS.iloadN X1.here hx rfl (hb hby d23_28) rfl (XS.iconst X1.here hx rfl (hb hby d23_29) (XS.ishl X1.here hx rfl (hb hby d23_30) rfl k)))) ?_
  rw [(by decide : ((1 : Int32) <<< ((1 : Int32) &&& 31)) = (2 : Int32))]
  refine Goes.pre (U' := T1.setTop (mkF m 37 #[.val (.ref b), .val (.int ((2 : Int32) + (1 : Int32)))] [(.int (2 : Int32)), (.ref b)])) (fun t k => XS.istoreN X1.here hx rfl (hb hby d23_31) rfl (l' := #[.val (.ref b), .val (.int (2 : Int32))]) rfl (XS.aloadN X1.here hx rfl (hb hby d23_32) rfl rfl (XS.iloadN X1.here hx rfl (hb hby d23_33) rfl (XT.iincV X1.here hx rfl (1 : Int32) (hb hby d23_34) (by decide) rfl (l' := #[.val (.ref b), .val (.int ((2 : Int32) + (1 : Int32)))]) rfl k)))) ?_
  rw [(by decide : ((2 : Int32) + (1 : Int32)) = (3 : Int32))]
  obtain ⟨cl2, Ar2, q2, Sz2, Ng2, Hs2, Ft2⟩ := id V_b
  have hin2 := inb_of (j := (2 : Int32)) Sz2 ⟨by decide, by decide⟩
  refine Goes.pre (U' := T1.setTop (mkF m 42 #[.val (.ref b), .val (.int (3 : Int32))] [(.int ((c1 >>> ((0 : Int32) &&& 31)).toInt8.toInt32 &&& (255 : Int32)))])) (fun t k => X1.baloadBytes hx (j := (2 : Int32)) (v := (.int (c1 >>> ((0 : Int32) &&& 31)).toInt8.toInt32)) (by rw [e1]; exact Ar2.1) (State.isArrayOf_alike hZ.alike Ar2.2.1) Ar2.2.2 hin2 (Has.at Hs2 hin2 rfl) (g := (mkF m 37 #[.val (.ref b), .val (.int (3 : Int32))] [(.int (2 : Int32)), (.ref b)])) rfl rfl (hb hby d23_37) _ (XS.sipush X1.here hx rfl (hb hby d23_38) (XS.iand X1.here hx rfl (hb hby d23_41) rfl k))) ?_
  obtain ⟨T3, X3, e3, st3⟩ := getS2 X1 hx hZ hown (host := "") (Or.inl (wq hw 104 rfl)) Via.refl e1 (S_HI_BYTE_SHIFT.ext O.2) (g := (mkF m 42 #[.val (.ref b), .val (.int (3 : Int32))] [(.int ((c1 >>> ((0 : Int32) &&& 31)).toInt8.toInt32 &&& (255 : Int32)))])) rfl (hb hby d23_42)
  refine Goes.pre (U' := T3.setTop (mkF m 48 #[.val (.ref b), .val (.int (3 : Int32))] [(.int (3 : Int32)), (.ref b), (.int (((c1 >>> ((0 : Int32) &&& 31)).toInt8.toInt32 &&& (255 : Int32)) <<< ((0 : Int32) &&& 31)))])) (fun t k => st3 t (XS.ishl X3.here hx rfl (hb hby d23_45) rfl (XS.aloadN X3.here hx rfl (hb hby d23_46) rfl rfl (XS.iloadN X3.here hx rfl (hb hby d23_47) rfl k)))) ?_
  obtain ⟨cl4, Ar4, q4, Sz4, Ng4, Hs4, Ft4⟩ := id V_b
  have hin4 := inb_of (j := (3 : Int32)) Sz4 ⟨by decide, by decide⟩
  refine Goes.pre (U' := T3.setTop (mkF m 53 #[.val (.ref b), .val (.int (3 : Int32))] [(.int ((c1 >>> ((8 : Int32) &&& 31)).toInt8.toInt32 &&& (255 : Int32))), (.int (((c1 >>> ((0 : Int32) &&& 31)).toInt8.toInt32 &&& (255 : Int32)) <<< ((0 : Int32) &&& 31)))])) (fun t k => X3.baloadBytes hx (j := (3 : Int32)) (v := (.int (c1 >>> ((8 : Int32) &&& 31)).toInt8.toInt32)) (by rw [e3]; exact Ar4.1) (State.isArrayOf_alike hZ.alike Ar4.2.1) Ar4.2.2 hin4 (Has.at Hs4 hin4 rfl) (g := (mkF m 48 #[.val (.ref b), .val (.int (3 : Int32))] [(.int (3 : Int32)), (.ref b), (.int (((c1 >>> ((0 : Int32) &&& 31)).toInt8.toInt32 &&& (255 : Int32)) <<< ((0 : Int32) &&& 31)))])) rfl rfl (hb hby d23_48) _ (XS.sipush X3.here hx rfl (hb hby d23_49) (XS.iand X3.here hx rfl (hb hby d23_52) rfl k))) ?_
  obtain ⟨T5, X5, e5, st5⟩ := getS2 X3 hx hZ hown (host := "") (Or.inl (wq hw 105 rfl)) Via.refl e3 (S_LO_BYTE_SHIFT.ext O.2) (g := (mkF m 53 #[.val (.ref b), .val (.int (3 : Int32))] [(.int ((c1 >>> ((8 : Int32) &&& 31)).toInt8.toInt32 &&& (255 : Int32))), (.int (((c1 >>> ((0 : Int32) &&& 31)).toInt8.toInt32 &&& (255 : Int32)) <<< ((0 : Int32) &&& 31)))])) rfl (hb hby d23_53)
  refine Goes.pre (U' := T5.setTop (mkF m 59 #[.val (.ref b), .val (.int (3 : Int32))] [(.int (((((c1 >>> ((0 : Int32) &&& 31)).toInt8.toInt32 &&& (255 : Int32)) <<< ((0 : Int32) &&& 31)) ||| (((c1 >>> ((8 : Int32) &&& 31)).toInt8.toInt32 &&& (255 : Int32)) <<< ((8 : Int32) &&& 31))).toUInt32.toUInt16.toUInt32.toInt32))])) (fun t k => st5 t (XS.ishl X5.here hx rfl (hb hby d23_56) rfl (XS.ior X5.here hx rfl (hb hby d23_57) rfl (XS.i2c X5.here hx rfl (hb hby d23_58) rfl k)))) ?_
  refine Goes.ret X5 (v := (some (.int c1))) (fun h => by rw [hret] at h; cases h) hlk (by decide) (by decide) e5 (fun fs hr => retN X5 hx (t := .char) hret (by simp) (hb hby d23_59) (by rw [show nar .char (((((c1 >>> ((0 : Int32) &&& 31)).toInt8.toInt32 &&& (255 : Int32)) <<< ((0 : Int32) &&& 31)) ||| (((c1 >>> ((8 : Int32) &&& 31)).toInt8.toInt32 &&& (255 : Int32)) <<< ((8 : Int32) &&& 31))).toUInt32.toUInt16.toUInt32.toInt32) = c1 from own_u16 _ hch]; exact hr)) ?_
  exact ⟨rfl, N0, rfl⟩
theorem ef_rm_uch21 (m : MethodId) (x0 : Addr) (x1 : Int32) : entryFrame m #[(.ref x0), (.int x1)] 2 = mkF m 0 #[.val (.ref x0), .val (.int x1)] [] := by first | (simp [entryFrame, mkF, argsToLocals, Value.category]; done) | rfl
def Q_rm_uch21 (Z : State) (b : Addr) (kb : ClassId) (c0 : Int32) (c1 : Int32) (sf : Value) (h0 : Heap) (n0 : Nat) (v : Option Value) (h : Heap) (L : List Loc) : Prop := v = some (.int c1) ∧ Fr n0 L ∧ h = h0
set_option maxRecDepth 65536 in
set_option maxHeartbeats 40000000 in
theorem rm_uch21 (l : Launch) (Z : State) (a0 : Array Value) (hw : ∀ d ∈ tables_1, d.before a0 Z = true) (ws : List Jvm.Cond) (b : Addr) (kb : ClassId) (c0 : Int32) (c1 : Int32) (sf : Value) (h0 : Heap) (n0 : Nat) (Z0 : n0 ≤ h0.size) (V_b : Arv Z h0 b kb .byte (4 : Int32) [(.int (c0 >>> ((0 : Int32) &&& 31)).toInt8.toInt32), (.int (c0 >>> ((8 : Int32) &&& 31)).toInt8.toInt32), (.int (c1 >>> ((0 : Int32) &&& 31)).toInt8.toInt32), (.int (c1 >>> ((8 : Int32) &&& 31)).toInt8.toInt32)] (.int (0 : Int32))) (S__assertionsDisabled : Sta Z Z.heap "java/lang/StringUTF16" "$assertionsDisabled" "Z" (.int (1 : Int32))) (S_HI_BYTE_SHIFT : Sta Z Z.heap "java/lang/StringUTF16" "HI_BYTE_SHIFT" "I" (.int (0 : Int32))) (S_LO_BYTE_SHIFT : Sta Z Z.heap "java/lang/StringUTF16" "LO_BYTE_SHIFT" "I" (.int (8 : Int32))) (S_SIOOBE_FORMATTER : Sta Z Z.heap "jdk/internal/util/Preconditions" "SIOOBE_FORMATTER" "Ljava/util/function/BiFunction;" sf) (hch1 : OwnCh c1) (hsf : sf.isRef = true) (O : Old Z n0 h0) :
    Met l Z M24 jdk_52_method_83_code 2 (some .char) ws (Rm 3 0 0 40) #[(.ref b), (.int (1 : Int32))] h0 (Q_rm_uch21 Z b kb c0 c1 sf h0 n0) := by
  refine met_of (plainFor_of_name pn_java_lang_StringUTF16) (own := "java/lang/StringUTF16") rfl (fun m => ef_rm_uch21 m b (1 : Int32)) ?_
  intro p e s m below meth c s₁ hx hby hml hown hnm hZ X0 e0 hret hlk
  have N0 := Fr.nil n0
  show Goes p e below s _ _ _ (s₁.setTop (mkF m 0 #[.val (.ref b), .val (.int (1 : Int32))] []))
  refine Goes.pre (U' := s₁.setTop (mkF m 2 #[.val (.ref b), .val (.int (1 : Int32))] [(.ref b), (.int (1 : Int32))])) (fun t k => XS.iloadN X0.here hx rfl (hb hby d24_0) rfl (XS.aloadN X0.here hx rfl (hb hby d24_1) rfl rfl k)) ?_
  obtain ⟨_, _, ⟨T1, L1, k1, n1⟩, -, X1, ⟨Lc1, hQ1, l1, y1, z1⟩, st1⟩ := Jvm.LawKit.callS X0 hx (y := (⟨"java/lang/StringUTF16", "checkIndex", "(I[B)V"⟩ : MethodName)) hown (mvT hZ (wq hw 112 rfl)) (mvT hZ (wq hw 113 rfl)) (mvT hZ (wq hw 51 rfl)) (mvT hZ (wq hw 114 rfl)) (by decide) (backOf (W := 0) (rm_uIdx21 l Z a0 hw [] b kb c0 c1 sf h0 n0 Z0 V_b S_SIOOBE_FORMATTER hsf O) hZ (wq hw 114 rfl) (wq hw 51 rfl) (by decide) (by decide)) (g := (mkF m 2 #[.val (.ref b), .val (.int (1 : Int32))] [(.ref b), (.int (1 : Int32))])) rfl (by rw [hml]; rfl) (argsL := [(.int (1 : Int32)), (.ref b)]) (rest := []) (lenOf pd__28I_5bB_29V rfl) rfl (by show 2 * 0 + _ ≤ _; exact Nat.le_of_eq rfl) (hb hby d24_2) (fun _ _ => ⟨rfl, e0, (by decide : 0 + 0 ≤ _), (by decide : 0 + 0 ≤ _)⟩)
  dsimp only [Pt.U, Pt.locs, Pt.cells, Pt.slots] at X1 l1 y1 z1 st1 hQ1
  subst l1 y1 z1
  obtain ⟨rfl, N1q, HQ1⟩ := hQ1
  have N1 := Fr.app N0 N1q
  refine Goes.pre (U' := T1.setTop (mkF m 7 #[.val (.ref b), .val (.int (1 : Int32))] [(.int (1 : Int32)), (.ref b)])) (fun t k => st1 t (XS.aloadN X1.here hx rfl (hb hby d24_5) rfl rfl (XS.iloadN X1.here hx rfl (hb hby d24_6) rfl k))) ?_
  obtain ⟨_, _, ⟨T2, L2, k2, n2⟩, -, X2, ⟨Lc2, hQ2, l2, y2, z2⟩, st2⟩ := Jvm.LawKit.callS X1 hx (y := (⟨"java/lang/StringUTF16", "getChar", "([BI)C"⟩ : MethodName)) hown (mvT hZ (wq hw 106 rfl)) (mvT hZ (wq hw 107 rfl)) (mvT hZ (wq hw 51 rfl)) (mvT hZ (wq hw 108 rfl)) (by decide) (backOf (W := 0) (rm_getCh21 l Z a0 hw [] b kb c0 c1 h0 n0 Z0 V_b S__assertionsDisabled S_HI_BYTE_SHIFT S_LO_BYTE_SHIFT hch1 O) hZ (wq hw 108 rfl) (wq hw 51 rfl) (by decide) (by decide)) (g := (mkF m 7 #[.val (.ref b), .val (.int (1 : Int32))] [(.int (1 : Int32)), (.ref b)])) rfl (by rw [hml]; rfl) (argsL := [(.ref b), (.int (1 : Int32))]) (rest := []) (lenOf pd__28_5bBI_29C rfl) rfl (by show 2 * 0 + _ ≤ _; exact Nat.le_of_eq rfl) (hb hby d24_7) (fun _ _ => ⟨rfl, HQ1, (by decide : 0 + 0 ≤ _), (by decide : 0 + 0 ≤ _)⟩)
  dsimp only [Pt.U, Pt.locs, Pt.cells, Pt.slots] at X2 l2 y2 z2 st2 hQ2
  subst l2 y2 z2
  obtain ⟨rfl, N2q, HQ2⟩ := hQ2
  have N2 := Fr.app N1 N2q
  refine Goes.pre (U' := T2.setTop (mkF m 10 #[.val (.ref b), .val (.int (1 : Int32))] [(.int c1)])) (fun t k => st2 t k) ?_
  refine Goes.ret X2 (v := (some (.int c1))) (fun h => by rw [hret] at h; cases h) hlk (by decide) (by decide) HQ2 (fun fs hr => retN X2 hx (t := .char) hret (by simp) (hb hby d24_10) (by rw [show nar .char c1 = c1 from own_nch _ hch1]; exact hr)) ?_
  exact ⟨rfl, N2, rfl⟩
theorem ef_rm_ulen3 (m : MethodId) (x0 : Addr) : entryFrame m #[(.ref x0)] 1 = mkF m 0 #[.val (.ref x0)] [] := by first | (simp [entryFrame, mkF, argsToLocals, Value.category]; done) | rfl
def Q_rm_ulen3 (Z : State) (b : Addr) (kb : ClassId) (c0 : Int32) (c1 : Int32) (c2 : Int32) (h0 : Heap) (n0 : Nat) (v : Option Value) (h : Heap) (L : List Loc) : Prop := v = some (.int (3 : Int32)) ∧ Fr n0 L ∧ h = h0
set_option maxRecDepth 65536 in
set_option maxHeartbeats 40000000 in
theorem rm_ulen3 (l : Launch) (Z : State) (a0 : Array Value) (hw : ∀ d ∈ tables_1, d.before a0 Z = true) (ws : List Jvm.Cond) (b : Addr) (kb : ClassId) (c0 : Int32) (c1 : Int32) (c2 : Int32) (h0 : Heap) (n0 : Nat) (Z0 : n0 ≤ h0.size) (V_b : Arv Z h0 b kb .byte (6 : Int32) [(.int (c0 >>> ((0 : Int32) &&& 31)).toInt8.toInt32), (.int (c0 >>> ((8 : Int32) &&& 31)).toInt8.toInt32), (.int (c1 >>> ((0 : Int32) &&& 31)).toInt8.toInt32), (.int (c1 >>> ((8 : Int32) &&& 31)).toInt8.toInt32), (.int (c2 >>> ((0 : Int32) &&& 31)).toInt8.toInt32), (.int (c2 >>> ((8 : Int32) &&& 31)).toInt8.toInt32)] (.int (0 : Int32))) :
    Met l Z M26 jdk_52_method_6_code 1 (some .int) ws (Rm 0 0 0 0) #[(.ref b)] h0 (Q_rm_ulen3 Z b kb c0 c1 c2 h0 n0) := by
  refine met_of (plainFor_of_name pn_java_lang_StringUTF16) (own := "java/lang/StringUTF16") rfl (fun m => ef_rm_ulen3 m b) ?_
  intro p e s m below meth c s₁ hx hby hml hown hnm hZ X0 e0 hret hlk
  have N0 := Fr.nil n0
  show Goes p e below s _ _ _ (s₁.setTop (mkF m 0 #[.val (.ref b)] []))
  refine Goes.pre (U' := s₁.setTop (mkF m 1 #[.val (.ref b)] [(.ref b)])) (fun t k => XS.aloadN X0.here hx rfl (hb hby d26_0) rfl rfl k) ?_
  obtain ⟨cl1, Ar1, q1, Sz1, Ng1, -, -⟩ := id V_b
  have ln1 := len_of Sz1 Ng1
  refine Goes.pre (U' := s₁.setTop (mkF m 4 #[.val (.ref b)] [(.int ((6 : Int32) >>> ((1 : Int32) &&& 31)))])) (fun t k => X0.arraylength hx (by rw [e0]; exact Ar1.1) (State.isArrayOf_alike hZ.alike Ar1.2.1) (g := (mkF m 1 #[.val (.ref b)] [(.ref b)])) rfl rfl (hb hby d26_1) _ (by rw [ln1]; exact (XS.iconst X0.here hx rfl (hb hby d26_2) (XS.ishr X0.here hx rfl (hb hby d26_3) rfl k)))) ?_
  rw [(by decide : ((6 : Int32) >>> ((1 : Int32) &&& 31)) = (3 : Int32))]
  refine Goes.ret X0 (v := (some (.int (3 : Int32)))) (fun h => by rw [hret] at h; cases h) hlk (by decide) (by decide) e0 (fun fs hr => retI X0 hx hret (hb hby d26_4) hr) ?_
  exact ⟨rfl, N0, rfl⟩
theorem ef_rm_l1ch30 (m : MethodId) (x0 : Addr) (x1 : Int32) : entryFrame m #[(.ref x0), (.int x1)] 2 = mkF m 0 #[.val (.ref x0), .val (.int x1)] [] := by first | (simp [entryFrame, mkF, argsToLocals, Value.category]; done) | rfl
def Q_rm_l1ch30 (Z : State) (b : Addr) (kb : ClassId) (c0 : Int32) (c1 : Int32) (c2 : Int32) (sf : Value) (h0 : Heap) (n0 : Nat) (v : Option Value) (h : Heap) (L : List Loc) : Prop := v = some (.int c0) ∧ Fr n0 L ∧ h = h0
set_option maxRecDepth 65536 in
set_option maxHeartbeats 40000000 in
theorem rm_l1ch30 (l : Launch) (Z : State) (a0 : Array Value) (hw : ∀ d ∈ tables_1, d.before a0 Z = true) (ws : List Jvm.Cond) (b : Addr) (kb : ClassId) (c0 : Int32) (c1 : Int32) (c2 : Int32) (sf : Value) (h0 : Heap) (n0 : Nat) (Z0 : n0 ≤ h0.size) (V_b : Arv Z h0 b kb .byte (3 : Int32) [(.int c0.toInt8.toInt32), (.int c1.toInt8.toInt32), (.int c2.toInt8.toInt32)] (.int (0 : Int32))) (S_SIOOBE_FORMATTER : Sta Z Z.heap "jdk/internal/util/Preconditions" "SIOOBE_FORMATTER" "Ljava/util/function/BiFunction;" sf) (hch : OwnCh c0) (hle : ¬ ((255 : Int32) < c0)) (hsf : sf.isRef = true) (O : Old Z n0 h0) :
    Met l Z M15 jdk_43_method_2_code 2 (some .char) ws (Rm 2 0 0 27) #[(.ref b), (.int (0 : Int32))] h0 (Q_rm_l1ch30 Z b kb c0 c1 c2 sf h0 n0) := by
  refine met_of (plainFor_of_name pn_java_lang_StringLatin1) (own := "java/lang/StringLatin1") rfl (fun m => ef_rm_l1ch30 m b (0 : Int32)) ?_
  intro p e s m below meth c s₁ hx hby hml hown hnm hZ X0 e0 hret hlk
  have N0 := Fr.nil n0
  show Goes p e below s _ _ _ (s₁.setTop (mkF m 0 #[.val (.ref b), .val (.int (0 : Int32))] []))
  refine Goes.pre (U' := s₁.setTop (mkF m 2 #[.val (.ref b), .val (.int (0 : Int32))] [(.ref b), (.int (0 : Int32))])) (fun t k => XS.iloadN X0.here hx rfl (hb hby d15_0) rfl (XS.aloadN X0.here hx rfl (hb hby d15_1) rfl rfl k)) ?_
  obtain ⟨cl1, Ar1, q1, Sz1, Ng1, -, -⟩ := id V_b
  have ln1 := len_of Sz1 Ng1
  refine Goes.pre (U' := s₁.setTop (mkF m 3 #[.val (.ref b), .val (.int (0 : Int32))] [(.int (3 : Int32)), (.int (0 : Int32))])) (fun t k => X0.arraylength hx (by rw [e0]; exact Ar1.1) (State.isArrayOf_alike hZ.alike Ar1.2.1) (g := (mkF m 2 #[.val (.ref b), .val (.int (0 : Int32))] [(.ref b), (.int (0 : Int32))])) rfl rfl (hb hby d15_2) _ (by rw [ln1]; exact k)) ?_
  obtain ⟨_, _, ⟨T2, L2, k2, n2⟩, -, X2, ⟨Lc2, hQ2, l2, y2, z2⟩, st2⟩ := Jvm.LawKit.callS X0 hx (y := (⟨"java/lang/String", "checkIndex", "(II)V"⟩ : MethodName)) hown (mvT hZ (wq hw 79 rfl)) (mvT hZ (wq hw 80 rfl)) (mvT hZ (wq hw 10 rfl)) (mvT hZ (wq hw 81 rfl)) (by decide) (backOf (W := 0) (rm_sIdx l Z a0 hw [] (0 : Int32) (3 : Int32) sf h0 n0 Z0 S_SIOOBE_FORMATTER (by decide) (by decide) hsf O) hZ (wq hw 81 rfl) (wq hw 10 rfl) (by decide) (by decide)) (g := (mkF m 3 #[.val (.ref b), .val (.int (0 : Int32))] [(.int (3 : Int32)), (.int (0 : Int32))])) rfl (by rw [hml]; rfl) (argsL := [(.int (0 : Int32)), (.int (3 : Int32))]) (rest := []) (lenOf pd__28II_29V rfl) rfl (by show 2 * 0 + _ ≤ _; exact Nat.le_of_eq rfl) (hb hby d15_3) (fun _ _ => ⟨rfl, e0, (by decide : 0 + 0 ≤ _), (by decide : 0 + 0 ≤ _)⟩)
  dsimp only [Pt.U, Pt.locs, Pt.cells, Pt.slots] at X2 l2 y2 z2 st2 hQ2
  subst l2 y2 z2
  obtain ⟨rfl, N2q, HQ2⟩ := hQ2
  have N2 := Fr.app N0 N2q
  refine Goes.pre (U' := T2.setTop (mkF m 8 #[.val (.ref b), .val (.int (0 : Int32))] [(.int (0 : Int32)), (.ref b)])) (fun t k => st2 t (XS.aloadN X2.here hx rfl (hb hby d15_6) rfl rfl (XS.iloadN X2.here hx rfl (hb hby d15_7) rfl k))) ?_
  obtain ⟨cl3, Ar3, q3, Sz3, Ng3, Hs3, Ft3⟩ := id V_b
  have hin3 := inb_of (j := (0 : Int32)) Sz3 ⟨by decide, by decide⟩
  refine Goes.pre (U' := T2.setTop (mkF m 14 #[.val (.ref b), .val (.int (0 : Int32))] [(.int ((c0.toInt8.toInt32 &&& (255 : Int32)).toUInt32.toUInt16.toUInt32.toInt32))])) (fun t k => X2.baloadBytes hx (j := (0 : Int32)) (v := (.int c0.toInt8.toInt32)) (by rw [HQ2]; exact Ar3.1) (State.isArrayOf_alike hZ.alike Ar3.2.1) Ar3.2.2 hin3 (Has.at Hs3 hin3 rfl) (g := (mkF m 8 #[.val (.ref b), .val (.int (0 : Int32))] [(.int (0 : Int32)), (.ref b)])) rfl rfl (hb hby d15_8) _ (XS.sipush X2.here hx rfl (hb hby d15_9) (XS.iand X2.here hx rfl (hb hby d15_12) rfl (XS.i2c X2.here hx rfl (hb hby d15_13) rfl k)))) ?_
  refine Goes.ret X2 (v := (some (.int c0))) (fun h => by rw [hret] at h; cases h) hlk (by decide) (by decide) HQ2 (fun fs hr => retN X2 hx (t := .char) hret (by simp) (hb hby d15_14) (by rw [show nar .char ((c0.toInt8.toInt32 &&& (255 : Int32)).toUInt32.toUInt16.toUInt32.toInt32) = c0 from own_l1 _ hch hle]; exact hr)) ?_
  exact ⟨rfl, N2, rfl⟩
theorem ef_rm_uIdx30 (m : MethodId) (x0 : Int32) (x1 : Addr) : entryFrame m #[(.int x0), (.ref x1)] 2 = mkF m 0 #[.val (.int x0), .val (.ref x1)] [] := by first | (simp [entryFrame, mkF, argsToLocals, Value.category]; done) | rfl
def Q_rm_uIdx30 (Z : State) (b : Addr) (kb : ClassId) (c0 : Int32) (c1 : Int32) (c2 : Int32) (sf : Value) (h0 : Heap) (n0 : Nat) (v : Option Value) (h : Heap) (L : List Loc) : Prop := v = none ∧ Fr n0 L ∧ h = h0
set_option maxRecDepth 65536 in
set_option maxHeartbeats 40000000 in
theorem rm_uIdx30 (l : Launch) (Z : State) (a0 : Array Value) (hw : ∀ d ∈ tables_1, d.before a0 Z = true) (ws : List Jvm.Cond) (b : Addr) (kb : ClassId) (c0 : Int32) (c1 : Int32) (c2 : Int32) (sf : Value) (h0 : Heap) (n0 : Nat) (Z0 : n0 ≤ h0.size) (V_b : Arv Z h0 b kb .byte (6 : Int32) [(.int (c0 >>> ((0 : Int32) &&& 31)).toInt8.toInt32), (.int (c0 >>> ((8 : Int32) &&& 31)).toInt8.toInt32), (.int (c1 >>> ((0 : Int32) &&& 31)).toInt8.toInt32), (.int (c1 >>> ((8 : Int32) &&& 31)).toInt8.toInt32), (.int (c2 >>> ((0 : Int32) &&& 31)).toInt8.toInt32), (.int (c2 >>> ((8 : Int32) &&& 31)).toInt8.toInt32)] (.int (0 : Int32))) (S_SIOOBE_FORMATTER : Sta Z Z.heap "jdk/internal/util/Preconditions" "SIOOBE_FORMATTER" "Ljava/util/function/BiFunction;" sf) (hsf : sf.isRef = true) (O : Old Z n0 h0) :
    Met l Z M25 jdk_52_method_91_code 2 none ws (Rm 2 0 0 27) #[(.int (0 : Int32)), (.ref b)] h0 (Q_rm_uIdx30 Z b kb c0 c1 c2 sf h0 n0) := by
  refine met_of (plainFor_of_name pn_java_lang_StringUTF16) (own := "java/lang/StringUTF16") rfl (fun m => ef_rm_uIdx30 m (0 : Int32) b) ?_
  intro p e s m below meth c s₁ hx hby hml hown hnm hZ X0 e0 hret hlk
  have N0 := Fr.nil n0
  show Goes p e below s _ _ _ (s₁.setTop (mkF m 0 #[.val (.int (0 : Int32)), .val (.ref b)] []))
  refine Goes.pre (U' := s₁.setTop (mkF m 2 #[.val (.int (0 : Int32)), .val (.ref b)] [(.ref b), (.int (0 : Int32))])) (fun t k => XS.iloadN X0.here hx rfl (hb hby d25_0) rfl (XS.aloadN X0.here hx rfl (hb hby d25_1) rfl rfl k)) ?_
  obtain ⟨_, _, ⟨T1, L1, k1, n1⟩, -, X1, ⟨Lc1, hQ1, l1, y1, z1⟩, st1⟩ := Jvm.LawKit.callS X0 hx (y := (⟨"java/lang/StringUTF16", "length", "([B)I"⟩ : MethodName)) hown (mvT hZ (wq hw 115 rfl)) (mvT hZ (wq hw 116 rfl)) (mvT hZ (wq hw 51 rfl)) (mvT hZ (wq hw 117 rfl)) (by decide) (backOf (W := 1) (rm_ulen3 l Z a0 hw [] b kb c0 c1 c2 h0 n0 Z0 V_b) hZ (wq hw 117 rfl) (wq hw 51 rfl) (by decide) (by decide)) (g := (mkF m 2 #[.val (.int (0 : Int32)), .val (.ref b)] [(.ref b), (.int (0 : Int32))])) rfl (by rw [hml]; rfl) (argsL := [(.ref b)]) (rest := [(.int (0 : Int32))]) (lenOf pd__28_5bB_29I rfl) rfl (by show 2 * 0 + _ ≤ _; exact Nat.le_of_eq rfl) (hb hby d25_2) (fun _ _ => ⟨rfl, e0, (by decide : 0 + 0 ≤ _), (by decide : 0 + 0 ≤ _)⟩)
  dsimp only [Pt.U, Pt.locs, Pt.cells, Pt.slots] at X1 l1 y1 z1 st1 hQ1
  subst l1 y1 z1
  obtain ⟨rfl, N1q, HQ1⟩ := hQ1
  have N1 := Fr.app N0 N1q
  refine Goes.pre (U' := T1.setTop (mkF m 5 #[.val (.int (0 : Int32)), .val (.ref b)] [(.int (3 : Int32)), (.int (0 : Int32))])) (fun t k => st1 t k) ?_
  obtain ⟨_, _, ⟨T2, L2, k2, n2⟩, -, X2, ⟨Lc2, hQ2, l2, y2, z2⟩, st2⟩ := Jvm.LawKit.callS X1 hx (y := (⟨"java/lang/String", "checkIndex", "(II)V"⟩ : MethodName)) hown (mvT hZ (wq hw 118 rfl)) (mvT hZ (wq hw 80 rfl)) (mvT hZ (wq hw 10 rfl)) (mvT hZ (wq hw 81 rfl)) (by decide) (backOf (W := 0) (rm_sIdx l Z a0 hw [] (0 : Int32) (3 : Int32) sf h0 n0 Z0 S_SIOOBE_FORMATTER (by decide) (by decide) hsf O) hZ (wq hw 81 rfl) (wq hw 10 rfl) (by decide) (by decide)) (g := (mkF m 5 #[.val (.int (0 : Int32)), .val (.ref b)] [(.int (3 : Int32)), (.int (0 : Int32))])) rfl (by rw [hml]; rfl) (argsL := [(.int (0 : Int32)), (.int (3 : Int32))]) (rest := []) (lenOf pd__28II_29V rfl) rfl (by show 2 * 0 + _ ≤ _; exact Nat.le_of_eq rfl) (hb hby d25_5) (fun _ _ => ⟨rfl, HQ1, (by decide : 0 + 0 ≤ _), (by decide : 0 + 0 ≤ _)⟩)
  dsimp only [Pt.U, Pt.locs, Pt.cells, Pt.slots] at X2 l2 y2 z2 st2 hQ2
  subst l2 y2 z2
  obtain ⟨rfl, N2q, HQ2⟩ := hQ2
  have N2 := Fr.app N1 N2q
  refine Goes.pre (U' := T2.setTop (mkF m 8 #[.val (.int (0 : Int32)), .val (.ref b)] [])) (fun t k => st2 t k) ?_
  refine Goes.ret X2 (v := none) (fun _ => rfl) hlk (by decide) (by decide) HQ2 (fun fs hr => X2.returnOut hx hret (hb hby d25_8) hr) ?_
  exact ⟨rfl, N2, rfl⟩
theorem ef_rm_getCh30 (m : MethodId) (x0 : Addr) (x1 : Int32) : entryFrame m #[(.ref x0), (.int x1)] 2 = mkF m 0 #[.val (.ref x0), .val (.int x1)] [] := by first | (simp [entryFrame, mkF, argsToLocals, Value.category]; done) | rfl
def Q_rm_getCh30 (Z : State) (b : Addr) (kb : ClassId) (c0 : Int32) (c1 : Int32) (c2 : Int32) (h0 : Heap) (n0 : Nat) (v : Option Value) (h : Heap) (L : List Loc) : Prop := v = some (.int c0) ∧ Fr n0 L ∧ h = h0
set_option maxRecDepth 65536 in
set_option maxHeartbeats 40000000 in
theorem rm_getCh30 (l : Launch) (Z : State) (a0 : Array Value) (hw : ∀ d ∈ tables_1, d.before a0 Z = true) (ws : List Jvm.Cond) (b : Addr) (kb : ClassId) (c0 : Int32) (c1 : Int32) (c2 : Int32) (h0 : Heap) (n0 : Nat) (Z0 : n0 ≤ h0.size) (V_b : Arv Z h0 b kb .byte (6 : Int32) [(.int (c0 >>> ((0 : Int32) &&& 31)).toInt8.toInt32), (.int (c0 >>> ((8 : Int32) &&& 31)).toInt8.toInt32), (.int (c1 >>> ((0 : Int32) &&& 31)).toInt8.toInt32), (.int (c1 >>> ((8 : Int32) &&& 31)).toInt8.toInt32), (.int (c2 >>> ((0 : Int32) &&& 31)).toInt8.toInt32), (.int (c2 >>> ((8 : Int32) &&& 31)).toInt8.toInt32)] (.int (0 : Int32))) (S__assertionsDisabled : Sta Z Z.heap "java/lang/StringUTF16" "$assertionsDisabled" "Z" (.int (1 : Int32))) (S_HI_BYTE_SHIFT : Sta Z Z.heap "java/lang/StringUTF16" "HI_BYTE_SHIFT" "I" (.int (0 : Int32))) (S_LO_BYTE_SHIFT : Sta Z Z.heap "java/lang/StringUTF16" "LO_BYTE_SHIFT" "I" (.int (8 : Int32))) (hch : OwnCh c0) (O : Old Z n0 h0) :
    Met l Z M23 jdk_52_method_5_code 2 (some .char) ws (Rm 0 0 0 0) #[(.ref b), (.int (0 : Int32))] h0 (Q_rm_getCh30 Z b kb c0 c1 c2 h0 n0) := by
  refine met_of (plainFor_of_name pn_java_lang_StringUTF16) (own := "java/lang/StringUTF16") rfl (fun m => ef_rm_getCh30 m b (0 : Int32)) ?_
  intro p e s m below meth c s₁ hx hby hml hown hnm hZ X0 e0 hret hlk
  have N0 := Fr.nil n0
  show Goes p e below s _ _ _ (s₁.setTop (mkF m 0 #[.val (.ref b), .val (.int (0 : Int32))] []))
  obtain ⟨T1, X1, e1, st1⟩ := getS2 X0 hx hZ hown (host := "") (Or.inl (wq hw 103 rfl)) Via.refl e0 (S__assertionsDisabled.ext O.2) (g := (mkF m 0 #[.val (.ref b), .val (.int (0 : Int32))] [])) rfl (hb hby d23_0)
  refine Goes.pre (U' := T1.setTop (mkF m 3 #[.val (.ref b), .val (.int (0 : Int32))] [(.int (1 : Int32))])) (fun t k => st1 t k) ?_
  have hc3 : ¬ ((1 : Int32) = (0 : Int32)) := by decide
  refine Goes.pre (U' := T1.setTop (mkF m 31 #[.val (.ref b), .val (.int (0 : Int32))] [(.int ((0 : Int32) <<< ((1 : Int32) &&& 31)))])) (fun t k => XS.ifYes X1.here hx rfl (pc0 := 3) (pc' := 28) rfl (hb hby d23_3) rfl ((if0 _ _).trans (feq hc3).2) (by decide) (by decide) (XS.iloadN X1.here hx rfl (hb hby d23_28) rfl (XS.iconst X1.here hx rfl (hb hby d23_29) (XS.ishl X1.here hx rfl (hb hby d23_30) rfl k)))) ?_
  rw [(by decide : ((0 : Int32) <<< ((1 : Int32) &&& 31)) = (0 : Int32))]
  refine Goes.pre (U' := T1.setTop (mkF m 37 #[.val (.ref b), .val (.int ((0 : Int32) + (1 : Int32)))] [(.int (0 : Int32)), (.ref b)])) (fun t k => XS.istoreN X1.here hx rfl (hb hby d23_31) rfl (l' := #[.val (.ref b), .val (.int (0 : Int32))]) rfl (XS.aloadN X1.here hx rfl (hb hby d23_32) rfl rfl (XS.iloadN X1.here hx rfl (hb hby d23_33) rfl (XT.iincV X1.here hx rfl (1 : Int32) (hb hby d23_34) (by decide) rfl (l' := #[.val (.ref b), .val (.int ((0 : Int32) + (1 : Int32)))]) rfl k)))) ?_
  rw [(by decide : ((0 : Int32) + (1 : Int32)) = (1 : Int32))]
  obtain ⟨cl2, Ar2, q2, Sz2, Ng2, Hs2, Ft2⟩ := id V_b
  have hin2 := inb_of (j := (0 : Int32)) Sz2 ⟨by decide, by decide⟩
  refine Goes.pre (U' := T1.setTop (mkF m 42 #[.val (.ref b), .val (.int (1 : Int32))] [(.int ((c0 >>> ((0 : Int32) &&& 31)).toInt8.toInt32 &&& (255 : Int32)))])) (fun t k => X1.baloadBytes hx (j := (0 : Int32)) (v := (.int (c0 >>> ((0 : Int32) &&& 31)).toInt8.toInt32)) (by rw [e1]; exact Ar2.1) (State.isArrayOf_alike hZ.alike Ar2.2.1) Ar2.2.2 hin2 (Has.at Hs2 hin2 rfl) (g := (mkF m 37 #[.val (.ref b), .val (.int (1 : Int32))] [(.int (0 : Int32)), (.ref b)])) rfl rfl (hb hby d23_37) _ (XS.sipush X1.here hx rfl (hb hby d23_38) (XS.iand X1.here hx rfl (hb hby d23_41) rfl k))) ?_
  obtain ⟨T3, X3, e3, st3⟩ := getS2 X1 hx hZ hown (host := "") (Or.inl (wq hw 104 rfl)) Via.refl e1 (S_HI_BYTE_SHIFT.ext O.2) (g := (mkF m 42 #[.val (.ref b), .val (.int (1 : Int32))] [(.int ((c0 >>> ((0 : Int32) &&& 31)).toInt8.toInt32 &&& (255 : Int32)))])) rfl (hb hby d23_42)
  refine Goes.pre (U' := T3.setTop (mkF m 48 #[.val (.ref b), .val (.int (1 : Int32))] [(.int (1 : Int32)), (.ref b), (.int (((c0 >>> ((0 : Int32) &&& 31)).toInt8.toInt32 &&& (255 : Int32)) <<< ((0 : Int32) &&& 31)))])) (fun t k => st3 t (XS.ishl X3.here hx rfl (hb hby d23_45) rfl (XS.aloadN X3.here hx rfl (hb hby d23_46) rfl rfl (XS.iloadN X3.here hx rfl (hb hby d23_47) rfl k)))) ?_
  obtain ⟨cl4, Ar4, q4, Sz4, Ng4, Hs4, Ft4⟩ := id V_b
  have hin4 := inb_of (j := (1 : Int32)) Sz4 ⟨by decide, by decide⟩
  refine Goes.pre (U' := T3.setTop (mkF m 53 #[.val (.ref b), .val (.int (1 : Int32))] [(.int ((c0 >>> ((8 : Int32) &&& 31)).toInt8.toInt32 &&& (255 : Int32))), (.int (((c0 >>> ((0 : Int32) &&& 31)).toInt8.toInt32 &&& (255 : Int32)) <<< ((0 : Int32) &&& 31)))])) (fun t k => X3.baloadBytes hx (j := (1 : Int32)) (v := (.int (c0 >>> ((8 : Int32) &&& 31)).toInt8.toInt32)) (by rw [e3]; exact Ar4.1) (State.isArrayOf_alike hZ.alike Ar4.2.1) Ar4.2.2 hin4 (Has.at Hs4 hin4 rfl) (g := (mkF m 48 #[.val (.ref b), .val (.int (1 : Int32))] [(.int (1 : Int32)), (.ref b), (.int (((c0 >>> ((0 : Int32) &&& 31)).toInt8.toInt32 &&& (255 : Int32)) <<< ((0 : Int32) &&& 31)))])) rfl rfl (hb hby d23_48) _ (XS.sipush X3.here hx rfl (hb hby d23_49) (XS.iand X3.here hx rfl (hb hby d23_52) rfl k))) ?_
  obtain ⟨T5, X5, e5, st5⟩ := getS2 X3 hx hZ hown (host := "") (Or.inl (wq hw 105 rfl)) Via.refl e3 (S_LO_BYTE_SHIFT.ext O.2) (g := (mkF m 53 #[.val (.ref b), .val (.int (1 : Int32))] [(.int ((c0 >>> ((8 : Int32) &&& 31)).toInt8.toInt32 &&& (255 : Int32))), (.int (((c0 >>> ((0 : Int32) &&& 31)).toInt8.toInt32 &&& (255 : Int32)) <<< ((0 : Int32) &&& 31)))])) rfl (hb hby d23_53)
  refine Goes.pre (U' := T5.setTop (mkF m 59 #[.val (.ref b), .val (.int (1 : Int32))] [(.int (((((c0 >>> ((0 : Int32) &&& 31)).toInt8.toInt32 &&& (255 : Int32)) <<< ((0 : Int32) &&& 31)) ||| (((c0 >>> ((8 : Int32) &&& 31)).toInt8.toInt32 &&& (255 : Int32)) <<< ((8 : Int32) &&& 31))).toUInt32.toUInt16.toUInt32.toInt32))])) (fun t k => st5 t (XS.ishl X5.here hx rfl (hb hby d23_56) rfl (XS.ior X5.here hx rfl (hb hby d23_57) rfl (XS.i2c X5.here hx rfl (hb hby d23_58) rfl k)))) ?_
  refine Goes.ret X5 (v := (some (.int c0))) (fun h => by rw [hret] at h; cases h) hlk (by decide) (by decide) e5 (fun fs hr => retN X5 hx (t := .char) hret (by simp) (hb hby d23_59) (by rw [show nar .char (((((c0 >>> ((0 : Int32) &&& 31)).toInt8.toInt32 &&& (255 : Int32)) <<< ((0 : Int32) &&& 31)) ||| (((c0 >>> ((8 : Int32) &&& 31)).toInt8.toInt32 &&& (255 : Int32)) <<< ((8 : Int32) &&& 31))).toUInt32.toUInt16.toUInt32.toInt32) = c0 from own_u16 _ hch]; exact hr)) ?_
  exact ⟨rfl, N0, rfl⟩
theorem ef_rm_uch30 (m : MethodId) (x0 : Addr) (x1 : Int32) : entryFrame m #[(.ref x0), (.int x1)] 2 = mkF m 0 #[.val (.ref x0), .val (.int x1)] [] := by first | (simp [entryFrame, mkF, argsToLocals, Value.category]; done) | rfl
def Q_rm_uch30 (Z : State) (b : Addr) (kb : ClassId) (c0 : Int32) (c1 : Int32) (c2 : Int32) (sf : Value) (h0 : Heap) (n0 : Nat) (v : Option Value) (h : Heap) (L : List Loc) : Prop := v = some (.int c0) ∧ Fr n0 L ∧ h = h0
set_option maxRecDepth 65536 in
set_option maxHeartbeats 40000000 in
theorem rm_uch30 (l : Launch) (Z : State) (a0 : Array Value) (hw : ∀ d ∈ tables_1, d.before a0 Z = true) (ws : List Jvm.Cond) (b : Addr) (kb : ClassId) (c0 : Int32) (c1 : Int32) (c2 : Int32) (sf : Value) (h0 : Heap) (n0 : Nat) (Z0 : n0 ≤ h0.size) (V_b : Arv Z h0 b kb .byte (6 : Int32) [(.int (c0 >>> ((0 : Int32) &&& 31)).toInt8.toInt32), (.int (c0 >>> ((8 : Int32) &&& 31)).toInt8.toInt32), (.int (c1 >>> ((0 : Int32) &&& 31)).toInt8.toInt32), (.int (c1 >>> ((8 : Int32) &&& 31)).toInt8.toInt32), (.int (c2 >>> ((0 : Int32) &&& 31)).toInt8.toInt32), (.int (c2 >>> ((8 : Int32) &&& 31)).toInt8.toInt32)] (.int (0 : Int32))) (S__assertionsDisabled : Sta Z Z.heap "java/lang/StringUTF16" "$assertionsDisabled" "Z" (.int (1 : Int32))) (S_HI_BYTE_SHIFT : Sta Z Z.heap "java/lang/StringUTF16" "HI_BYTE_SHIFT" "I" (.int (0 : Int32))) (S_LO_BYTE_SHIFT : Sta Z Z.heap "java/lang/StringUTF16" "LO_BYTE_SHIFT" "I" (.int (8 : Int32))) (S_SIOOBE_FORMATTER : Sta Z Z.heap "jdk/internal/util/Preconditions" "SIOOBE_FORMATTER" "Ljava/util/function/BiFunction;" sf) (hch0 : OwnCh c0) (hsf : sf.isRef = true) (O : Old Z n0 h0) :
    Met l Z M24 jdk_52_method_83_code 2 (some .char) ws (Rm 3 0 0 40) #[(.ref b), (.int (0 : Int32))] h0 (Q_rm_uch30 Z b kb c0 c1 c2 sf h0 n0) := by
  refine met_of (plainFor_of_name pn_java_lang_StringUTF16) (own := "java/lang/StringUTF16") rfl (fun m => ef_rm_uch30 m b (0 : Int32)) ?_
  intro p e s m below meth c s₁ hx hby hml hown hnm hZ X0 e0 hret hlk
  have N0 := Fr.nil n0
  show Goes p e below s _ _ _ (s₁.setTop (mkF m 0 #[.val (.ref b), .val (.int (0 : Int32))] []))
  refine Goes.pre (U' := s₁.setTop (mkF m 2 #[.val (.ref b), .val (.int (0 : Int32))] [(.ref b), (.int (0 : Int32))])) (fun t k => XS.iloadN X0.here hx rfl (hb hby d24_0) rfl (XS.aloadN X0.here hx rfl (hb hby d24_1) rfl rfl k)) ?_
  obtain ⟨_, _, ⟨T1, L1, k1, n1⟩, -, X1, ⟨Lc1, hQ1, l1, y1, z1⟩, st1⟩ := Jvm.LawKit.callS X0 hx (y := (⟨"java/lang/StringUTF16", "checkIndex", "(I[B)V"⟩ : MethodName)) hown (mvT hZ (wq hw 112 rfl)) (mvT hZ (wq hw 113 rfl)) (mvT hZ (wq hw 51 rfl)) (mvT hZ (wq hw 114 rfl)) (by decide) (backOf (W := 0) (rm_uIdx30 l Z a0 hw [] b kb c0 c1 c2 sf h0 n0 Z0 V_b S_SIOOBE_FORMATTER hsf O) hZ (wq hw 114 rfl) (wq hw 51 rfl) (by decide) (by decide)) (g := (mkF m 2 #[.val (.ref b), .val (.int (0 : Int32))] [(.ref b), (.int (0 : Int32))])) rfl (by rw [hml]; rfl) (argsL := [(.int (0 : Int32)), (.ref b)]) (rest := []) (lenOf pd__28I_5bB_29V rfl) rfl (by show 2 * 0 + _ ≤ _; exact Nat.le_of_eq rfl) (hb hby d24_2) (fun _ _ => ⟨rfl, e0, (by decide : 0 + 0 ≤ _), (by decide : 0 + 0 ≤ _)⟩)
  dsimp only [Pt.U, Pt.locs, Pt.cells, Pt.slots] at X1 l1 y1 z1 st1 hQ1
  subst l1 y1 z1
  obtain ⟨rfl, N1q, HQ1⟩ := hQ1
  have N1 := Fr.app N0 N1q
  refine Goes.pre (U' := T1.setTop (mkF m 7 #[.val (.ref b), .val (.int (0 : Int32))] [(.int (0 : Int32)), (.ref b)])) (fun t k => st1 t (XS.aloadN X1.here hx rfl (hb hby d24_5) rfl rfl (XS.iloadN X1.here hx rfl (hb hby d24_6) rfl k))) ?_
  obtain ⟨_, _, ⟨T2, L2, k2, n2⟩, -, X2, ⟨Lc2, hQ2, l2, y2, z2⟩, st2⟩ := Jvm.LawKit.callS X1 hx (y := (⟨"java/lang/StringUTF16", "getChar", "([BI)C"⟩ : MethodName)) hown (mvT hZ (wq hw 106 rfl)) (mvT hZ (wq hw 107 rfl)) (mvT hZ (wq hw 51 rfl)) (mvT hZ (wq hw 108 rfl)) (by decide) (backOf (W := 0) (rm_getCh30 l Z a0 hw [] b kb c0 c1 c2 h0 n0 Z0 V_b S__assertionsDisabled S_HI_BYTE_SHIFT S_LO_BYTE_SHIFT hch0 O) hZ (wq hw 108 rfl) (wq hw 51 rfl) (by decide) (by decide)) (g := (mkF m 7 #[.val (.ref b), .val (.int (0 : Int32))] [(.int (0 : Int32)), (.ref b)])) rfl (by rw [hml]; rfl) (argsL := [(.ref b), (.int (0 : Int32))]) (rest := []) (lenOf pd__28_5bBI_29C rfl) rfl (by show 2 * 0 + _ ≤ _; exact Nat.le_of_eq rfl) (hb hby d24_7) (fun _ _ => ⟨rfl, HQ1, (by decide : 0 + 0 ≤ _), (by decide : 0 + 0 ≤ _)⟩)
  dsimp only [Pt.U, Pt.locs, Pt.cells, Pt.slots] at X2 l2 y2 z2 st2 hQ2
  subst l2 y2 z2
  obtain ⟨rfl, N2q, HQ2⟩ := hQ2
  have N2 := Fr.app N1 N2q
  refine Goes.pre (U' := T2.setTop (mkF m 10 #[.val (.ref b), .val (.int (0 : Int32))] [(.int c0)])) (fun t k => st2 t k) ?_
  refine Goes.ret X2 (v := (some (.int c0))) (fun h => by rw [hret] at h; cases h) hlk (by decide) (by decide) HQ2 (fun fs hr => retN X2 hx (t := .char) hret (by simp) (hb hby d24_10) (by rw [show nar .char c0 = c0 from own_nch _ hch0]; exact hr)) ?_
  exact ⟨rfl, N2, rfl⟩
theorem ef_rm_l1ch31 (m : MethodId) (x0 : Addr) (x1 : Int32) : entryFrame m #[(.ref x0), (.int x1)] 2 = mkF m 0 #[.val (.ref x0), .val (.int x1)] [] := by first | (simp [entryFrame, mkF, argsToLocals, Value.category]; done) | rfl
def Q_rm_l1ch31 (Z : State) (b : Addr) (kb : ClassId) (c0 : Int32) (c1 : Int32) (c2 : Int32) (sf : Value) (h0 : Heap) (n0 : Nat) (v : Option Value) (h : Heap) (L : List Loc) : Prop := v = some (.int c1) ∧ Fr n0 L ∧ h = h0
set_option maxRecDepth 65536 in
set_option maxHeartbeats 40000000 in
theorem rm_l1ch31 (l : Launch) (Z : State) (a0 : Array Value) (hw : ∀ d ∈ tables_1, d.before a0 Z = true) (ws : List Jvm.Cond) (b : Addr) (kb : ClassId) (c0 : Int32) (c1 : Int32) (c2 : Int32) (sf : Value) (h0 : Heap) (n0 : Nat) (Z0 : n0 ≤ h0.size) (V_b : Arv Z h0 b kb .byte (3 : Int32) [(.int c0.toInt8.toInt32), (.int c1.toInt8.toInt32), (.int c2.toInt8.toInt32)] (.int (0 : Int32))) (S_SIOOBE_FORMATTER : Sta Z Z.heap "jdk/internal/util/Preconditions" "SIOOBE_FORMATTER" "Ljava/util/function/BiFunction;" sf) (hch : OwnCh c1) (hle : ¬ ((255 : Int32) < c1)) (hsf : sf.isRef = true) (O : Old Z n0 h0) :
    Met l Z M15 jdk_43_method_2_code 2 (some .char) ws (Rm 2 0 0 27) #[(.ref b), (.int (1 : Int32))] h0 (Q_rm_l1ch31 Z b kb c0 c1 c2 sf h0 n0) := by
  refine met_of (plainFor_of_name pn_java_lang_StringLatin1) (own := "java/lang/StringLatin1") rfl (fun m => ef_rm_l1ch31 m b (1 : Int32)) ?_
  intro p e s m below meth c s₁ hx hby hml hown hnm hZ X0 e0 hret hlk
  have N0 := Fr.nil n0
  show Goes p e below s _ _ _ (s₁.setTop (mkF m 0 #[.val (.ref b), .val (.int (1 : Int32))] []))
  refine Goes.pre (U' := s₁.setTop (mkF m 2 #[.val (.ref b), .val (.int (1 : Int32))] [(.ref b), (.int (1 : Int32))])) (fun t k => XS.iloadN X0.here hx rfl (hb hby d15_0) rfl (XS.aloadN X0.here hx rfl (hb hby d15_1) rfl rfl k)) ?_
  obtain ⟨cl1, Ar1, q1, Sz1, Ng1, -, -⟩ := id V_b
  have ln1 := len_of Sz1 Ng1
  refine Goes.pre (U' := s₁.setTop (mkF m 3 #[.val (.ref b), .val (.int (1 : Int32))] [(.int (3 : Int32)), (.int (1 : Int32))])) (fun t k => X0.arraylength hx (by rw [e0]; exact Ar1.1) (State.isArrayOf_alike hZ.alike Ar1.2.1) (g := (mkF m 2 #[.val (.ref b), .val (.int (1 : Int32))] [(.ref b), (.int (1 : Int32))])) rfl rfl (hb hby d15_2) _ (by rw [ln1]; exact k)) ?_
  obtain ⟨_, _, ⟨T2, L2, k2, n2⟩, -, X2, ⟨Lc2, hQ2, l2, y2, z2⟩, st2⟩ := Jvm.LawKit.callS X0 hx (y := (⟨"java/lang/String", "checkIndex", "(II)V"⟩ : MethodName)) hown (mvT hZ (wq hw 79 rfl)) (mvT hZ (wq hw 80 rfl)) (mvT hZ (wq hw 10 rfl)) (mvT hZ (wq hw 81 rfl)) (by decide) (backOf (W := 0) (rm_sIdx l Z a0 hw [] (1 : Int32) (3 : Int32) sf h0 n0 Z0 S_SIOOBE_FORMATTER (by decide) (by decide) hsf O) hZ (wq hw 81 rfl) (wq hw 10 rfl) (by decide) (by decide)) (g := (mkF m 3 #[.val (.ref b), .val (.int (1 : Int32))] [(.int (3 : Int32)), (.int (1 : Int32))])) rfl (by rw [hml]; rfl) (argsL := [(.int (1 : Int32)), (.int (3 : Int32))]) (rest := []) (lenOf pd__28II_29V rfl) rfl (by show 2 * 0 + _ ≤ _; exact Nat.le_of_eq rfl) (hb hby d15_3) (fun _ _ => ⟨rfl, e0, (by decide : 0 + 0 ≤ _), (by decide : 0 + 0 ≤ _)⟩)
  dsimp only [Pt.U, Pt.locs, Pt.cells, Pt.slots] at X2 l2 y2 z2 st2 hQ2
  subst l2 y2 z2
  obtain ⟨rfl, N2q, HQ2⟩ := hQ2
  have N2 := Fr.app N0 N2q
  refine Goes.pre (U' := T2.setTop (mkF m 8 #[.val (.ref b), .val (.int (1 : Int32))] [(.int (1 : Int32)), (.ref b)])) (fun t k => st2 t (XS.aloadN X2.here hx rfl (hb hby d15_6) rfl rfl (XS.iloadN X2.here hx rfl (hb hby d15_7) rfl k))) ?_
  obtain ⟨cl3, Ar3, q3, Sz3, Ng3, Hs3, Ft3⟩ := id V_b
  have hin3 := inb_of (j := (1 : Int32)) Sz3 ⟨by decide, by decide⟩
  refine Goes.pre (U' := T2.setTop (mkF m 14 #[.val (.ref b), .val (.int (1 : Int32))] [(.int ((c1.toInt8.toInt32 &&& (255 : Int32)).toUInt32.toUInt16.toUInt32.toInt32))])) (fun t k => X2.baloadBytes hx (j := (1 : Int32)) (v := (.int c1.toInt8.toInt32)) (by rw [HQ2]; exact Ar3.1) (State.isArrayOf_alike hZ.alike Ar3.2.1) Ar3.2.2 hin3 (Has.at Hs3 hin3 rfl) (g := (mkF m 8 #[.val (.ref b), .val (.int (1 : Int32))] [(.int (1 : Int32)), (.ref b)])) rfl rfl (hb hby d15_8) _ (XS.sipush X2.here hx rfl (hb hby d15_9) (XS.iand X2.here hx rfl (hb hby d15_12) rfl (XS.i2c X2.here hx rfl (hb hby d15_13) rfl k)))) ?_
  refine Goes.ret X2 (v := (some (.int c1))) (fun h => by rw [hret] at h; cases h) hlk (by decide) (by decide) HQ2 (fun fs hr => retN X2 hx (t := .char) hret (by simp) (hb hby d15_14) (by rw [show nar .char ((c1.toInt8.toInt32 &&& (255 : Int32)).toUInt32.toUInt16.toUInt32.toInt32) = c1 from own_l1 _ hch hle]; exact hr)) ?_
  exact ⟨rfl, N2, rfl⟩
theorem ef_rm_uIdx31 (m : MethodId) (x0 : Int32) (x1 : Addr) : entryFrame m #[(.int x0), (.ref x1)] 2 = mkF m 0 #[.val (.int x0), .val (.ref x1)] [] := by first | (simp [entryFrame, mkF, argsToLocals, Value.category]; done) | rfl
def Q_rm_uIdx31 (Z : State) (b : Addr) (kb : ClassId) (c0 : Int32) (c1 : Int32) (c2 : Int32) (sf : Value) (h0 : Heap) (n0 : Nat) (v : Option Value) (h : Heap) (L : List Loc) : Prop := v = none ∧ Fr n0 L ∧ h = h0
set_option maxRecDepth 65536 in
set_option maxHeartbeats 40000000 in
theorem rm_uIdx31 (l : Launch) (Z : State) (a0 : Array Value) (hw : ∀ d ∈ tables_1, d.before a0 Z = true) (ws : List Jvm.Cond) (b : Addr) (kb : ClassId) (c0 : Int32) (c1 : Int32) (c2 : Int32) (sf : Value) (h0 : Heap) (n0 : Nat) (Z0 : n0 ≤ h0.size) (V_b : Arv Z h0 b kb .byte (6 : Int32) [(.int (c0 >>> ((0 : Int32) &&& 31)).toInt8.toInt32), (.int (c0 >>> ((8 : Int32) &&& 31)).toInt8.toInt32), (.int (c1 >>> ((0 : Int32) &&& 31)).toInt8.toInt32), (.int (c1 >>> ((8 : Int32) &&& 31)).toInt8.toInt32), (.int (c2 >>> ((0 : Int32) &&& 31)).toInt8.toInt32), (.int (c2 >>> ((8 : Int32) &&& 31)).toInt8.toInt32)] (.int (0 : Int32))) (S_SIOOBE_FORMATTER : Sta Z Z.heap "jdk/internal/util/Preconditions" "SIOOBE_FORMATTER" "Ljava/util/function/BiFunction;" sf) (hsf : sf.isRef = true) (O : Old Z n0 h0) :
    Met l Z M25 jdk_52_method_91_code 2 none ws (Rm 2 0 0 27) #[(.int (1 : Int32)), (.ref b)] h0 (Q_rm_uIdx31 Z b kb c0 c1 c2 sf h0 n0) := by
  refine met_of (plainFor_of_name pn_java_lang_StringUTF16) (own := "java/lang/StringUTF16") rfl (fun m => ef_rm_uIdx31 m (1 : Int32) b) ?_
  intro p e s m below meth c s₁ hx hby hml hown hnm hZ X0 e0 hret hlk
  have N0 := Fr.nil n0
  show Goes p e below s _ _ _ (s₁.setTop (mkF m 0 #[.val (.int (1 : Int32)), .val (.ref b)] []))
  refine Goes.pre (U' := s₁.setTop (mkF m 2 #[.val (.int (1 : Int32)), .val (.ref b)] [(.ref b), (.int (1 : Int32))])) (fun t k => XS.iloadN X0.here hx rfl (hb hby d25_0) rfl (XS.aloadN X0.here hx rfl (hb hby d25_1) rfl rfl k)) ?_
  obtain ⟨_, _, ⟨T1, L1, k1, n1⟩, -, X1, ⟨Lc1, hQ1, l1, y1, z1⟩, st1⟩ := Jvm.LawKit.callS X0 hx (y := (⟨"java/lang/StringUTF16", "length", "([B)I"⟩ : MethodName)) hown (mvT hZ (wq hw 115 rfl)) (mvT hZ (wq hw 116 rfl)) (mvT hZ (wq hw 51 rfl)) (mvT hZ (wq hw 117 rfl)) (by decide) (backOf (W := 1) (rm_ulen3 l Z a0 hw [] b kb c0 c1 c2 h0 n0 Z0 V_b) hZ (wq hw 117 rfl) (wq hw 51 rfl) (by decide) (by decide)) (g := (mkF m 2 #[.val (.int (1 : Int32)), .val (.ref b)] [(.ref b), (.int (1 : Int32))])) rfl (by rw [hml]; rfl) (argsL := [(.ref b)]) (rest := [(.int (1 : Int32))]) (lenOf pd__28_5bB_29I rfl) rfl (by show 2 * 0 + _ ≤ _; exact Nat.le_of_eq rfl) (hb hby d25_2) (fun _ _ => ⟨rfl, e0, (by decide : 0 + 0 ≤ _), (by decide : 0 + 0 ≤ _)⟩)
  dsimp only [Pt.U, Pt.locs, Pt.cells, Pt.slots] at X1 l1 y1 z1 st1 hQ1
  subst l1 y1 z1
  obtain ⟨rfl, N1q, HQ1⟩ := hQ1
  have N1 := Fr.app N0 N1q
  refine Goes.pre (U' := T1.setTop (mkF m 5 #[.val (.int (1 : Int32)), .val (.ref b)] [(.int (3 : Int32)), (.int (1 : Int32))])) (fun t k => st1 t k) ?_
  obtain ⟨_, _, ⟨T2, L2, k2, n2⟩, -, X2, ⟨Lc2, hQ2, l2, y2, z2⟩, st2⟩ := Jvm.LawKit.callS X1 hx (y := (⟨"java/lang/String", "checkIndex", "(II)V"⟩ : MethodName)) hown (mvT hZ (wq hw 118 rfl)) (mvT hZ (wq hw 80 rfl)) (mvT hZ (wq hw 10 rfl)) (mvT hZ (wq hw 81 rfl)) (by decide) (backOf (W := 0) (rm_sIdx l Z a0 hw [] (1 : Int32) (3 : Int32) sf h0 n0 Z0 S_SIOOBE_FORMATTER (by decide) (by decide) hsf O) hZ (wq hw 81 rfl) (wq hw 10 rfl) (by decide) (by decide)) (g := (mkF m 5 #[.val (.int (1 : Int32)), .val (.ref b)] [(.int (3 : Int32)), (.int (1 : Int32))])) rfl (by rw [hml]; rfl) (argsL := [(.int (1 : Int32)), (.int (3 : Int32))]) (rest := []) (lenOf pd__28II_29V rfl) rfl (by show 2 * 0 + _ ≤ _; exact Nat.le_of_eq rfl) (hb hby d25_5) (fun _ _ => ⟨rfl, HQ1, (by decide : 0 + 0 ≤ _), (by decide : 0 + 0 ≤ _)⟩)
  dsimp only [Pt.U, Pt.locs, Pt.cells, Pt.slots] at X2 l2 y2 z2 st2 hQ2
  subst l2 y2 z2
  obtain ⟨rfl, N2q, HQ2⟩ := hQ2
  have N2 := Fr.app N1 N2q
  refine Goes.pre (U' := T2.setTop (mkF m 8 #[.val (.int (1 : Int32)), .val (.ref b)] [])) (fun t k => st2 t k) ?_
  refine Goes.ret X2 (v := none) (fun _ => rfl) hlk (by decide) (by decide) HQ2 (fun fs hr => X2.returnOut hx hret (hb hby d25_8) hr) ?_
  exact ⟨rfl, N2, rfl⟩
theorem ef_rm_getCh31 (m : MethodId) (x0 : Addr) (x1 : Int32) : entryFrame m #[(.ref x0), (.int x1)] 2 = mkF m 0 #[.val (.ref x0), .val (.int x1)] [] := by first | (simp [entryFrame, mkF, argsToLocals, Value.category]; done) | rfl
def Q_rm_getCh31 (Z : State) (b : Addr) (kb : ClassId) (c0 : Int32) (c1 : Int32) (c2 : Int32) (h0 : Heap) (n0 : Nat) (v : Option Value) (h : Heap) (L : List Loc) : Prop := v = some (.int c1) ∧ Fr n0 L ∧ h = h0
set_option maxRecDepth 65536 in
set_option maxHeartbeats 40000000 in
theorem rm_getCh31 (l : Launch) (Z : State) (a0 : Array Value) (hw : ∀ d ∈ tables_1, d.before a0 Z = true) (ws : List Jvm.Cond) (b : Addr) (kb : ClassId) (c0 : Int32) (c1 : Int32) (c2 : Int32) (h0 : Heap) (n0 : Nat) (Z0 : n0 ≤ h0.size) (V_b : Arv Z h0 b kb .byte (6 : Int32) [(.int (c0 >>> ((0 : Int32) &&& 31)).toInt8.toInt32), (.int (c0 >>> ((8 : Int32) &&& 31)).toInt8.toInt32), (.int (c1 >>> ((0 : Int32) &&& 31)).toInt8.toInt32), (.int (c1 >>> ((8 : Int32) &&& 31)).toInt8.toInt32), (.int (c2 >>> ((0 : Int32) &&& 31)).toInt8.toInt32), (.int (c2 >>> ((8 : Int32) &&& 31)).toInt8.toInt32)] (.int (0 : Int32))) (S__assertionsDisabled : Sta Z Z.heap "java/lang/StringUTF16" "$assertionsDisabled" "Z" (.int (1 : Int32))) (S_HI_BYTE_SHIFT : Sta Z Z.heap "java/lang/StringUTF16" "HI_BYTE_SHIFT" "I" (.int (0 : Int32))) (S_LO_BYTE_SHIFT : Sta Z Z.heap "java/lang/StringUTF16" "LO_BYTE_SHIFT" "I" (.int (8 : Int32))) (hch : OwnCh c1) (O : Old Z n0 h0) :
    Met l Z M23 jdk_52_method_5_code 2 (some .char) ws (Rm 0 0 0 0) #[(.ref b), (.int (1 : Int32))] h0 (Q_rm_getCh31 Z b kb c0 c1 c2 h0 n0) := by
  refine met_of (plainFor_of_name pn_java_lang_StringUTF16) (own := "java/lang/StringUTF16") rfl (fun m => ef_rm_getCh31 m b (1 : Int32)) ?_
  intro p e s m below meth c s₁ hx hby hml hown hnm hZ X0 e0 hret hlk
  have N0 := Fr.nil n0
  show Goes p e below s _ _ _ (s₁.setTop (mkF m 0 #[.val (.ref b), .val (.int (1 : Int32))] []))
  obtain ⟨T1, X1, e1, st1⟩ := getS2 X0 hx hZ hown (host := "") (Or.inl (wq hw 103 rfl)) Via.refl e0 (S__assertionsDisabled.ext O.2) (g := (mkF m 0 #[.val (.ref b), .val (.int (1 : Int32))] [])) rfl (hb hby d23_0)
  refine Goes.pre (U' := T1.setTop (mkF m 3 #[.val (.ref b), .val (.int (1 : Int32))] [(.int (1 : Int32))])) (fun t k => st1 t k) ?_
  have hc3 : ¬ ((1 : Int32) = (0 : Int32)) := by decide
  refine Goes.pre (U' := T1.setTop (mkF m 31 #[.val (.ref b), .val (.int (1 : Int32))] [(.int ((1 : Int32) <<< ((1 : Int32) &&& 31)))])) (fun t k => XS.ifYes X1.here hx rfl (pc0 := 3) (pc' := 28) rfl (hb hby d23_3) rfl ((if0 _ _).trans (feq hc3).2) (by decide) (by decide) (XS.iloadN X1.here hx rfl (hb hby d23_28) rfl (XS.iconst X1.here hx rfl (hb hby d23_29) (XS.ishl X1.here hx rfl (hb hby d23_30) rfl k)))) ?_
  rw [(by decide : ((1 : Int32) <<< ((1 : Int32) &&& 31)) = (2 : Int32))]
  refine Goes.pre (U' := T1.setTop (mkF m 37 #[.val (.ref b), .val (.int ((2 : Int32) + (1 : Int32)))] [(.int (2 : Int32)), (.ref b)])) (fun t k => XS.istoreN X1.here hx rfl (hb hby d23_31) rfl (l' := #[.val (.ref b), .val (.int (2 : Int32))]) rfl (XS.aloadN X1.here hx rfl (hb hby d23_32) rfl rfl (XS.iloadN X1.here hx rfl (hb hby d23_33) rfl (XT.iincV X1.here hx rfl (1 : Int32) (hb hby d23_34) (by decide) rfl (l' := #[.val (.ref b), .val (.int ((2 : Int32) + (1 : Int32)))]) rfl k)))) ?_
  rw [(by decide : ((2 : Int32) + (1 : Int32)) = (3 : Int32))]
  obtain ⟨cl2, Ar2, q2, Sz2, Ng2, Hs2, Ft2⟩ := id V_b
  have hin2 := inb_of (j := (2 : Int32)) Sz2 ⟨by decide, by decide⟩
  refine Goes.pre (U' := T1.setTop (mkF m 42 #[.val (.ref b), .val (.int (3 : Int32))] [(.int ((c1 >>> ((0 : Int32) &&& 31)).toInt8.toInt32 &&& (255 : Int32)))])) (fun t k => X1.baloadBytes hx (j := (2 : Int32)) (v := (.int (c1 >>> ((0 : Int32) &&& 31)).toInt8.toInt32)) (by rw [e1]; exact Ar2.1) (State.isArrayOf_alike hZ.alike Ar2.2.1) Ar2.2.2 hin2 (Has.at Hs2 hin2 rfl) (g := (mkF m 37 #[.val (.ref b), .val (.int (3 : Int32))] [(.int (2 : Int32)), (.ref b)])) rfl rfl (hb hby d23_37) _ (XS.sipush X1.here hx rfl (hb hby d23_38) (XS.iand X1.here hx rfl (hb hby d23_41) rfl k))) ?_
  obtain ⟨T3, X3, e3, st3⟩ := getS2 X1 hx hZ hown (host := "") (Or.inl (wq hw 104 rfl)) Via.refl e1 (S_HI_BYTE_SHIFT.ext O.2) (g := (mkF m 42 #[.val (.ref b), .val (.int (3 : Int32))] [(.int ((c1 >>> ((0 : Int32) &&& 31)).toInt8.toInt32 &&& (255 : Int32)))])) rfl (hb hby d23_42)
  refine Goes.pre (U' := T3.setTop (mkF m 48 #[.val (.ref b), .val (.int (3 : Int32))] [(.int (3 : Int32)), (.ref b), (.int (((c1 >>> ((0 : Int32) &&& 31)).toInt8.toInt32 &&& (255 : Int32)) <<< ((0 : Int32) &&& 31)))])) (fun t k => st3 t (XS.ishl X3.here hx rfl (hb hby d23_45) rfl (XS.aloadN X3.here hx rfl (hb hby d23_46) rfl rfl (XS.iloadN X3.here hx rfl (hb hby d23_47) rfl k)))) ?_
  obtain ⟨cl4, Ar4, q4, Sz4, Ng4, Hs4, Ft4⟩ := id V_b
  have hin4 := inb_of (j := (3 : Int32)) Sz4 ⟨by decide, by decide⟩
  refine Goes.pre (U' := T3.setTop (mkF m 53 #[.val (.ref b), .val (.int (3 : Int32))] [(.int ((c1 >>> ((8 : Int32) &&& 31)).toInt8.toInt32 &&& (255 : Int32))), (.int (((c1 >>> ((0 : Int32) &&& 31)).toInt8.toInt32 &&& (255 : Int32)) <<< ((0 : Int32) &&& 31)))])) (fun t k => X3.baloadBytes hx (j := (3 : Int32)) (v := (.int (c1 >>> ((8 : Int32) &&& 31)).toInt8.toInt32)) (by rw [e3]; exact Ar4.1) (State.isArrayOf_alike hZ.alike Ar4.2.1) Ar4.2.2 hin4 (Has.at Hs4 hin4 rfl) (g := (mkF m 48 #[.val (.ref b), .val (.int (3 : Int32))] [(.int (3 : Int32)), (.ref b), (.int (((c1 >>> ((0 : Int32) &&& 31)).toInt8.toInt32 &&& (255 : Int32)) <<< ((0 : Int32) &&& 31)))])) rfl rfl (hb hby d23_48) _ (XS.sipush X3.here hx rfl (hb hby d23_49) (XS.iand X3.here hx rfl (hb hby d23_52) rfl k))) ?_
  obtain ⟨T5, X5, e5, st5⟩ := getS2 X3 hx hZ hown (host := "") (Or.inl (wq hw 105 rfl)) Via.refl e3 (S_LO_BYTE_SHIFT.ext O.2) (g := (mkF m 53 #[.val (.ref b), .val (.int (3 : Int32))] [(.int ((c1 >>> ((8 : Int32) &&& 31)).toInt8.toInt32 &&& (255 : Int32))), (.int (((c1 >>> ((0 : Int32) &&& 31)).toInt8.toInt32 &&& (255 : Int32)) <<< ((0 : Int32) &&& 31)))])) rfl (hb hby d23_53)
  refine Goes.pre (U' := T5.setTop (mkF m 59 #[.val (.ref b), .val (.int (3 : Int32))] [(.int (((((c1 >>> ((0 : Int32) &&& 31)).toInt8.toInt32 &&& (255 : Int32)) <<< ((0 : Int32) &&& 31)) ||| (((c1 >>> ((8 : Int32) &&& 31)).toInt8.toInt32 &&& (255 : Int32)) <<< ((8 : Int32) &&& 31))).toUInt32.toUInt16.toUInt32.toInt32))])) (fun t k => st5 t (XS.ishl X5.here hx rfl (hb hby d23_56) rfl (XS.ior X5.here hx rfl (hb hby d23_57) rfl (XS.i2c X5.here hx rfl (hb hby d23_58) rfl k)))) ?_
  refine Goes.ret X5 (v := (some (.int c1))) (fun h => by rw [hret] at h; cases h) hlk (by decide) (by decide) e5 (fun fs hr => retN X5 hx (t := .char) hret (by simp) (hb hby d23_59) (by rw [show nar .char (((((c1 >>> ((0 : Int32) &&& 31)).toInt8.toInt32 &&& (255 : Int32)) <<< ((0 : Int32) &&& 31)) ||| (((c1 >>> ((8 : Int32) &&& 31)).toInt8.toInt32 &&& (255 : Int32)) <<< ((8 : Int32) &&& 31))).toUInt32.toUInt16.toUInt32.toInt32) = c1 from own_u16 _ hch]; exact hr)) ?_
  exact ⟨rfl, N0, rfl⟩
theorem ef_rm_uch31 (m : MethodId) (x0 : Addr) (x1 : Int32) : entryFrame m #[(.ref x0), (.int x1)] 2 = mkF m 0 #[.val (.ref x0), .val (.int x1)] [] := by first | (simp [entryFrame, mkF, argsToLocals, Value.category]; done) | rfl
def Q_rm_uch31 (Z : State) (b : Addr) (kb : ClassId) (c0 : Int32) (c1 : Int32) (c2 : Int32) (sf : Value) (h0 : Heap) (n0 : Nat) (v : Option Value) (h : Heap) (L : List Loc) : Prop := v = some (.int c1) ∧ Fr n0 L ∧ h = h0
set_option maxRecDepth 65536 in
set_option maxHeartbeats 40000000 in
theorem rm_uch31 (l : Launch) (Z : State) (a0 : Array Value) (hw : ∀ d ∈ tables_1, d.before a0 Z = true) (ws : List Jvm.Cond) (b : Addr) (kb : ClassId) (c0 : Int32) (c1 : Int32) (c2 : Int32) (sf : Value) (h0 : Heap) (n0 : Nat) (Z0 : n0 ≤ h0.size) (V_b : Arv Z h0 b kb .byte (6 : Int32) [(.int (c0 >>> ((0 : Int32) &&& 31)).toInt8.toInt32), (.int (c0 >>> ((8 : Int32) &&& 31)).toInt8.toInt32), (.int (c1 >>> ((0 : Int32) &&& 31)).toInt8.toInt32), (.int (c1 >>> ((8 : Int32) &&& 31)).toInt8.toInt32), (.int (c2 >>> ((0 : Int32) &&& 31)).toInt8.toInt32), (.int (c2 >>> ((8 : Int32) &&& 31)).toInt8.toInt32)] (.int (0 : Int32))) (S__assertionsDisabled : Sta Z Z.heap "java/lang/StringUTF16" "$assertionsDisabled" "Z" (.int (1 : Int32))) (S_HI_BYTE_SHIFT : Sta Z Z.heap "java/lang/StringUTF16" "HI_BYTE_SHIFT" "I" (.int (0 : Int32))) (S_LO_BYTE_SHIFT : Sta Z Z.heap "java/lang/StringUTF16" "LO_BYTE_SHIFT" "I" (.int (8 : Int32))) (S_SIOOBE_FORMATTER : Sta Z Z.heap "jdk/internal/util/Preconditions" "SIOOBE_FORMATTER" "Ljava/util/function/BiFunction;" sf) (hch1 : OwnCh c1) (hsf : sf.isRef = true) (O : Old Z n0 h0) :
    Met l Z M24 jdk_52_method_83_code 2 (some .char) ws (Rm 3 0 0 40) #[(.ref b), (.int (1 : Int32))] h0 (Q_rm_uch31 Z b kb c0 c1 c2 sf h0 n0) := by
  refine met_of (plainFor_of_name pn_java_lang_StringUTF16) (own := "java/lang/StringUTF16") rfl (fun m => ef_rm_uch31 m b (1 : Int32)) ?_
  intro p e s m below meth c s₁ hx hby hml hown hnm hZ X0 e0 hret hlk
  have N0 := Fr.nil n0
  show Goes p e below s _ _ _ (s₁.setTop (mkF m 0 #[.val (.ref b), .val (.int (1 : Int32))] []))
  refine Goes.pre (U' := s₁.setTop (mkF m 2 #[.val (.ref b), .val (.int (1 : Int32))] [(.ref b), (.int (1 : Int32))])) (fun t k => XS.iloadN X0.here hx rfl (hb hby d24_0) rfl (XS.aloadN X0.here hx rfl (hb hby d24_1) rfl rfl k)) ?_
  obtain ⟨_, _, ⟨T1, L1, k1, n1⟩, -, X1, ⟨Lc1, hQ1, l1, y1, z1⟩, st1⟩ := Jvm.LawKit.callS X0 hx (y := (⟨"java/lang/StringUTF16", "checkIndex", "(I[B)V"⟩ : MethodName)) hown (mvT hZ (wq hw 112 rfl)) (mvT hZ (wq hw 113 rfl)) (mvT hZ (wq hw 51 rfl)) (mvT hZ (wq hw 114 rfl)) (by decide) (backOf (W := 0) (rm_uIdx31 l Z a0 hw [] b kb c0 c1 c2 sf h0 n0 Z0 V_b S_SIOOBE_FORMATTER hsf O) hZ (wq hw 114 rfl) (wq hw 51 rfl) (by decide) (by decide)) (g := (mkF m 2 #[.val (.ref b), .val (.int (1 : Int32))] [(.ref b), (.int (1 : Int32))])) rfl (by rw [hml]; rfl) (argsL := [(.int (1 : Int32)), (.ref b)]) (rest := []) (lenOf pd__28I_5bB_29V rfl) rfl (by show 2 * 0 + _ ≤ _; exact Nat.le_of_eq rfl) (hb hby d24_2) (fun _ _ => ⟨rfl, e0, (by decide : 0 + 0 ≤ _), (by decide : 0 + 0 ≤ _)⟩)
  dsimp only [Pt.U, Pt.locs, Pt.cells, Pt.slots] at X1 l1 y1 z1 st1 hQ1
  subst l1 y1 z1
  obtain ⟨rfl, N1q, HQ1⟩ := hQ1
  have N1 := Fr.app N0 N1q
  refine Goes.pre (U' := T1.setTop (mkF m 7 #[.val (.ref b), .val (.int (1 : Int32))] [(.int (1 : Int32)), (.ref b)])) (fun t k => st1 t (XS.aloadN X1.here hx rfl (hb hby d24_5) rfl rfl (XS.iloadN X1.here hx rfl (hb hby d24_6) rfl k))) ?_
  obtain ⟨_, _, ⟨T2, L2, k2, n2⟩, -, X2, ⟨Lc2, hQ2, l2, y2, z2⟩, st2⟩ := Jvm.LawKit.callS X1 hx (y := (⟨"java/lang/StringUTF16", "getChar", "([BI)C"⟩ : MethodName)) hown (mvT hZ (wq hw 106 rfl)) (mvT hZ (wq hw 107 rfl)) (mvT hZ (wq hw 51 rfl)) (mvT hZ (wq hw 108 rfl)) (by decide) (backOf (W := 0) (rm_getCh31 l Z a0 hw [] b kb c0 c1 c2 h0 n0 Z0 V_b S__assertionsDisabled S_HI_BYTE_SHIFT S_LO_BYTE_SHIFT hch1 O) hZ (wq hw 108 rfl) (wq hw 51 rfl) (by decide) (by decide)) (g := (mkF m 7 #[.val (.ref b), .val (.int (1 : Int32))] [(.int (1 : Int32)), (.ref b)])) rfl (by rw [hml]; rfl) (argsL := [(.ref b), (.int (1 : Int32))]) (rest := []) (lenOf pd__28_5bBI_29C rfl) rfl (by show 2 * 0 + _ ≤ _; exact Nat.le_of_eq rfl) (hb hby d24_7) (fun _ _ => ⟨rfl, HQ1, (by decide : 0 + 0 ≤ _), (by decide : 0 + 0 ≤ _)⟩)
  dsimp only [Pt.U, Pt.locs, Pt.cells, Pt.slots] at X2 l2 y2 z2 st2 hQ2
  subst l2 y2 z2
  obtain ⟨rfl, N2q, HQ2⟩ := hQ2
  have N2 := Fr.app N1 N2q
  refine Goes.pre (U' := T2.setTop (mkF m 10 #[.val (.ref b), .val (.int (1 : Int32))] [(.int c1)])) (fun t k => st2 t k) ?_
  refine Goes.ret X2 (v := (some (.int c1))) (fun h => by rw [hret] at h; cases h) hlk (by decide) (by decide) HQ2 (fun fs hr => retN X2 hx (t := .char) hret (by simp) (hb hby d24_10) (by rw [show nar .char c1 = c1 from own_nch _ hch1]; exact hr)) ?_
  exact ⟨rfl, N2, rfl⟩
theorem ef_rm_l1ch32 (m : MethodId) (x0 : Addr) (x1 : Int32) : entryFrame m #[(.ref x0), (.int x1)] 2 = mkF m 0 #[.val (.ref x0), .val (.int x1)] [] := by first | (simp [entryFrame, mkF, argsToLocals, Value.category]; done) | rfl
def Q_rm_l1ch32 (Z : State) (b : Addr) (kb : ClassId) (c0 : Int32) (c1 : Int32) (c2 : Int32) (sf : Value) (h0 : Heap) (n0 : Nat) (v : Option Value) (h : Heap) (L : List Loc) : Prop := v = some (.int c2) ∧ Fr n0 L ∧ h = h0
set_option maxRecDepth 65536 in
set_option maxHeartbeats 40000000 in
theorem rm_l1ch32 (l : Launch) (Z : State) (a0 : Array Value) (hw : ∀ d ∈ tables_1, d.before a0 Z = true) (ws : List Jvm.Cond) (b : Addr) (kb : ClassId) (c0 : Int32) (c1 : Int32) (c2 : Int32) (sf : Value) (h0 : Heap) (n0 : Nat) (Z0 : n0 ≤ h0.size) (V_b : Arv Z h0 b kb .byte (3 : Int32) [(.int c0.toInt8.toInt32), (.int c1.toInt8.toInt32), (.int c2.toInt8.toInt32)] (.int (0 : Int32))) (S_SIOOBE_FORMATTER : Sta Z Z.heap "jdk/internal/util/Preconditions" "SIOOBE_FORMATTER" "Ljava/util/function/BiFunction;" sf) (hch : OwnCh c2) (hle : ¬ ((255 : Int32) < c2)) (hsf : sf.isRef = true) (O : Old Z n0 h0) :
    Met l Z M15 jdk_43_method_2_code 2 (some .char) ws (Rm 2 0 0 27) #[(.ref b), (.int (2 : Int32))] h0 (Q_rm_l1ch32 Z b kb c0 c1 c2 sf h0 n0) := by
  refine met_of (plainFor_of_name pn_java_lang_StringLatin1) (own := "java/lang/StringLatin1") rfl (fun m => ef_rm_l1ch32 m b (2 : Int32)) ?_
  intro p e s m below meth c s₁ hx hby hml hown hnm hZ X0 e0 hret hlk
  have N0 := Fr.nil n0
  show Goes p e below s _ _ _ (s₁.setTop (mkF m 0 #[.val (.ref b), .val (.int (2 : Int32))] []))
  refine Goes.pre (U' := s₁.setTop (mkF m 2 #[.val (.ref b), .val (.int (2 : Int32))] [(.ref b), (.int (2 : Int32))])) (fun t k => XS.iloadN X0.here hx rfl (hb hby d15_0) rfl (XS.aloadN X0.here hx rfl (hb hby d15_1) rfl rfl k)) ?_
  obtain ⟨cl1, Ar1, q1, Sz1, Ng1, -, -⟩ := id V_b
  have ln1 := len_of Sz1 Ng1
  refine Goes.pre (U' := s₁.setTop (mkF m 3 #[.val (.ref b), .val (.int (2 : Int32))] [(.int (3 : Int32)), (.int (2 : Int32))])) (fun t k => X0.arraylength hx (by rw [e0]; exact Ar1.1) (State.isArrayOf_alike hZ.alike Ar1.2.1) (g := (mkF m 2 #[.val (.ref b), .val (.int (2 : Int32))] [(.ref b), (.int (2 : Int32))])) rfl rfl (hb hby d15_2) _ (by rw [ln1]; exact k)) ?_
  obtain ⟨_, _, ⟨T2, L2, k2, n2⟩, -, X2, ⟨Lc2, hQ2, l2, y2, z2⟩, st2⟩ := Jvm.LawKit.callS X0 hx (y := (⟨"java/lang/String", "checkIndex", "(II)V"⟩ : MethodName)) hown (mvT hZ (wq hw 79 rfl)) (mvT hZ (wq hw 80 rfl)) (mvT hZ (wq hw 10 rfl)) (mvT hZ (wq hw 81 rfl)) (by decide) (backOf (W := 0) (rm_sIdx l Z a0 hw [] (2 : Int32) (3 : Int32) sf h0 n0 Z0 S_SIOOBE_FORMATTER (by decide) (by decide) hsf O) hZ (wq hw 81 rfl) (wq hw 10 rfl) (by decide) (by decide)) (g := (mkF m 3 #[.val (.ref b), .val (.int (2 : Int32))] [(.int (3 : Int32)), (.int (2 : Int32))])) rfl (by rw [hml]; rfl) (argsL := [(.int (2 : Int32)), (.int (3 : Int32))]) (rest := []) (lenOf pd__28II_29V rfl) rfl (by show 2 * 0 + _ ≤ _; exact Nat.le_of_eq rfl) (hb hby d15_3) (fun _ _ => ⟨rfl, e0, (by decide : 0 + 0 ≤ _), (by decide : 0 + 0 ≤ _)⟩)
  dsimp only [Pt.U, Pt.locs, Pt.cells, Pt.slots] at X2 l2 y2 z2 st2 hQ2
  subst l2 y2 z2
  obtain ⟨rfl, N2q, HQ2⟩ := hQ2
  have N2 := Fr.app N0 N2q
  refine Goes.pre (U' := T2.setTop (mkF m 8 #[.val (.ref b), .val (.int (2 : Int32))] [(.int (2 : Int32)), (.ref b)])) (fun t k => st2 t (XS.aloadN X2.here hx rfl (hb hby d15_6) rfl rfl (XS.iloadN X2.here hx rfl (hb hby d15_7) rfl k))) ?_
  obtain ⟨cl3, Ar3, q3, Sz3, Ng3, Hs3, Ft3⟩ := id V_b
  have hin3 := inb_of (j := (2 : Int32)) Sz3 ⟨by decide, by decide⟩
  refine Goes.pre (U' := T2.setTop (mkF m 14 #[.val (.ref b), .val (.int (2 : Int32))] [(.int ((c2.toInt8.toInt32 &&& (255 : Int32)).toUInt32.toUInt16.toUInt32.toInt32))])) (fun t k => X2.baloadBytes hx (j := (2 : Int32)) (v := (.int c2.toInt8.toInt32)) (by rw [HQ2]; exact Ar3.1) (State.isArrayOf_alike hZ.alike Ar3.2.1) Ar3.2.2 hin3 (Has.at Hs3 hin3 rfl) (g := (mkF m 8 #[.val (.ref b), .val (.int (2 : Int32))] [(.int (2 : Int32)), (.ref b)])) rfl rfl (hb hby d15_8) _ (XS.sipush X2.here hx rfl (hb hby d15_9) (XS.iand X2.here hx rfl (hb hby d15_12) rfl (XS.i2c X2.here hx rfl (hb hby d15_13) rfl k)))) ?_
  refine Goes.ret X2 (v := (some (.int c2))) (fun h => by rw [hret] at h; cases h) hlk (by decide) (by decide) HQ2 (fun fs hr => retN X2 hx (t := .char) hret (by simp) (hb hby d15_14) (by rw [show nar .char ((c2.toInt8.toInt32 &&& (255 : Int32)).toUInt32.toUInt16.toUInt32.toInt32) = c2 from own_l1 _ hch hle]; exact hr)) ?_
  exact ⟨rfl, N2, rfl⟩
theorem ef_rm_uIdx32 (m : MethodId) (x0 : Int32) (x1 : Addr) : entryFrame m #[(.int x0), (.ref x1)] 2 = mkF m 0 #[.val (.int x0), .val (.ref x1)] [] := by first | (simp [entryFrame, mkF, argsToLocals, Value.category]; done) | rfl
def Q_rm_uIdx32 (Z : State) (b : Addr) (kb : ClassId) (c0 : Int32) (c1 : Int32) (c2 : Int32) (sf : Value) (h0 : Heap) (n0 : Nat) (v : Option Value) (h : Heap) (L : List Loc) : Prop := v = none ∧ Fr n0 L ∧ h = h0
set_option maxRecDepth 65536 in
set_option maxHeartbeats 40000000 in
theorem rm_uIdx32 (l : Launch) (Z : State) (a0 : Array Value) (hw : ∀ d ∈ tables_1, d.before a0 Z = true) (ws : List Jvm.Cond) (b : Addr) (kb : ClassId) (c0 : Int32) (c1 : Int32) (c2 : Int32) (sf : Value) (h0 : Heap) (n0 : Nat) (Z0 : n0 ≤ h0.size) (V_b : Arv Z h0 b kb .byte (6 : Int32) [(.int (c0 >>> ((0 : Int32) &&& 31)).toInt8.toInt32), (.int (c0 >>> ((8 : Int32) &&& 31)).toInt8.toInt32), (.int (c1 >>> ((0 : Int32) &&& 31)).toInt8.toInt32), (.int (c1 >>> ((8 : Int32) &&& 31)).toInt8.toInt32), (.int (c2 >>> ((0 : Int32) &&& 31)).toInt8.toInt32), (.int (c2 >>> ((8 : Int32) &&& 31)).toInt8.toInt32)] (.int (0 : Int32))) (S_SIOOBE_FORMATTER : Sta Z Z.heap "jdk/internal/util/Preconditions" "SIOOBE_FORMATTER" "Ljava/util/function/BiFunction;" sf) (hsf : sf.isRef = true) (O : Old Z n0 h0) :
    Met l Z M25 jdk_52_method_91_code 2 none ws (Rm 2 0 0 27) #[(.int (2 : Int32)), (.ref b)] h0 (Q_rm_uIdx32 Z b kb c0 c1 c2 sf h0 n0) := by
  refine met_of (plainFor_of_name pn_java_lang_StringUTF16) (own := "java/lang/StringUTF16") rfl (fun m => ef_rm_uIdx32 m (2 : Int32) b) ?_
  intro p e s m below meth c s₁ hx hby hml hown hnm hZ X0 e0 hret hlk
  have N0 := Fr.nil n0
  show Goes p e below s _ _ _ (s₁.setTop (mkF m 0 #[.val (.int (2 : Int32)), .val (.ref b)] []))
  refine Goes.pre (U' := s₁.setTop (mkF m 2 #[.val (.int (2 : Int32)), .val (.ref b)] [(.ref b), (.int (2 : Int32))])) (fun t k => XS.iloadN X0.here hx rfl (hb hby d25_0) rfl (XS.aloadN X0.here hx rfl (hb hby d25_1) rfl rfl k)) ?_
  obtain ⟨_, _, ⟨T1, L1, k1, n1⟩, -, X1, ⟨Lc1, hQ1, l1, y1, z1⟩, st1⟩ := Jvm.LawKit.callS X0 hx (y := (⟨"java/lang/StringUTF16", "length", "([B)I"⟩ : MethodName)) hown (mvT hZ (wq hw 115 rfl)) (mvT hZ (wq hw 116 rfl)) (mvT hZ (wq hw 51 rfl)) (mvT hZ (wq hw 117 rfl)) (by decide) (backOf (W := 1) (rm_ulen3 l Z a0 hw [] b kb c0 c1 c2 h0 n0 Z0 V_b) hZ (wq hw 117 rfl) (wq hw 51 rfl) (by decide) (by decide)) (g := (mkF m 2 #[.val (.int (2 : Int32)), .val (.ref b)] [(.ref b), (.int (2 : Int32))])) rfl (by rw [hml]; rfl) (argsL := [(.ref b)]) (rest := [(.int (2 : Int32))]) (lenOf pd__28_5bB_29I rfl) rfl (by show 2 * 0 + _ ≤ _; exact Nat.le_of_eq rfl) (hb hby d25_2) (fun _ _ => ⟨rfl, e0, (by decide : 0 + 0 ≤ _), (by decide : 0 + 0 ≤ _)⟩)
  dsimp only [Pt.U, Pt.locs, Pt.cells, Pt.slots] at X1 l1 y1 z1 st1 hQ1
  subst l1 y1 z1
  obtain ⟨rfl, N1q, HQ1⟩ := hQ1
  have N1 := Fr.app N0 N1q
  refine Goes.pre (U' := T1.setTop (mkF m 5 #[.val (.int (2 : Int32)), .val (.ref b)] [(.int (3 : Int32)), (.int (2 : Int32))])) (fun t k => st1 t k) ?_
  obtain ⟨_, _, ⟨T2, L2, k2, n2⟩, -, X2, ⟨Lc2, hQ2, l2, y2, z2⟩, st2⟩ := Jvm.LawKit.callS X1 hx (y := (⟨"java/lang/String", "checkIndex", "(II)V"⟩ : MethodName)) hown (mvT hZ (wq hw 118 rfl)) (mvT hZ (wq hw 80 rfl)) (mvT hZ (wq hw 10 rfl)) (mvT hZ (wq hw 81 rfl)) (by decide) (backOf (W := 0) (rm_sIdx l Z a0 hw [] (2 : Int32) (3 : Int32) sf h0 n0 Z0 S_SIOOBE_FORMATTER (by decide) (by decide) hsf O) hZ (wq hw 81 rfl) (wq hw 10 rfl) (by decide) (by decide)) (g := (mkF m 5 #[.val (.int (2 : Int32)), .val (.ref b)] [(.int (3 : Int32)), (.int (2 : Int32))])) rfl (by rw [hml]; rfl) (argsL := [(.int (2 : Int32)), (.int (3 : Int32))]) (rest := []) (lenOf pd__28II_29V rfl) rfl (by show 2 * 0 + _ ≤ _; exact Nat.le_of_eq rfl) (hb hby d25_5) (fun _ _ => ⟨rfl, HQ1, (by decide : 0 + 0 ≤ _), (by decide : 0 + 0 ≤ _)⟩)
  dsimp only [Pt.U, Pt.locs, Pt.cells, Pt.slots] at X2 l2 y2 z2 st2 hQ2
  subst l2 y2 z2
  obtain ⟨rfl, N2q, HQ2⟩ := hQ2
  have N2 := Fr.app N1 N2q
  refine Goes.pre (U' := T2.setTop (mkF m 8 #[.val (.int (2 : Int32)), .val (.ref b)] [])) (fun t k => st2 t k) ?_
  refine Goes.ret X2 (v := none) (fun _ => rfl) hlk (by decide) (by decide) HQ2 (fun fs hr => X2.returnOut hx hret (hb hby d25_8) hr) ?_
  exact ⟨rfl, N2, rfl⟩
theorem ef_rm_getCh32 (m : MethodId) (x0 : Addr) (x1 : Int32) : entryFrame m #[(.ref x0), (.int x1)] 2 = mkF m 0 #[.val (.ref x0), .val (.int x1)] [] := by first | (simp [entryFrame, mkF, argsToLocals, Value.category]; done) | rfl
def Q_rm_getCh32 (Z : State) (b : Addr) (kb : ClassId) (c0 : Int32) (c1 : Int32) (c2 : Int32) (h0 : Heap) (n0 : Nat) (v : Option Value) (h : Heap) (L : List Loc) : Prop := v = some (.int c2) ∧ Fr n0 L ∧ h = h0
set_option maxRecDepth 65536 in
set_option maxHeartbeats 40000000 in
theorem rm_getCh32 (l : Launch) (Z : State) (a0 : Array Value) (hw : ∀ d ∈ tables_1, d.before a0 Z = true) (ws : List Jvm.Cond) (b : Addr) (kb : ClassId) (c0 : Int32) (c1 : Int32) (c2 : Int32) (h0 : Heap) (n0 : Nat) (Z0 : n0 ≤ h0.size) (V_b : Arv Z h0 b kb .byte (6 : Int32) [(.int (c0 >>> ((0 : Int32) &&& 31)).toInt8.toInt32), (.int (c0 >>> ((8 : Int32) &&& 31)).toInt8.toInt32), (.int (c1 >>> ((0 : Int32) &&& 31)).toInt8.toInt32), (.int (c1 >>> ((8 : Int32) &&& 31)).toInt8.toInt32), (.int (c2 >>> ((0 : Int32) &&& 31)).toInt8.toInt32), (.int (c2 >>> ((8 : Int32) &&& 31)).toInt8.toInt32)] (.int (0 : Int32))) (S__assertionsDisabled : Sta Z Z.heap "java/lang/StringUTF16" "$assertionsDisabled" "Z" (.int (1 : Int32))) (S_HI_BYTE_SHIFT : Sta Z Z.heap "java/lang/StringUTF16" "HI_BYTE_SHIFT" "I" (.int (0 : Int32))) (S_LO_BYTE_SHIFT : Sta Z Z.heap "java/lang/StringUTF16" "LO_BYTE_SHIFT" "I" (.int (8 : Int32))) (hch : OwnCh c2) (O : Old Z n0 h0) :
    Met l Z M23 jdk_52_method_5_code 2 (some .char) ws (Rm 0 0 0 0) #[(.ref b), (.int (2 : Int32))] h0 (Q_rm_getCh32 Z b kb c0 c1 c2 h0 n0) := by
  refine met_of (plainFor_of_name pn_java_lang_StringUTF16) (own := "java/lang/StringUTF16") rfl (fun m => ef_rm_getCh32 m b (2 : Int32)) ?_
  intro p e s m below meth c s₁ hx hby hml hown hnm hZ X0 e0 hret hlk
  have N0 := Fr.nil n0
  show Goes p e below s _ _ _ (s₁.setTop (mkF m 0 #[.val (.ref b), .val (.int (2 : Int32))] []))
  obtain ⟨T1, X1, e1, st1⟩ := getS2 X0 hx hZ hown (host := "") (Or.inl (wq hw 103 rfl)) Via.refl e0 (S__assertionsDisabled.ext O.2) (g := (mkF m 0 #[.val (.ref b), .val (.int (2 : Int32))] [])) rfl (hb hby d23_0)
  refine Goes.pre (U' := T1.setTop (mkF m 3 #[.val (.ref b), .val (.int (2 : Int32))] [(.int (1 : Int32))])) (fun t k => st1 t k) ?_
  have hc3 : ¬ ((1 : Int32) = (0 : Int32)) := by decide
  refine Goes.pre (U' := T1.setTop (mkF m 31 #[.val (.ref b), .val (.int (2 : Int32))] [(.int ((2 : Int32) <<< ((1 : Int32) &&& 31)))])) (fun t k => XS.ifYes X1.here hx rfl (pc0 := 3) (pc' := 28) rfl (hb hby d23_3) rfl ((if0 _ _).trans (feq hc3).2) (by decide) (by decide) (XS.iloadN X1.here hx rfl (hb hby d23_28) rfl (XS.iconst X1.here hx rfl (hb hby d23_29) (XS.ishl X1.here hx rfl (hb hby d23_30) rfl k)))) ?_
  rw [(by decide : ((2 : Int32) <<< ((1 : Int32) &&& 31)) = (4 : Int32))]
  refine Goes.pre (U' := T1.setTop (mkF m 37 #[.val (.ref b), .val (.int ((4 : Int32) + (1 : Int32)))] [(.int (4 : Int32)), (.ref b)])) (fun t k => XS.istoreN X1.here hx rfl (hb hby d23_31) rfl (l' := #[.val (.ref b), .val (.int (4 : Int32))]) rfl (XS.aloadN X1.here hx rfl (hb hby d23_32) rfl rfl (XS.iloadN X1.here hx rfl (hb hby d23_33) rfl (XT.iincV X1.here hx rfl (1 : Int32) (hb hby d23_34) (by decide) rfl (l' := #[.val (.ref b), .val (.int ((4 : Int32) + (1 : Int32)))]) rfl k)))) ?_
  rw [(by decide : ((4 : Int32) + (1 : Int32)) = (5 : Int32))]
  obtain ⟨cl2, Ar2, q2, Sz2, Ng2, Hs2, Ft2⟩ := id V_b
  have hin2 := inb_of (j := (4 : Int32)) Sz2 ⟨by decide, by decide⟩
  refine Goes.pre (U' := T1.setTop (mkF m 42 #[.val (.ref b), .val (.int (5 : Int32))] [(.int ((c2 >>> ((0 : Int32) &&& 31)).toInt8.toInt32 &&& (255 : Int32)))])) (fun t k => X1.baloadBytes hx (j := (4 : Int32)) (v := (.int (c2 >>> ((0 : Int32) &&& 31)).toInt8.toInt32)) (by rw [e1]; exact Ar2.1) (State.isArrayOf_alike hZ.alike Ar2.2.1) Ar2.2.2 hin2 (Has.at Hs2 hin2 rfl) (g := (mkF m 37 #[.val (.ref b), .val (.int (5 : Int32))] [(.int (4 : Int32)), (.ref b)])) rfl rfl (hb hby d23_37) _ (XS.sipush X1.here hx rfl (hb hby d23_38) (XS.iand X1.here hx rfl (hb hby d23_41) rfl k))) ?_
  obtain ⟨T3, X3, e3, st3⟩ := getS2 X1 hx hZ hown (host := "") (Or.inl (wq hw 104 rfl)) Via.refl e1 (S_HI_BYTE_SHIFT.ext O.2) (g := (mkF m 42 #[.val (.ref b), .val (.int (5 : Int32))] [(.int ((c2 >>> ((0 : Int32) &&& 31)).toInt8.toInt32 &&& (255 : Int32)))])) rfl (hb hby d23_42)
  refine Goes.pre (U' := T3.setTop (mkF m 48 #[.val (.ref b), .val (.int (5 : Int32))] [(.int (5 : Int32)), (.ref b), (.int (((c2 >>> ((0 : Int32) &&& 31)).toInt8.toInt32 &&& (255 : Int32)) <<< ((0 : Int32) &&& 31)))])) (fun t k => st3 t (XS.ishl X3.here hx rfl (hb hby d23_45) rfl (XS.aloadN X3.here hx rfl (hb hby d23_46) rfl rfl (XS.iloadN X3.here hx rfl (hb hby d23_47) rfl k)))) ?_
  obtain ⟨cl4, Ar4, q4, Sz4, Ng4, Hs4, Ft4⟩ := id V_b
  have hin4 := inb_of (j := (5 : Int32)) Sz4 ⟨by decide, by decide⟩
  refine Goes.pre (U' := T3.setTop (mkF m 53 #[.val (.ref b), .val (.int (5 : Int32))] [(.int ((c2 >>> ((8 : Int32) &&& 31)).toInt8.toInt32 &&& (255 : Int32))), (.int (((c2 >>> ((0 : Int32) &&& 31)).toInt8.toInt32 &&& (255 : Int32)) <<< ((0 : Int32) &&& 31)))])) (fun t k => X3.baloadBytes hx (j := (5 : Int32)) (v := (.int (c2 >>> ((8 : Int32) &&& 31)).toInt8.toInt32)) (by rw [e3]; exact Ar4.1) (State.isArrayOf_alike hZ.alike Ar4.2.1) Ar4.2.2 hin4 (Has.at Hs4 hin4 rfl) (g := (mkF m 48 #[.val (.ref b), .val (.int (5 : Int32))] [(.int (5 : Int32)), (.ref b), (.int (((c2 >>> ((0 : Int32) &&& 31)).toInt8.toInt32 &&& (255 : Int32)) <<< ((0 : Int32) &&& 31)))])) rfl rfl (hb hby d23_48) _ (XS.sipush X3.here hx rfl (hb hby d23_49) (XS.iand X3.here hx rfl (hb hby d23_52) rfl k))) ?_
  obtain ⟨T5, X5, e5, st5⟩ := getS2 X3 hx hZ hown (host := "") (Or.inl (wq hw 105 rfl)) Via.refl e3 (S_LO_BYTE_SHIFT.ext O.2) (g := (mkF m 53 #[.val (.ref b), .val (.int (5 : Int32))] [(.int ((c2 >>> ((8 : Int32) &&& 31)).toInt8.toInt32 &&& (255 : Int32))), (.int (((c2 >>> ((0 : Int32) &&& 31)).toInt8.toInt32 &&& (255 : Int32)) <<< ((0 : Int32) &&& 31)))])) rfl (hb hby d23_53)
  refine Goes.pre (U' := T5.setTop (mkF m 59 #[.val (.ref b), .val (.int (5 : Int32))] [(.int (((((c2 >>> ((0 : Int32) &&& 31)).toInt8.toInt32 &&& (255 : Int32)) <<< ((0 : Int32) &&& 31)) ||| (((c2 >>> ((8 : Int32) &&& 31)).toInt8.toInt32 &&& (255 : Int32)) <<< ((8 : Int32) &&& 31))).toUInt32.toUInt16.toUInt32.toInt32))])) (fun t k => st5 t (XS.ishl X5.here hx rfl (hb hby d23_56) rfl (XS.ior X5.here hx rfl (hb hby d23_57) rfl (XS.i2c X5.here hx rfl (hb hby d23_58) rfl k)))) ?_
  refine Goes.ret X5 (v := (some (.int c2))) (fun h => by rw [hret] at h; cases h) hlk (by decide) (by decide) e5 (fun fs hr => retN X5 hx (t := .char) hret (by simp) (hb hby d23_59) (by rw [show nar .char (((((c2 >>> ((0 : Int32) &&& 31)).toInt8.toInt32 &&& (255 : Int32)) <<< ((0 : Int32) &&& 31)) ||| (((c2 >>> ((8 : Int32) &&& 31)).toInt8.toInt32 &&& (255 : Int32)) <<< ((8 : Int32) &&& 31))).toUInt32.toUInt16.toUInt32.toInt32) = c2 from own_u16 _ hch]; exact hr)) ?_
  exact ⟨rfl, N0, rfl⟩
theorem ef_rm_uch32 (m : MethodId) (x0 : Addr) (x1 : Int32) : entryFrame m #[(.ref x0), (.int x1)] 2 = mkF m 0 #[.val (.ref x0), .val (.int x1)] [] := by first | (simp [entryFrame, mkF, argsToLocals, Value.category]; done) | rfl
def Q_rm_uch32 (Z : State) (b : Addr) (kb : ClassId) (c0 : Int32) (c1 : Int32) (c2 : Int32) (sf : Value) (h0 : Heap) (n0 : Nat) (v : Option Value) (h : Heap) (L : List Loc) : Prop := v = some (.int c2) ∧ Fr n0 L ∧ h = h0
set_option maxRecDepth 65536 in
set_option maxHeartbeats 40000000 in
theorem rm_uch32 (l : Launch) (Z : State) (a0 : Array Value) (hw : ∀ d ∈ tables_1, d.before a0 Z = true) (ws : List Jvm.Cond) (b : Addr) (kb : ClassId) (c0 : Int32) (c1 : Int32) (c2 : Int32) (sf : Value) (h0 : Heap) (n0 : Nat) (Z0 : n0 ≤ h0.size) (V_b : Arv Z h0 b kb .byte (6 : Int32) [(.int (c0 >>> ((0 : Int32) &&& 31)).toInt8.toInt32), (.int (c0 >>> ((8 : Int32) &&& 31)).toInt8.toInt32), (.int (c1 >>> ((0 : Int32) &&& 31)).toInt8.toInt32), (.int (c1 >>> ((8 : Int32) &&& 31)).toInt8.toInt32), (.int (c2 >>> ((0 : Int32) &&& 31)).toInt8.toInt32), (.int (c2 >>> ((8 : Int32) &&& 31)).toInt8.toInt32)] (.int (0 : Int32))) (S__assertionsDisabled : Sta Z Z.heap "java/lang/StringUTF16" "$assertionsDisabled" "Z" (.int (1 : Int32))) (S_HI_BYTE_SHIFT : Sta Z Z.heap "java/lang/StringUTF16" "HI_BYTE_SHIFT" "I" (.int (0 : Int32))) (S_LO_BYTE_SHIFT : Sta Z Z.heap "java/lang/StringUTF16" "LO_BYTE_SHIFT" "I" (.int (8 : Int32))) (S_SIOOBE_FORMATTER : Sta Z Z.heap "jdk/internal/util/Preconditions" "SIOOBE_FORMATTER" "Ljava/util/function/BiFunction;" sf) (hch2 : OwnCh c2) (hsf : sf.isRef = true) (O : Old Z n0 h0) :
    Met l Z M24 jdk_52_method_83_code 2 (some .char) ws (Rm 3 0 0 40) #[(.ref b), (.int (2 : Int32))] h0 (Q_rm_uch32 Z b kb c0 c1 c2 sf h0 n0) := by
  refine met_of (plainFor_of_name pn_java_lang_StringUTF16) (own := "java/lang/StringUTF16") rfl (fun m => ef_rm_uch32 m b (2 : Int32)) ?_
  intro p e s m below meth c s₁ hx hby hml hown hnm hZ X0 e0 hret hlk
  have N0 := Fr.nil n0
  show Goes p e below s _ _ _ (s₁.setTop (mkF m 0 #[.val (.ref b), .val (.int (2 : Int32))] []))
  refine Goes.pre (U' := s₁.setTop (mkF m 2 #[.val (.ref b), .val (.int (2 : Int32))] [(.ref b), (.int (2 : Int32))])) (fun t k => XS.iloadN X0.here hx rfl (hb hby d24_0) rfl (XS.aloadN X0.here hx rfl (hb hby d24_1) rfl rfl k)) ?_
  obtain ⟨_, _, ⟨T1, L1, k1, n1⟩, -, X1, ⟨Lc1, hQ1, l1, y1, z1⟩, st1⟩ := Jvm.LawKit.callS X0 hx (y := (⟨"java/lang/StringUTF16", "checkIndex", "(I[B)V"⟩ : MethodName)) hown (mvT hZ (wq hw 112 rfl)) (mvT hZ (wq hw 113 rfl)) (mvT hZ (wq hw 51 rfl)) (mvT hZ (wq hw 114 rfl)) (by decide) (backOf (W := 0) (rm_uIdx32 l Z a0 hw [] b kb c0 c1 c2 sf h0 n0 Z0 V_b S_SIOOBE_FORMATTER hsf O) hZ (wq hw 114 rfl) (wq hw 51 rfl) (by decide) (by decide)) (g := (mkF m 2 #[.val (.ref b), .val (.int (2 : Int32))] [(.ref b), (.int (2 : Int32))])) rfl (by rw [hml]; rfl) (argsL := [(.int (2 : Int32)), (.ref b)]) (rest := []) (lenOf pd__28I_5bB_29V rfl) rfl (by show 2 * 0 + _ ≤ _; exact Nat.le_of_eq rfl) (hb hby d24_2) (fun _ _ => ⟨rfl, e0, (by decide : 0 + 0 ≤ _), (by decide : 0 + 0 ≤ _)⟩)
  dsimp only [Pt.U, Pt.locs, Pt.cells, Pt.slots] at X1 l1 y1 z1 st1 hQ1
  subst l1 y1 z1
  obtain ⟨rfl, N1q, HQ1⟩ := hQ1
  have N1 := Fr.app N0 N1q
  refine Goes.pre (U' := T1.setTop (mkF m 7 #[.val (.ref b), .val (.int (2 : Int32))] [(.int (2 : Int32)), (.ref b)])) (fun t k => st1 t (XS.aloadN X1.here hx rfl (hb hby d24_5) rfl rfl (XS.iloadN X1.here hx rfl (hb hby d24_6) rfl k))) ?_
  obtain ⟨_, _, ⟨T2, L2, k2, n2⟩, -, X2, ⟨Lc2, hQ2, l2, y2, z2⟩, st2⟩ := Jvm.LawKit.callS X1 hx (y := (⟨"java/lang/StringUTF16", "getChar", "([BI)C"⟩ : MethodName)) hown (mvT hZ (wq hw 106 rfl)) (mvT hZ (wq hw 107 rfl)) (mvT hZ (wq hw 51 rfl)) (mvT hZ (wq hw 108 rfl)) (by decide) (backOf (W := 0) (rm_getCh32 l Z a0 hw [] b kb c0 c1 c2 h0 n0 Z0 V_b S__assertionsDisabled S_HI_BYTE_SHIFT S_LO_BYTE_SHIFT hch2 O) hZ (wq hw 108 rfl) (wq hw 51 rfl) (by decide) (by decide)) (g := (mkF m 7 #[.val (.ref b), .val (.int (2 : Int32))] [(.int (2 : Int32)), (.ref b)])) rfl (by rw [hml]; rfl) (argsL := [(.ref b), (.int (2 : Int32))]) (rest := []) (lenOf pd__28_5bBI_29C rfl) rfl (by show 2 * 0 + _ ≤ _; exact Nat.le_of_eq rfl) (hb hby d24_7) (fun _ _ => ⟨rfl, HQ1, (by decide : 0 + 0 ≤ _), (by decide : 0 + 0 ≤ _)⟩)
  dsimp only [Pt.U, Pt.locs, Pt.cells, Pt.slots] at X2 l2 y2 z2 st2 hQ2
  subst l2 y2 z2
  obtain ⟨rfl, N2q, HQ2⟩ := hQ2
  have N2 := Fr.app N1 N2q
  refine Goes.pre (U' := T2.setTop (mkF m 10 #[.val (.ref b), .val (.int (2 : Int32))] [(.int c2)])) (fun t k => st2 t k) ?_
  refine Goes.ret X2 (v := (some (.int c2))) (fun h => by rw [hret] at h; cases h) hlk (by decide) (by decide) HQ2 (fun fs hr => retN X2 hx (t := .char) hret (by simp) (hb hby d24_10) (by rw [show nar .char c2 = c2 from own_nch _ hch2]; exact hr)) ?_
  exact ⟨rfl, N2, rfl⟩
theorem ef_rm_coder0 (m : MethodId) (x0 : Addr) : entryFrame m #[(.ref x0)] 1 = mkF m 0 #[.val (.ref x0)] [] := by first | (simp [entryFrame, mkF, argsToLocals, Value.category]; done) | rfl
abbrev M8 : MethodName := ⟨"java/lang/String", "coder", "()B"⟩
theorem d8_0 : decode jdk_42_method_152_code 0 = .ok (.getstatic 38, 3) := by decide +kernel
theorem d8_3 : decode jdk_42_method_152_code 3 = .ok (.ifCond .eq 10, 3) := by decide +kernel
theorem d8_6 : decode jdk_42_method_152_code 6 = .ok (.aload_n 0, 1) := by decide +kernel
theorem d8_7 : decode jdk_42_method_152_code 7 = .ok (.getfield 15, 3) := by decide +kernel
theorem d8_10 : decode jdk_42_method_152_code 10 = .ok (.goto 4, 3) := by decide +kernel
theorem d8_14 : decode jdk_42_method_152_code 14 = .ok (.ireturn, 1) := by decide +kernel
def Q_rm_coder0 (Z : State) (a : Addr) (cs : Int32) (h0 : Heap) (n0 : Nat) (v : Option Value) (h : Heap) (L : List Loc) : Prop := v = some (.int (0 : Int32)) ∧ Fr n0 L ∧ h = h0
set_option maxRecDepth 65536 in
set_option maxHeartbeats 40000000 in
theorem rm_coder0 (l : Launch) (Z : State) (a0 : Array Value) (hw : ∀ d ∈ tables_1, d.before a0 Z = true) (ws : List Jvm.Cond) (a : Addr) (cs : Int32) (h0 : Heap) (n0 : Nat) (Z0 : n0 ≤ h0.size) (S_COMPACT_STRINGS : Sta Z Z.heap "java/lang/String" "COMPACT_STRINGS" "Z" (.int cs)) (F_coder_a : Fld Z h0 a "java/lang/String" "coder" "B" (.int (0 : Int32))) (hcs : ¬ (cs = (0 : Int32))) (O : Old Z n0 h0) :
    Met l Z M8 jdk_42_method_152_code 1 (some .byte) ws (Rm 0 0 0 0) #[(.ref a)] h0 (Q_rm_coder0 Z a cs h0 n0) := by
  refine met_of (plainFor_of_name pn_java_lang_String) (own := "java/lang/String") rfl (fun m => ef_rm_coder0 m a) ?_
  intro p e s m below meth c s₁ hx hby hml hown hnm hZ X0 e0 hret hlk
  have N0 := Fr.nil n0
  show Goes p e below s _ _ _ (s₁.setTop (mkF m 0 #[.val (.ref a)] []))
  obtain ⟨T1, X1, e1, st1⟩ := getS2 X0 hx hZ hown (host := "") (Or.inl (wq hw 48 rfl)) Via.refl e0 (S_COMPACT_STRINGS.ext O.2) (g := (mkF m 0 #[.val (.ref a)] [])) rfl (hb hby d8_0)
  refine Goes.pre (U' := T1.setTop (mkF m 3 #[.val (.ref a)] [(.int cs)])) (fun t k => st1 t k) ?_
  have hc3 : ¬ (cs = (0 : Int32)) := hcs
  refine Goes.pre (U' := T1.setTop (mkF m 7 #[.val (.ref a)] [(.ref a)])) (fun t k => XS.ifNo X1.here hx rfl (hb hby d8_3) rfl ((if0 _ _).trans (feq hc3).1) (XS.aloadN X1.here hx rfl (hb hby d8_6) rfl rfl k)) ?_
  obtain ⟨T2, X2, e2, st2⟩ := getF X1 hx hZ hown (host := "") (Or.inl (wq hw 29 rfl)) Via.refl e1 F_coder_a (g := (mkF m 7 #[.val (.ref a)] [(.ref a)])) rfl rfl (hb hby d8_7)
  refine Goes.pre (U' := T2.setTop (mkF m 14 #[.val (.ref a)] [(.int (0 : Int32))])) (fun t k => st2 t (XS.goto X2.here hx rfl (pc0 := 10) (pc' := 14) rfl (hb hby d8_10) (by decide) (by decide) k)) ?_
  refine Goes.ret X2 (v := (some (.int (0 : Int32)))) (fun h => by rw [hret] at h; cases h) hlk (by decide) (by decide) e2 (fun fs hr => retN X2 hx (t := .byte) hret (by simp) (hb hby d8_14) hr) ?_
  exact ⟨rfl, N0, rfl⟩
theorem ef_rm_isL0 (m : MethodId) (x0 : Addr) : entryFrame m #[(.ref x0)] 1 = mkF m 0 #[.val (.ref x0)] [] := by first | (simp [entryFrame, mkF, argsToLocals, Value.category]; done) | rfl
abbrev M14 : MethodName := ⟨"java/lang/String", "isLatin1", "()Z"⟩
theorem d14_0 : decode jdk_42_method_154_code 0 = .ok (.getstatic 38, 3) := by decide +kernel
theorem d14_3 : decode jdk_42_method_154_code 3 = .ok (.ifCond .eq 14, 3) := by decide +kernel
theorem d14_6 : decode jdk_42_method_154_code 6 = .ok (.aload_n 0, 1) := by decide +kernel
theorem d14_7 : decode jdk_42_method_154_code 7 = .ok (.getfield 15, 3) := by decide +kernel
theorem d14_10 : decode jdk_42_method_154_code 10 = .ok (.ifCond .ne 7, 3) := by decide +kernel
theorem d14_13 : decode jdk_42_method_154_code 13 = .ok (.iconst 1, 1) := by decide +kernel
theorem d14_14 : decode jdk_42_method_154_code 14 = .ok (.goto 4, 3) := by decide +kernel
theorem d14_18 : decode jdk_42_method_154_code 18 = .ok (.ireturn, 1) := by decide +kernel
def Q_rm_isL0 (Z : State) (a : Addr) (cs : Int32) (h0 : Heap) (n0 : Nat) (v : Option Value) (h : Heap) (L : List Loc) : Prop := v = some (.int (1 : Int32)) ∧ Fr n0 L ∧ h = h0
set_option maxRecDepth 65536 in
set_option maxHeartbeats 40000000 in
theorem rm_isL0 (l : Launch) (Z : State) (a0 : Array Value) (hw : ∀ d ∈ tables_1, d.before a0 Z = true) (ws : List Jvm.Cond) (a : Addr) (cs : Int32) (h0 : Heap) (n0 : Nat) (Z0 : n0 ≤ h0.size) (S_COMPACT_STRINGS : Sta Z Z.heap "java/lang/String" "COMPACT_STRINGS" "Z" (.int cs)) (F_coder_a : Fld Z h0 a "java/lang/String" "coder" "B" (.int (0 : Int32))) (hcs : ¬ (cs = (0 : Int32))) (O : Old Z n0 h0) :
    Met l Z M14 jdk_42_method_154_code 1 (some .boolean) ws (Rm 0 0 0 0) #[(.ref a)] h0 (Q_rm_isL0 Z a cs h0 n0) := by
  refine met_of (plainFor_of_name pn_java_lang_String) (own := "java/lang/String") rfl (fun m => ef_rm_isL0 m a) ?_
  intro p e s m below meth c s₁ hx hby hml hown hnm hZ X0 e0 hret hlk
  have N0 := Fr.nil n0
  show Goes p e below s _ _ _ (s₁.setTop (mkF m 0 #[.val (.ref a)] []))
  obtain ⟨T1, X1, e1, st1⟩ := getS2 X0 hx hZ hown (host := "") (Or.inl (wq hw 48 rfl)) Via.refl e0 (S_COMPACT_STRINGS.ext O.2) (g := (mkF m 0 #[.val (.ref a)] [])) rfl (hb hby d14_0)
  refine Goes.pre (U' := T1.setTop (mkF m 3 #[.val (.ref a)] [(.int cs)])) (fun t k => st1 t k) ?_
  have hc3 : ¬ (cs = (0 : Int32)) := hcs
  refine Goes.pre (U' := T1.setTop (mkF m 7 #[.val (.ref a)] [(.ref a)])) (fun t k => XS.ifNo X1.here hx rfl (hb hby d14_3) rfl ((if0 _ _).trans (feq hc3).1) (XS.aloadN X1.here hx rfl (hb hby d14_6) rfl rfl k)) ?_
  obtain ⟨T2, X2, e2, st2⟩ := getF X1 hx hZ hown (host := "") (Or.inl (wq hw 29 rfl)) Via.refl e1 F_coder_a (g := (mkF m 7 #[.val (.ref a)] [(.ref a)])) rfl rfl (hb hby d14_7)
  refine Goes.pre (U' := T2.setTop (mkF m 10 #[.val (.ref a)] [(.int (0 : Int32))])) (fun t k => st2 t k) ?_
  have hc10 : (0 : Int32) = (0 : Int32) := rfl
  refine Goes.pre (U' := T2.setTop (mkF m 18 #[.val (.ref a)] [(.int (1 : Int32))])) (fun t k => XS.ifNo X2.here hx rfl (hb hby d14_10) rfl ((if0 _ _).trans (teq hc10).2) (XS.iconst X2.here hx rfl (hb hby d14_13) (XS.goto X2.here hx rfl (pc0 := 14) (pc' := 18) rfl (hb hby d14_14) (by decide) (by decide) k))) ?_
  refine Goes.ret X2 (v := (some (.int (1 : Int32)))) (fun h => by rw [hret] at h; cases h) hlk (by decide) (by decide) e2 (fun fs hr => retN X2 hx (t := .boolean) hret (by simp) (hb hby d14_18) hr) ?_
  exact ⟨rfl, N0, rfl⟩
theorem ef_rm_coder1 (m : MethodId) (x0 : Addr) : entryFrame m #[(.ref x0)] 1 = mkF m 0 #[.val (.ref x0)] [] := by first | (simp [entryFrame, mkF, argsToLocals, Value.category]; done) | rfl
def Q_rm_coder1 (Z : State) (a : Addr) (cs : Int32) (h0 : Heap) (n0 : Nat) (v : Option Value) (h : Heap) (L : List Loc) : Prop := v = some (.int (1 : Int32)) ∧ Fr n0 L ∧ h = h0
set_option maxRecDepth 65536 in
set_option maxHeartbeats 40000000 in
theorem rm_coder1 (l : Launch) (Z : State) (a0 : Array Value) (hw : ∀ d ∈ tables_1, d.before a0 Z = true) (ws : List Jvm.Cond) (a : Addr) (cs : Int32) (h0 : Heap) (n0 : Nat) (Z0 : n0 ≤ h0.size) (S_COMPACT_STRINGS : Sta Z Z.heap "java/lang/String" "COMPACT_STRINGS" "Z" (.int cs)) (F_coder_a : Fld Z h0 a "java/lang/String" "coder" "B" (.int (1 : Int32))) (hcs : ¬ (cs = (0 : Int32))) (O : Old Z n0 h0) :
    Met l Z M8 jdk_42_method_152_code 1 (some .byte) ws (Rm 0 0 0 0) #[(.ref a)] h0 (Q_rm_coder1 Z a cs h0 n0) := by
  refine met_of (plainFor_of_name pn_java_lang_String) (own := "java/lang/String") rfl (fun m => ef_rm_coder1 m a) ?_
  intro p e s m below meth c s₁ hx hby hml hown hnm hZ X0 e0 hret hlk
  have N0 := Fr.nil n0
  show Goes p e below s _ _ _ (s₁.setTop (mkF m 0 #[.val (.ref a)] []))
  obtain ⟨T1, X1, e1, st1⟩ := getS2 X0 hx hZ hown (host := "") (Or.inl (wq hw 48 rfl)) Via.refl e0 (S_COMPACT_STRINGS.ext O.2) (g := (mkF m 0 #[.val (.ref a)] [])) rfl (hb hby d8_0)
  refine Goes.pre (U' := T1.setTop (mkF m 3 #[.val (.ref a)] [(.int cs)])) (fun t k => st1 t k) ?_
  have hc3 : ¬ (cs = (0 : Int32)) := hcs
  refine Goes.pre (U' := T1.setTop (mkF m 7 #[.val (.ref a)] [(.ref a)])) (fun t k => XS.ifNo X1.here hx rfl (hb hby d8_3) rfl ((if0 _ _).trans (feq hc3).1) (XS.aloadN X1.here hx rfl (hb hby d8_6) rfl rfl k)) ?_
  obtain ⟨T2, X2, e2, st2⟩ := getF X1 hx hZ hown (host := "") (Or.inl (wq hw 29 rfl)) Via.refl e1 F_coder_a (g := (mkF m 7 #[.val (.ref a)] [(.ref a)])) rfl rfl (hb hby d8_7)
  refine Goes.pre (U' := T2.setTop (mkF m 14 #[.val (.ref a)] [(.int (1 : Int32))])) (fun t k => st2 t (XS.goto X2.here hx rfl (pc0 := 10) (pc' := 14) rfl (hb hby d8_10) (by decide) (by decide) k)) ?_
  refine Goes.ret X2 (v := (some (.int (1 : Int32)))) (fun h => by rw [hret] at h; cases h) hlk (by decide) (by decide) e2 (fun fs hr => retN X2 hx (t := .byte) hret (by simp) (hb hby d8_14) hr) ?_
  exact ⟨rfl, N0, rfl⟩
theorem ef_rm_isL1 (m : MethodId) (x0 : Addr) : entryFrame m #[(.ref x0)] 1 = mkF m 0 #[.val (.ref x0)] [] := by first | (simp [entryFrame, mkF, argsToLocals, Value.category]; done) | rfl
theorem d14_17 : decode jdk_42_method_154_code 17 = .ok (.iconst 0, 1) := by decide +kernel
def Q_rm_isL1 (Z : State) (a : Addr) (cs : Int32) (h0 : Heap) (n0 : Nat) (v : Option Value) (h : Heap) (L : List Loc) : Prop := v = some (.int (0 : Int32)) ∧ Fr n0 L ∧ h = h0
set_option maxRecDepth 65536 in
set_option maxHeartbeats 40000000 in
theorem rm_isL1 (l : Launch) (Z : State) (a0 : Array Value) (hw : ∀ d ∈ tables_1, d.before a0 Z = true) (ws : List Jvm.Cond) (a : Addr) (cs : Int32) (h0 : Heap) (n0 : Nat) (Z0 : n0 ≤ h0.size) (S_COMPACT_STRINGS : Sta Z Z.heap "java/lang/String" "COMPACT_STRINGS" "Z" (.int cs)) (F_coder_a : Fld Z h0 a "java/lang/String" "coder" "B" (.int (1 : Int32))) (hcs : ¬ (cs = (0 : Int32))) (O : Old Z n0 h0) :
    Met l Z M14 jdk_42_method_154_code 1 (some .boolean) ws (Rm 0 0 0 0) #[(.ref a)] h0 (Q_rm_isL1 Z a cs h0 n0) := by
  refine met_of (plainFor_of_name pn_java_lang_String) (own := "java/lang/String") rfl (fun m => ef_rm_isL1 m a) ?_
  intro p e s m below meth c s₁ hx hby hml hown hnm hZ X0 e0 hret hlk
  have N0 := Fr.nil n0
  show Goes p e below s _ _ _ (s₁.setTop (mkF m 0 #[.val (.ref a)] []))
  obtain ⟨T1, X1, e1, st1⟩ := getS2 X0 hx hZ hown (host := "") (Or.inl (wq hw 48 rfl)) Via.refl e0 (S_COMPACT_STRINGS.ext O.2) (g := (mkF m 0 #[.val (.ref a)] [])) rfl (hb hby d14_0)
  refine Goes.pre (U' := T1.setTop (mkF m 3 #[.val (.ref a)] [(.int cs)])) (fun t k => st1 t k) ?_
  have hc3 : ¬ (cs = (0 : Int32)) := hcs
  refine Goes.pre (U' := T1.setTop (mkF m 7 #[.val (.ref a)] [(.ref a)])) (fun t k => XS.ifNo X1.here hx rfl (hb hby d14_3) rfl ((if0 _ _).trans (feq hc3).1) (XS.aloadN X1.here hx rfl (hb hby d14_6) rfl rfl k)) ?_
  obtain ⟨T2, X2, e2, st2⟩ := getF X1 hx hZ hown (host := "") (Or.inl (wq hw 29 rfl)) Via.refl e1 F_coder_a (g := (mkF m 7 #[.val (.ref a)] [(.ref a)])) rfl rfl (hb hby d14_7)
  refine Goes.pre (U' := T2.setTop (mkF m 10 #[.val (.ref a)] [(.int (1 : Int32))])) (fun t k => st2 t k) ?_
  have hc10 : ¬ ((1 : Int32) = (0 : Int32)) := by decide
  refine Goes.pre (U' := T2.setTop (mkF m 18 #[.val (.ref a)] [(.int (0 : Int32))])) (fun t k => XS.ifYes X2.here hx rfl (pc0 := 10) (pc' := 17) rfl (hb hby d14_10) rfl ((if0 _ _).trans (feq hc10).2) (by decide) (by decide) (XS.iconst X2.here hx rfl (hb hby d14_17) k)) ?_
  refine Goes.ret X2 (v := (some (.int (0 : Int32)))) (fun h => by rw [hret] at h; cases h) hlk (by decide) (by decide) e2 (fun fs hr => retN X2 hx (t := .boolean) hret (by simp) (hb hby d14_18) hr) ?_
  exact ⟨rfl, N0, rfl⟩
theorem ef_rm_len0 (m : MethodId) (x0 : Addr) : entryFrame m #[(.ref x0)] 1 = mkF m 0 #[.val (.ref x0)] [] := by first | (simp [entryFrame, mkF, argsToLocals, Value.category]; done) | rfl
abbrev M7 : MethodName := ⟨"java/lang/String", "length", "()I"⟩
theorem d7_0 : decode jdk_42_method_54_code 0 = .ok (.aload_n 0, 1) := by decide +kernel
theorem d7_1 : decode jdk_42_method_54_code 1 = .ok (.getfield 9, 3) := by decide +kernel
theorem d7_4 : decode jdk_42_method_54_code 4 = .ok (.arraylength, 1) := by decide +kernel
theorem d7_5 : decode jdk_42_method_54_code 5 = .ok (.aload_n 0, 1) := by decide +kernel
theorem d7_6 : decode jdk_42_method_54_code 6 = .ok (.invokevirtual 335, 3) := by decide +kernel
theorem pd__28_29B : parseMethodDescriptor "()B" = some ⟨[], some .byte⟩ := by decide +kernel
theorem d7_9 : decode jdk_42_method_54_code 9 = .ok (.ishr, 1) := by decide +kernel
theorem d7_10 : decode jdk_42_method_54_code 10 = .ok (.ireturn, 1) := by decide +kernel
def Q_rm_len0 (Z : State) (a : Addr) (b : Addr) (kb : ClassId) (cs : Int32) (h0 : Heap) (n0 : Nat) (v : Option Value) (h : Heap) (L : List Loc) : Prop := v = some (.int (0 : Int32)) ∧ Fr n0 L ∧ h = h0
set_option maxRecDepth 65536 in
set_option maxHeartbeats 40000000 in
theorem rm_len0 (l : Launch) (Z : State) (a0 : Array Value) (hw : ∀ d ∈ tables_1, d.before a0 Z = true) (ws : List Jvm.Cond) (a : Addr) (b : Addr) (kb : ClassId) (cs : Int32) (h0 : Heap) (n0 : Nat) (Z0 : n0 ≤ h0.size) (S_a : OwnStr Z h0 a b kb []) (S_COMPACT_STRINGS : Sta Z Z.heap "java/lang/String" "COMPACT_STRINGS" "Z" (.int cs)) (hcs : ¬ (cs = (0 : Int32))) (O : Old Z n0 h0) :
    Met l Z M7 jdk_42_method_54_code 1 (some .int) ws (Rm 1 0 0 13) #[(.ref a)] h0 (Q_rm_len0 Z a b kb cs h0 n0) := by
  refine met_of (plainFor_of_name pn_java_lang_String) (own := "java/lang/String") rfl (fun m => ef_rm_len0 m a) ?_
  intro p e s m below meth c s₁ hx hby hml hown hnm hZ X0 e0 hret hlk
  have N0 := Fr.nil n0
  show Goes p e below s _ _ _ (s₁.setTop (mkF m 0 #[.val (.ref a)] []))
  obtain ⟨E_a, F_value_a, hcA, hS⟩ := S_a
  rcases hS with ⟨F_coder_a, V_b, hle⟩ | ⟨-, -, _, hbad, -⟩
  ·
    have V_b : Arv Z h0 b kb .byte (0 : Int32) [] (.int (0 : Int32)) := V_b
    refine Goes.pre (U' := s₁.setTop (mkF m 1 #[.val (.ref a)] [(.ref a)])) (fun t k => XS.aloadN X0.here hx rfl (hb hby d7_0) rfl rfl k) ?_
    obtain ⟨T1, X1, e1, st1⟩ := getF X0 hx hZ hown (host := "") (Or.inl (wq hw 28 rfl)) Via.refl e0 F_value_a (g := (mkF m 1 #[.val (.ref a)] [(.ref a)])) rfl rfl (hb hby d7_1)
    refine Goes.pre (U' := T1.setTop (mkF m 4 #[.val (.ref a)] [(.ref b)])) (fun t k => st1 t k) ?_
    obtain ⟨cl2, Ar2, q2, Sz2, Ng2, -, -⟩ := id V_b
    have ln2 := len_of Sz2 Ng2
    refine Goes.pre (U' := T1.setTop (mkF m 6 #[.val (.ref a)] [(.ref a), (.int (0 : Int32))])) (fun t k => X1.arraylength hx (by rw [e1]; exact Ar2.1) (State.isArrayOf_alike hZ.alike Ar2.2.1) (g := (mkF m 4 #[.val (.ref a)] [(.ref b)])) rfl rfl (hb hby d7_4) _ (by rw [ln2]; exact (XS.aloadN X1.here hx rfl (hb hby d7_5) rfl rfl k))) ?_
    obtain ⟨cq3, kq3, q3a, q3b, q3c⟩ := isOf hZ e1 E_a
    obtain ⟨_, _, ⟨T3, L3, k3, n3⟩, -, X3, ⟨Lc3, hQ3, l3, y3, z3⟩, st3⟩ := X1.virtualBack hx (y := (⟨"java/lang/String", "coder", "()B"⟩ : MethodName)) (z := (⟨"java/lang/String", "coder", "()B"⟩ : MethodName)) hown (mvT hZ (wq hw 43 rfl)) (mvT hZ (wq hw 44 rfl)) (notFace_of_selects (args := #[]) (mvT hZ (wq hw 46 rfl))) (mvT hZ (wq hw 46 rfl)) (mvT hZ (wq hw 45 rfl)) (by decide) (backOf (W := 1) (rm_coder0 l Z a0 hw [] a cs h0 n0 Z0 S_COMPACT_STRINGS F_coder_a hcs O) hZ (wq hw 47 rfl) (wq hw 10 rfl) (by decide) (by decide)) q3a q3c (g := (mkF m 6 #[.val (.ref a)] [(.ref a), (.int (0 : Int32))])) rfl (by rw [hml]; rfl) (Steps.refl _) (argsL := []) (rest := [(.int (0 : Int32))]) (lenOf pd__28_29B rfl) rfl (by show 2 * 0 + _ ≤ _; exact Nat.le_of_eq rfl) (hb hby d7_6) (fun _ _ => ⟨rfl, e1, (by decide : 0 + 0 ≤ _), (by decide : 0 + 0 ≤ _)⟩)
    dsimp only [Pt.U, Pt.locs, Pt.cells, Pt.slots] at X3 l3 y3 z3 st3 hQ3
    subst l3 y3 z3
    obtain ⟨rfl, N3q, HQ3⟩ := hQ3
    have N3 := Fr.app N0 N3q
    refine Goes.pre (U' := T3.setTop (mkF m 10 #[.val (.ref a)] [(.int ((0 : Int32) >>> ((0 : Int32) &&& 31)))])) (fun t k => st3.trans (XS.ishr X3.here hx rfl (hb hby d7_9) rfl k)) ?_
    rw [(by decide : ((0 : Int32) >>> ((0 : Int32) &&& 31)) = (0 : Int32))]
    refine Goes.ret X3 (v := (some (.int (0 : Int32)))) (fun h => by rw [hret] at h; cases h) hlk (by decide) (by decide) HQ3 (fun fs hr => retI X3 hx hret (hb hby d7_10) hr) ?_
    exact ⟨rfl, N3, rfl⟩
  ·
    exact absurd hbad (by simp)
theorem ef_rm_len1 (m : MethodId) (x0 : Addr) : entryFrame m #[(.ref x0)] 1 = mkF m 0 #[.val (.ref x0)] [] := by first | (simp [entryFrame, mkF, argsToLocals, Value.category]; done) | rfl
def Q_rm_len1 (Z : State) (a : Addr) (b : Addr) (kb : ClassId) (c0 : Int32) (cs : Int32) (h0 : Heap) (n0 : Nat) (v : Option Value) (h : Heap) (L : List Loc) : Prop := v = some (.int (1 : Int32)) ∧ Fr n0 L ∧ h = h0
set_option maxRecDepth 65536 in
set_option maxHeartbeats 40000000 in
theorem rm_len1 (l : Launch) (Z : State) (a0 : Array Value) (hw : ∀ d ∈ tables_1, d.before a0 Z = true) (ws : List Jvm.Cond) (a : Addr) (b : Addr) (kb : ClassId) (c0 : Int32) (cs : Int32) (h0 : Heap) (n0 : Nat) (Z0 : n0 ≤ h0.size) (S_a : OwnStr Z h0 a b kb [c0]) (S_COMPACT_STRINGS : Sta Z Z.heap "java/lang/String" "COMPACT_STRINGS" "Z" (.int cs)) (hcs : ¬ (cs = (0 : Int32))) (O : Old Z n0 h0) :
    Met l Z M7 jdk_42_method_54_code 1 (some .int) ws (Rm 1 0 0 13) #[(.ref a)] h0 (Q_rm_len1 Z a b kb c0 cs h0 n0) := by
  refine met_of (plainFor_of_name pn_java_lang_String) (own := "java/lang/String") rfl (fun m => ef_rm_len1 m a) ?_
  intro p e s m below meth c s₁ hx hby hml hown hnm hZ X0 e0 hret hlk
  have N0 := Fr.nil n0
  show Goes p e below s _ _ _ (s₁.setTop (mkF m 0 #[.val (.ref a)] []))
  obtain ⟨E_a, F_value_a, hcA, hS⟩ := S_a
  have hch0 : OwnCh c0 := hcA c0 (List.mem_of_getElem? (i := 0) rfl)
  rcases hS with ⟨F_coder_a, V_b, hle⟩ | ⟨F_coder_a, V_b, hex⟩
  ·
    have V_b : Arv Z h0 b kb .byte (1 : Int32) [(.int c0.toInt8.toInt32)] (.int (0 : Int32)) := V_b
    have hle0 : ¬ ((255 : Int32) < c0) := hle c0 (List.mem_of_getElem? (i := 0) rfl)
    refine Goes.pre (U' := s₁.setTop (mkF m 1 #[.val (.ref a)] [(.ref a)])) (fun t k => XS.aloadN X0.here hx rfl (hb hby d7_0) rfl rfl k) ?_
    obtain ⟨T1, X1, e1, st1⟩ := getF X0 hx hZ hown (host := "") (Or.inl (wq hw 28 rfl)) Via.refl e0 F_value_a (g := (mkF m 1 #[.val (.ref a)] [(.ref a)])) rfl rfl (hb hby d7_1)
    refine Goes.pre (U' := T1.setTop (mkF m 4 #[.val (.ref a)] [(.ref b)])) (fun t k => st1 t k) ?_
    obtain ⟨cl2, Ar2, q2, Sz2, Ng2, -, -⟩ := id V_b
    have ln2 := len_of Sz2 Ng2
    refine Goes.pre (U' := T1.setTop (mkF m 6 #[.val (.ref a)] [(.ref a), (.int (1 : Int32))])) (fun t k => X1.arraylength hx (by rw [e1]; exact Ar2.1) (State.isArrayOf_alike hZ.alike Ar2.2.1) (g := (mkF m 4 #[.val (.ref a)] [(.ref b)])) rfl rfl (hb hby d7_4) _ (by rw [ln2]; exact (XS.aloadN X1.here hx rfl (hb hby d7_5) rfl rfl k))) ?_
    obtain ⟨cq3, kq3, q3a, q3b, q3c⟩ := isOf hZ e1 E_a
    obtain ⟨_, _, ⟨T3, L3, k3, n3⟩, -, X3, ⟨Lc3, hQ3, l3, y3, z3⟩, st3⟩ := X1.virtualBack hx (y := (⟨"java/lang/String", "coder", "()B"⟩ : MethodName)) (z := (⟨"java/lang/String", "coder", "()B"⟩ : MethodName)) hown (mvT hZ (wq hw 43 rfl)) (mvT hZ (wq hw 44 rfl)) (notFace_of_selects (args := #[]) (mvT hZ (wq hw 46 rfl))) (mvT hZ (wq hw 46 rfl)) (mvT hZ (wq hw 45 rfl)) (by decide) (backOf (W := 1) (rm_coder0 l Z a0 hw [] a cs h0 n0 Z0 S_COMPACT_STRINGS F_coder_a hcs O) hZ (wq hw 47 rfl) (wq hw 10 rfl) (by decide) (by decide)) q3a q3c (g := (mkF m 6 #[.val (.ref a)] [(.ref a), (.int (1 : Int32))])) rfl (by rw [hml]; rfl) (Steps.refl _) (argsL := []) (rest := [(.int (1 : Int32))]) (lenOf pd__28_29B rfl) rfl (by show 2 * 0 + _ ≤ _; exact Nat.le_of_eq rfl) (hb hby d7_6) (fun _ _ => ⟨rfl, e1, (by decide : 0 + 0 ≤ _), (by decide : 0 + 0 ≤ _)⟩)
    dsimp only [Pt.U, Pt.locs, Pt.cells, Pt.slots] at X3 l3 y3 z3 st3 hQ3
    subst l3 y3 z3
    obtain ⟨rfl, N3q, HQ3⟩ := hQ3
    have N3 := Fr.app N0 N3q
    refine Goes.pre (U' := T3.setTop (mkF m 10 #[.val (.ref a)] [(.int ((1 : Int32) >>> ((0 : Int32) &&& 31)))])) (fun t k => st3.trans (XS.ishr X3.here hx rfl (hb hby d7_9) rfl k)) ?_
    rw [(by decide : ((1 : Int32) >>> ((0 : Int32) &&& 31)) = (1 : Int32))]
    refine Goes.ret X3 (v := (some (.int (1 : Int32)))) (fun h => by rw [hret] at h; cases h) hlk (by decide) (by decide) HQ3 (fun fs hr => retI X3 hx hret (hb hby d7_10) hr) ?_
    exact ⟨rfl, N3, rfl⟩
  ·
    have V_b : Arv Z h0 b kb .byte (2 : Int32) [(.int (c0 >>> ((0 : Int32) &&& 31)).toInt8.toInt32), (.int (c0 >>> ((8 : Int32) &&& 31)).toInt8.toInt32)] (.int (0 : Int32)) := V_b
    refine Goes.pre (U' := s₁.setTop (mkF m 1 #[.val (.ref a)] [(.ref a)])) (fun t k => XS.aloadN X0.here hx rfl (hb hby d7_0) rfl rfl k) ?_
    obtain ⟨T4, X4, e4, st4⟩ := getF X0 hx hZ hown (host := "") (Or.inl (wq hw 28 rfl)) Via.refl e0 F_value_a (g := (mkF m 1 #[.val (.ref a)] [(.ref a)])) rfl rfl (hb hby d7_1)
    refine Goes.pre (U' := T4.setTop (mkF m 4 #[.val (.ref a)] [(.ref b)])) (fun t k => st4 t k) ?_
    obtain ⟨cl5, Ar5, q5, Sz5, Ng5, -, -⟩ := id V_b
    have ln5 := len_of Sz5 Ng5
    refine Goes.pre (U' := T4.setTop (mkF m 6 #[.val (.ref a)] [(.ref a), (.int (2 : Int32))])) (fun t k => X4.arraylength hx (by rw [e4]; exact Ar5.1) (State.isArrayOf_alike hZ.alike Ar5.2.1) (g := (mkF m 4 #[.val (.ref a)] [(.ref b)])) rfl rfl (hb hby d7_4) _ (by rw [ln5]; exact (XS.aloadN X4.here hx rfl (hb hby d7_5) rfl rfl k))) ?_
    obtain ⟨cq6, kq6, q6a, q6b, q6c⟩ := isOf hZ e4 E_a
    obtain ⟨_, _, ⟨T6, L6, k6, n6⟩, -, X6, ⟨Lc6, hQ6, l6, y6, z6⟩, st6⟩ := X4.virtualBack hx (y := (⟨"java/lang/String", "coder", "()B"⟩ : MethodName)) (z := (⟨"java/lang/String", "coder", "()B"⟩ : MethodName)) hown (mvT hZ (wq hw 43 rfl)) (mvT hZ (wq hw 44 rfl)) (notFace_of_selects (args := #[]) (mvT hZ (wq hw 46 rfl))) (mvT hZ (wq hw 46 rfl)) (mvT hZ (wq hw 45 rfl)) (by decide) (backOf (W := 1) (rm_coder1 l Z a0 hw [] a cs h0 n0 Z0 S_COMPACT_STRINGS F_coder_a hcs O) hZ (wq hw 47 rfl) (wq hw 10 rfl) (by decide) (by decide)) q6a q6c (g := (mkF m 6 #[.val (.ref a)] [(.ref a), (.int (2 : Int32))])) rfl (by rw [hml]; rfl) (Steps.refl _) (argsL := []) (rest := [(.int (2 : Int32))]) (lenOf pd__28_29B rfl) rfl (by show 2 * 0 + _ ≤ _; exact Nat.le_of_eq rfl) (hb hby d7_6) (fun _ _ => ⟨rfl, e4, (by decide : 0 + 0 ≤ _), (by decide : 0 + 0 ≤ _)⟩)
    dsimp only [Pt.U, Pt.locs, Pt.cells, Pt.slots] at X6 l6 y6 z6 st6 hQ6
    subst l6 y6 z6
    obtain ⟨rfl, N6q, HQ6⟩ := hQ6
    have N6 := Fr.app N0 N6q
    refine Goes.pre (U' := T6.setTop (mkF m 10 #[.val (.ref a)] [(.int ((2 : Int32) >>> ((1 : Int32) &&& 31)))])) (fun t k => st6.trans (XS.ishr X6.here hx rfl (hb hby d7_9) rfl k)) ?_
    rw [(by decide : ((2 : Int32) >>> ((1 : Int32) &&& 31)) = (1 : Int32))]
    refine Goes.ret X6 (v := (some (.int (1 : Int32)))) (fun h => by rw [hret] at h; cases h) hlk (by decide) (by decide) HQ6 (fun fs hr => retI X6 hx hret (hb hby d7_10) hr) ?_
    exact ⟨rfl, N6, rfl⟩
theorem ef_rm_ch10 (m : MethodId) (x0 : Addr) (x1 : Int32) : entryFrame m #[(.ref x0), (.int x1)] 2 = mkF m 0 #[.val (.ref x0), .val (.int x1)] [] := by first | (simp [entryFrame, mkF, argsToLocals, Value.category]; done) | rfl
abbrev M13 : MethodName := ⟨"java/lang/String", "charAt", "(I)C"⟩
theorem d13_0 : decode jdk_42_method_56_code 0 = .ok (.aload_n 0, 1) := by decide +kernel
theorem d13_1 : decode jdk_42_method_56_code 1 = .ok (.invokevirtual 492, 3) := by decide +kernel
theorem pd__28_29Z : parseMethodDescriptor "()Z" = some ⟨[], some .boolean⟩ := by decide +kernel
theorem d13_4 : decode jdk_42_method_56_code 4 = .ok (.ifCond .eq 12, 3) := by decide +kernel
theorem d13_7 : decode jdk_42_method_56_code 7 = .ok (.aload_n 0, 1) := by decide +kernel
theorem d13_8 : decode jdk_42_method_56_code 8 = .ok (.getfield 9, 3) := by decide +kernel
theorem d13_11 : decode jdk_42_method_56_code 11 = .ok (.iload_n 1, 1) := by decide +kernel
theorem d13_12 : decode jdk_42_method_56_code 12 = .ok (.invokestatic 495, 3) := by decide +kernel
theorem d13_15 : decode jdk_42_method_56_code 15 = .ok (.ireturn, 1) := by decide +kernel
theorem d13_16 : decode jdk_42_method_56_code 16 = .ok (.aload_n 0, 1) := by decide +kernel
theorem d13_17 : decode jdk_42_method_56_code 17 = .ok (.getfield 9, 3) := by decide +kernel
theorem d13_20 : decode jdk_42_method_56_code 20 = .ok (.iload_n 1, 1) := by decide +kernel
theorem d13_21 : decode jdk_42_method_56_code 21 = .ok (.invokestatic 498, 3) := by decide +kernel
theorem d13_24 : decode jdk_42_method_56_code 24 = .ok (.ireturn, 1) := by decide +kernel
def Q_rm_ch10 (Z : State) (a : Addr) (b : Addr) (kb : ClassId) (c0 : Int32) (cs : Int32) (sf : Value) (h0 : Heap) (n0 : Nat) (v : Option Value) (h : Heap) (L : List Loc) : Prop := v = some (.int c0) ∧ Fr n0 L ∧ h = h0
set_option maxRecDepth 65536 in
set_option maxHeartbeats 40000000 in
theorem rm_ch10 (l : Launch) (Z : State) (a0 : Array Value) (hw : ∀ d ∈ tables_1, d.before a0 Z = true) (ws : List Jvm.Cond) (a : Addr) (b : Addr) (kb : ClassId) (c0 : Int32) (cs : Int32) (sf : Value) (h0 : Heap) (n0 : Nat) (Z0 : n0 ≤ h0.size) (S_a : OwnStr Z h0 a b kb [c0]) (S_COMPACT_STRINGS : Sta Z Z.heap "java/lang/String" "COMPACT_STRINGS" "Z" (.int cs)) (S__assertionsDisabled : Sta Z Z.heap "java/lang/StringUTF16" "$assertionsDisabled" "Z" (.int (1 : Int32))) (S_HI_BYTE_SHIFT : Sta Z Z.heap "java/lang/StringUTF16" "HI_BYTE_SHIFT" "I" (.int (0 : Int32))) (S_LO_BYTE_SHIFT : Sta Z Z.heap "java/lang/StringUTF16" "LO_BYTE_SHIFT" "I" (.int (8 : Int32))) (S_SIOOBE_FORMATTER : Sta Z Z.heap "jdk/internal/util/Preconditions" "SIOOBE_FORMATTER" "Ljava/util/function/BiFunction;" sf) (hcs : ¬ (cs = (0 : Int32))) (hsf : sf.isRef = true) (O : Old Z n0 h0) :
    Met l Z M13 jdk_42_method_56_code 2 (some .char) ws (Rm 4 0 0 53) #[(.ref a), (.int (0 : Int32))] h0 (Q_rm_ch10 Z a b kb c0 cs sf h0 n0) := by
  refine met_of (plainFor_of_name pn_java_lang_String) (own := "java/lang/String") rfl (fun m => ef_rm_ch10 m a (0 : Int32)) ?_
  intro p e s m below meth c s₁ hx hby hml hown hnm hZ X0 e0 hret hlk
  have N0 := Fr.nil n0
  show Goes p e below s _ _ _ (s₁.setTop (mkF m 0 #[.val (.ref a), .val (.int (0 : Int32))] []))
  obtain ⟨E_a, F_value_a, hcA, hS⟩ := S_a
  have hch0 : OwnCh c0 := hcA c0 (List.mem_of_getElem? (i := 0) rfl)
  rcases hS with ⟨F_coder_a, V_b, hle⟩ | ⟨F_coder_a, V_b, hex⟩
  ·
    have V_b : Arv Z h0 b kb .byte (1 : Int32) [(.int c0.toInt8.toInt32)] (.int (0 : Int32)) := V_b
    have hle0 : ¬ ((255 : Int32) < c0) := hle c0 (List.mem_of_getElem? (i := 0) rfl)
    refine Goes.pre (U' := s₁.setTop (mkF m 1 #[.val (.ref a), .val (.int (0 : Int32))] [(.ref a)])) (fun t k => XS.aloadN X0.here hx rfl (hb hby d13_0) rfl rfl k) ?_
    obtain ⟨cq1, kq1, q1a, q1b, q1c⟩ := isOf hZ e0 E_a
    obtain ⟨_, _, ⟨T1, L1, k1, n1⟩, -, X1, ⟨Lc1, hQ1, l1, y1, z1⟩, st1⟩ := X0.virtualBack hx (y := (⟨"java/lang/String", "isLatin1", "()Z"⟩ : MethodName)) (z := (⟨"java/lang/String", "isLatin1", "()Z"⟩ : MethodName)) hown (mvT hZ (wq hw 70 rfl)) (mvT hZ (wq hw 71 rfl)) (notFace_of_selects (args := #[]) (mvT hZ (wq hw 73 rfl))) (mvT hZ (wq hw 73 rfl)) (mvT hZ (wq hw 72 rfl)) (by decide) (backOf (W := 0) (rm_isL0 l Z a0 hw [] a cs h0 n0 Z0 S_COMPACT_STRINGS F_coder_a hcs O) hZ (wq hw 74 rfl) (wq hw 10 rfl) (by decide) (by decide)) q1a q1c (g := (mkF m 1 #[.val (.ref a), .val (.int (0 : Int32))] [(.ref a)])) rfl (by rw [hml]; rfl) (Steps.refl _) (argsL := []) (rest := []) (lenOf pd__28_29Z rfl) rfl (by show 2 * 0 + _ ≤ _; exact Nat.le_of_eq rfl) (hb hby d13_1) (fun _ _ => ⟨rfl, e0, (by decide : 0 + 0 ≤ _), (by decide : 0 + 0 ≤ _)⟩)
    dsimp only [Pt.U, Pt.locs, Pt.cells, Pt.slots] at X1 l1 y1 z1 st1 hQ1
    subst l1 y1 z1
    obtain ⟨rfl, N1q, HQ1⟩ := hQ1
    have N1 := Fr.app N0 N1q
    refine Goes.pre (U' := T1.setTop (mkF m 4 #[.val (.ref a), .val (.int (0 : Int32))] [(.int (1 : Int32))])) (fun t k => st1.trans k) ?_
    have hc4 : ¬ ((1 : Int32) = (0 : Int32)) := by decide
    refine Goes.pre (U' := T1.setTop (mkF m 8 #[.val (.ref a), .val (.int (0 : Int32))] [(.ref a)])) (fun t k => XS.ifNo X1.here hx rfl (hb hby d13_4) rfl ((if0 _ _).trans (feq hc4).1) (XS.aloadN X1.here hx rfl (hb hby d13_7) rfl rfl k)) ?_
    obtain ⟨T2, X2, e2, st2⟩ := getF X1 hx hZ hown (host := "") (Or.inl (wq hw 28 rfl)) Via.refl HQ1 F_value_a (g := (mkF m 8 #[.val (.ref a), .val (.int (0 : Int32))] [(.ref a)])) rfl rfl (hb hby d13_8)
    refine Goes.pre (U' := T2.setTop (mkF m 12 #[.val (.ref a), .val (.int (0 : Int32))] [(.int (0 : Int32)), (.ref b)])) (fun t k => st2 t (XS.iloadN X2.here hx rfl (hb hby d13_11) rfl k)) ?_
    obtain ⟨_, _, ⟨T3, L3, k3, n3⟩, -, X3, ⟨Lc3, hQ3, l3, y3, z3⟩, st3⟩ := Jvm.LawKit.callS X2 hx (y := (⟨"java/lang/StringLatin1", "charAt", "([BI)C"⟩ : MethodName)) hown (mvT hZ (wq hw 75 rfl)) (mvT hZ (wq hw 76 rfl)) (mvT hZ (wq hw 77 rfl)) (mvT hZ (wq hw 78 rfl)) (by decide) (backOf (W := 0) (rm_l1ch10 l Z a0 hw [] b kb c0 sf h0 n0 Z0 V_b S_SIOOBE_FORMATTER hch0 hle0 hsf O) hZ (wq hw 78 rfl) (wq hw 77 rfl) (by decide) (by decide)) (g := (mkF m 12 #[.val (.ref a), .val (.int (0 : Int32))] [(.int (0 : Int32)), (.ref b)])) rfl (by rw [hml]; rfl) (argsL := [(.ref b), (.int (0 : Int32))]) (rest := []) (lenOf pd__28_5bBI_29C rfl) rfl (by show 2 * 0 + _ ≤ _; exact Nat.le_of_eq rfl) (hb hby d13_12) (fun _ _ => ⟨rfl, e2, (by decide : 0 + 0 ≤ _), (by decide : 0 + 0 ≤ _)⟩)
    dsimp only [Pt.U, Pt.locs, Pt.cells, Pt.slots] at X3 l3 y3 z3 st3 hQ3
    subst l3 y3 z3
    obtain ⟨rfl, N3q, HQ3⟩ := hQ3
    have N3 := Fr.app N1 N3q
    refine Goes.pre (U' := T3.setTop (mkF m 15 #[.val (.ref a), .val (.int (0 : Int32))] [(.int c0)])) (fun t k => st3 t k) ?_
    refine Goes.ret X3 (v := (some (.int c0))) (fun h => by rw [hret] at h; cases h) hlk (by decide) (by decide) HQ3 (fun fs hr => retN X3 hx (t := .char) hret (by simp) (hb hby d13_15) (by rw [show nar .char c0 = c0 from own_nch _ hch0]; exact hr)) ?_
    exact ⟨rfl, N3, rfl⟩
  ·
    have V_b : Arv Z h0 b kb .byte (2 : Int32) [(.int (c0 >>> ((0 : Int32) &&& 31)).toInt8.toInt32), (.int (c0 >>> ((8 : Int32) &&& 31)).toInt8.toInt32)] (.int (0 : Int32)) := V_b
    refine Goes.pre (U' := s₁.setTop (mkF m 1 #[.val (.ref a), .val (.int (0 : Int32))] [(.ref a)])) (fun t k => XS.aloadN X0.here hx rfl (hb hby d13_0) rfl rfl k) ?_
    obtain ⟨cq4, kq4, q4a, q4b, q4c⟩ := isOf hZ e0 E_a
    obtain ⟨_, _, ⟨T4, L4, k4, n4⟩, -, X4, ⟨Lc4, hQ4, l4, y4, z4⟩, st4⟩ := X0.virtualBack hx (y := (⟨"java/lang/String", "isLatin1", "()Z"⟩ : MethodName)) (z := (⟨"java/lang/String", "isLatin1", "()Z"⟩ : MethodName)) hown (mvT hZ (wq hw 70 rfl)) (mvT hZ (wq hw 71 rfl)) (notFace_of_selects (args := #[]) (mvT hZ (wq hw 73 rfl))) (mvT hZ (wq hw 73 rfl)) (mvT hZ (wq hw 72 rfl)) (by decide) (backOf (W := 0) (rm_isL1 l Z a0 hw [] a cs h0 n0 Z0 S_COMPACT_STRINGS F_coder_a hcs O) hZ (wq hw 74 rfl) (wq hw 10 rfl) (by decide) (by decide)) q4a q4c (g := (mkF m 1 #[.val (.ref a), .val (.int (0 : Int32))] [(.ref a)])) rfl (by rw [hml]; rfl) (Steps.refl _) (argsL := []) (rest := []) (lenOf pd__28_29Z rfl) rfl (by show 2 * 0 + _ ≤ _; exact Nat.le_of_eq rfl) (hb hby d13_1) (fun _ _ => ⟨rfl, e0, (by decide : 0 + 0 ≤ _), (by decide : 0 + 0 ≤ _)⟩)
    dsimp only [Pt.U, Pt.locs, Pt.cells, Pt.slots] at X4 l4 y4 z4 st4 hQ4
    subst l4 y4 z4
    obtain ⟨rfl, N4q, HQ4⟩ := hQ4
    have N4 := Fr.app N0 N4q
    refine Goes.pre (U' := T4.setTop (mkF m 4 #[.val (.ref a), .val (.int (0 : Int32))] [(.int (0 : Int32))])) (fun t k => st4.trans k) ?_
    have hc4 : (0 : Int32) = (0 : Int32) := rfl
    refine Goes.pre (U' := T4.setTop (mkF m 17 #[.val (.ref a), .val (.int (0 : Int32))] [(.ref a)])) (fun t k => XS.ifYes X4.here hx rfl (pc0 := 4) (pc' := 16) rfl (hb hby d13_4) rfl ((if0 _ _).trans (teq hc4).1) (by decide) (by decide) (XS.aloadN X4.here hx rfl (hb hby d13_16) rfl rfl k)) ?_
    obtain ⟨T5, X5, e5, st5⟩ := getF X4 hx hZ hown (host := "") (Or.inl (wq hw 28 rfl)) Via.refl HQ4 F_value_a (g := (mkF m 17 #[.val (.ref a), .val (.int (0 : Int32))] [(.ref a)])) rfl rfl (hb hby d13_17)
    refine Goes.pre (U' := T5.setTop (mkF m 21 #[.val (.ref a), .val (.int (0 : Int32))] [(.int (0 : Int32)), (.ref b)])) (fun t k => st5 t (XS.iloadN X5.here hx rfl (hb hby d13_20) rfl k)) ?_
    obtain ⟨_, _, ⟨T6, L6, k6, n6⟩, -, X6, ⟨Lc6, hQ6, l6, y6, z6⟩, st6⟩ := Jvm.LawKit.callS X5 hx (y := (⟨"java/lang/StringUTF16", "charAt", "([BI)C"⟩ : MethodName)) hown (mvT hZ (wq hw 109 rfl)) (mvT hZ (wq hw 110 rfl)) (mvT hZ (wq hw 51 rfl)) (mvT hZ (wq hw 111 rfl)) (by decide) (backOf (W := 0) (rm_uch10 l Z a0 hw [] b kb c0 sf h0 n0 Z0 V_b S__assertionsDisabled S_HI_BYTE_SHIFT S_LO_BYTE_SHIFT S_SIOOBE_FORMATTER hch0 hsf O) hZ (wq hw 111 rfl) (wq hw 51 rfl) (by decide) (by decide)) (g := (mkF m 21 #[.val (.ref a), .val (.int (0 : Int32))] [(.int (0 : Int32)), (.ref b)])) rfl (by rw [hml]; rfl) (argsL := [(.ref b), (.int (0 : Int32))]) (rest := []) (lenOf pd__28_5bBI_29C rfl) rfl (by show 2 * 0 + _ ≤ _; exact Nat.le_of_eq rfl) (hb hby d13_21) (fun _ _ => ⟨rfl, e5, (by decide : 0 + 0 ≤ _), (by decide : 0 + 0 ≤ _)⟩)
    dsimp only [Pt.U, Pt.locs, Pt.cells, Pt.slots] at X6 l6 y6 z6 st6 hQ6
    subst l6 y6 z6
    obtain ⟨rfl, N6q, HQ6⟩ := hQ6
    have N6 := Fr.app N4 N6q
    refine Goes.pre (U' := T6.setTop (mkF m 24 #[.val (.ref a), .val (.int (0 : Int32))] [(.int c0)])) (fun t k => st6 t k) ?_
    refine Goes.ret X6 (v := (some (.int c0))) (fun h => by rw [hret] at h; cases h) hlk (by decide) (by decide) HQ6 (fun fs hr => retN X6 hx (t := .char) hret (by simp) (hb hby d13_24) (by rw [show nar .char c0 = c0 from own_nch _ hch0]; exact hr)) ?_
    exact ⟨rfl, N6, rfl⟩
theorem ef_rm_len2 (m : MethodId) (x0 : Addr) : entryFrame m #[(.ref x0)] 1 = mkF m 0 #[.val (.ref x0)] [] := by first | (simp [entryFrame, mkF, argsToLocals, Value.category]; done) | rfl
def Q_rm_len2 (Z : State) (a : Addr) (b : Addr) (kb : ClassId) (c0 : Int32) (c1 : Int32) (cs : Int32) (h0 : Heap) (n0 : Nat) (v : Option Value) (h : Heap) (L : List Loc) : Prop := v = some (.int (2 : Int32)) ∧ Fr n0 L ∧ h = h0
set_option maxRecDepth 65536 in
set_option maxHeartbeats 40000000 in
theorem rm_len2 (l : Launch) (Z : State) (a0 : Array Value) (hw : ∀ d ∈ tables_1, d.before a0 Z = true) (ws : List Jvm.Cond) (a : Addr) (b : Addr) (kb : ClassId) (c0 : Int32) (c1 : Int32) (cs : Int32) (h0 : Heap) (n0 : Nat) (Z0 : n0 ≤ h0.size) (S_a : OwnStr Z h0 a b kb [c0, c1]) (S_COMPACT_STRINGS : Sta Z Z.heap "java/lang/String" "COMPACT_STRINGS" "Z" (.int cs)) (hcs : ¬ (cs = (0 : Int32))) (O : Old Z n0 h0) :
    Met l Z M7 jdk_42_method_54_code 1 (some .int) ws (Rm 1 0 0 13) #[(.ref a)] h0 (Q_rm_len2 Z a b kb c0 c1 cs h0 n0) := by
  refine met_of (plainFor_of_name pn_java_lang_String) (own := "java/lang/String") rfl (fun m => ef_rm_len2 m a) ?_
  intro p e s m below meth c s₁ hx hby hml hown hnm hZ X0 e0 hret hlk
  have N0 := Fr.nil n0
  show Goes p e below s _ _ _ (s₁.setTop (mkF m 0 #[.val (.ref a)] []))
  obtain ⟨E_a, F_value_a, hcA, hS⟩ := S_a
  have hch0 : OwnCh c0 := hcA c0 (List.mem_of_getElem? (i := 0) rfl)
  have hch1 : OwnCh c1 := hcA c1 (List.mem_of_getElem? (i := 1) rfl)
  rcases hS with ⟨F_coder_a, V_b, hle⟩ | ⟨F_coder_a, V_b, hex⟩
  ·
    have V_b : Arv Z h0 b kb .byte (2 : Int32) [(.int c0.toInt8.toInt32), (.int c1.toInt8.toInt32)] (.int (0 : Int32)) := V_b
    have hle0 : ¬ ((255 : Int32) < c0) := hle c0 (List.mem_of_getElem? (i := 0) rfl)
    have hle1 : ¬ ((255 : Int32) < c1) := hle c1 (List.mem_of_getElem? (i := 1) rfl)
    refine Goes.pre (U' := s₁.setTop (mkF m 1 #[.val (.ref a)] [(.ref a)])) (fun t k => XS.aloadN X0.here hx rfl (hb hby d7_0) rfl rfl k) ?_
    obtain ⟨T1, X1, e1, st1⟩ := getF X0 hx hZ hown (host := "") (Or.inl (wq hw 28 rfl)) Via.refl e0 F_value_a (g := (mkF m 1 #[.val (.ref a)] [(.ref a)])) rfl rfl (hb hby d7_1)
    refine Goes.pre (U' := T1.setTop (mkF m 4 #[.val (.ref a)] [(.ref b)])) (fun t k => st1 t k) ?_
    obtain ⟨cl2, Ar2, q2, Sz2, Ng2, -, -⟩ := id V_b
    have ln2 := len_of Sz2 Ng2
    refine Goes.pre (U' := T1.setTop (mkF m 6 #[.val (.ref a)] [(.ref a), (.int (2 : Int32))])) (fun t k => X1.arraylength hx (by rw [e1]; exact Ar2.1) (State.isArrayOf_alike hZ.alike Ar2.2.1) (g := (mkF m 4 #[.val (.ref a)] [(.ref b)])) rfl rfl (hb hby d7_4) _ (by rw [ln2]; exact (XS.aloadN X1.here hx rfl (hb hby d7_5) rfl rfl k))) ?_
    obtain ⟨cq3, kq3, q3a, q3b, q3c⟩ := isOf hZ e1 E_a
    obtain ⟨_, _, ⟨T3, L3, k3, n3⟩, -, X3, ⟨Lc3, hQ3, l3, y3, z3⟩, st3⟩ := X1.virtualBack hx (y := (⟨"java/lang/String", "coder", "()B"⟩ : MethodName)) (z := (⟨"java/lang/String", "coder", "()B"⟩ : MethodName)) hown (mvT hZ (wq hw 43 rfl)) (mvT hZ (wq hw 44 rfl)) (notFace_of_selects (args := #[]) (mvT hZ (wq hw 46 rfl))) (mvT hZ (wq hw 46 rfl)) (mvT hZ (wq hw 45 rfl)) (by decide) (backOf (W := 1) (rm_coder0 l Z a0 hw [] a cs h0 n0 Z0 S_COMPACT_STRINGS F_coder_a hcs O) hZ (wq hw 47 rfl) (wq hw 10 rfl) (by decide) (by decide)) q3a q3c (g := (mkF m 6 #[.val (.ref a)] [(.ref a), (.int (2 : Int32))])) rfl (by rw [hml]; rfl) (Steps.refl _) (argsL := []) (rest := [(.int (2 : Int32))]) (lenOf pd__28_29B rfl) rfl (by show 2 * 0 + _ ≤ _; exact Nat.le_of_eq rfl) (hb hby d7_6) (fun _ _ => ⟨rfl, e1, (by decide : 0 + 0 ≤ _), (by decide : 0 + 0 ≤ _)⟩)
    dsimp only [Pt.U, Pt.locs, Pt.cells, Pt.slots] at X3 l3 y3 z3 st3 hQ3
    subst l3 y3 z3
    obtain ⟨rfl, N3q, HQ3⟩ := hQ3
    have N3 := Fr.app N0 N3q
    refine Goes.pre (U' := T3.setTop (mkF m 10 #[.val (.ref a)] [(.int ((2 : Int32) >>> ((0 : Int32) &&& 31)))])) (fun t k => st3.trans (XS.ishr X3.here hx rfl (hb hby d7_9) rfl k)) ?_
    rw [(by decide : ((2 : Int32) >>> ((0 : Int32) &&& 31)) = (2 : Int32))]
    refine Goes.ret X3 (v := (some (.int (2 : Int32)))) (fun h => by rw [hret] at h; cases h) hlk (by decide) (by decide) HQ3 (fun fs hr => retI X3 hx hret (hb hby d7_10) hr) ?_
    exact ⟨rfl, N3, rfl⟩
  ·
    have V_b : Arv Z h0 b kb .byte (4 : Int32) [(.int (c0 >>> ((0 : Int32) &&& 31)).toInt8.toInt32), (.int (c0 >>> ((8 : Int32) &&& 31)).toInt8.toInt32), (.int (c1 >>> ((0 : Int32) &&& 31)).toInt8.toInt32), (.int (c1 >>> ((8 : Int32) &&& 31)).toInt8.toInt32)] (.int (0 : Int32)) := V_b
    refine Goes.pre (U' := s₁.setTop (mkF m 1 #[.val (.ref a)] [(.ref a)])) (fun t k => XS.aloadN X0.here hx rfl (hb hby d7_0) rfl rfl k) ?_
    obtain ⟨T4, X4, e4, st4⟩ := getF X0 hx hZ hown (host := "") (Or.inl (wq hw 28 rfl)) Via.refl e0 F_value_a (g := (mkF m 1 #[.val (.ref a)] [(.ref a)])) rfl rfl (hb hby d7_1)
    refine Goes.pre (U' := T4.setTop (mkF m 4 #[.val (.ref a)] [(.ref b)])) (fun t k => st4 t k) ?_
    obtain ⟨cl5, Ar5, q5, Sz5, Ng5, -, -⟩ := id V_b
    have ln5 := len_of Sz5 Ng5
    refine Goes.pre (U' := T4.setTop (mkF m 6 #[.val (.ref a)] [(.ref a), (.int (4 : Int32))])) (fun t k => X4.arraylength hx (by rw [e4]; exact Ar5.1) (State.isArrayOf_alike hZ.alike Ar5.2.1) (g := (mkF m 4 #[.val (.ref a)] [(.ref b)])) rfl rfl (hb hby d7_4) _ (by rw [ln5]; exact (XS.aloadN X4.here hx rfl (hb hby d7_5) rfl rfl k))) ?_
    obtain ⟨cq6, kq6, q6a, q6b, q6c⟩ := isOf hZ e4 E_a
    obtain ⟨_, _, ⟨T6, L6, k6, n6⟩, -, X6, ⟨Lc6, hQ6, l6, y6, z6⟩, st6⟩ := X4.virtualBack hx (y := (⟨"java/lang/String", "coder", "()B"⟩ : MethodName)) (z := (⟨"java/lang/String", "coder", "()B"⟩ : MethodName)) hown (mvT hZ (wq hw 43 rfl)) (mvT hZ (wq hw 44 rfl)) (notFace_of_selects (args := #[]) (mvT hZ (wq hw 46 rfl))) (mvT hZ (wq hw 46 rfl)) (mvT hZ (wq hw 45 rfl)) (by decide) (backOf (W := 1) (rm_coder1 l Z a0 hw [] a cs h0 n0 Z0 S_COMPACT_STRINGS F_coder_a hcs O) hZ (wq hw 47 rfl) (wq hw 10 rfl) (by decide) (by decide)) q6a q6c (g := (mkF m 6 #[.val (.ref a)] [(.ref a), (.int (4 : Int32))])) rfl (by rw [hml]; rfl) (Steps.refl _) (argsL := []) (rest := [(.int (4 : Int32))]) (lenOf pd__28_29B rfl) rfl (by show 2 * 0 + _ ≤ _; exact Nat.le_of_eq rfl) (hb hby d7_6) (fun _ _ => ⟨rfl, e4, (by decide : 0 + 0 ≤ _), (by decide : 0 + 0 ≤ _)⟩)
    dsimp only [Pt.U, Pt.locs, Pt.cells, Pt.slots] at X6 l6 y6 z6 st6 hQ6
    subst l6 y6 z6
    obtain ⟨rfl, N6q, HQ6⟩ := hQ6
    have N6 := Fr.app N0 N6q
    refine Goes.pre (U' := T6.setTop (mkF m 10 #[.val (.ref a)] [(.int ((4 : Int32) >>> ((1 : Int32) &&& 31)))])) (fun t k => st6.trans (XS.ishr X6.here hx rfl (hb hby d7_9) rfl k)) ?_
    rw [(by decide : ((4 : Int32) >>> ((1 : Int32) &&& 31)) = (2 : Int32))]
    refine Goes.ret X6 (v := (some (.int (2 : Int32)))) (fun h => by rw [hret] at h; cases h) hlk (by decide) (by decide) HQ6 (fun fs hr => retI X6 hx hret (hb hby d7_10) hr) ?_
    exact ⟨rfl, N6, rfl⟩
theorem ef_rm_ch20 (m : MethodId) (x0 : Addr) (x1 : Int32) : entryFrame m #[(.ref x0), (.int x1)] 2 = mkF m 0 #[.val (.ref x0), .val (.int x1)] [] := by first | (simp [entryFrame, mkF, argsToLocals, Value.category]; done) | rfl
def Q_rm_ch20 (Z : State) (a : Addr) (b : Addr) (kb : ClassId) (c0 : Int32) (c1 : Int32) (cs : Int32) (sf : Value) (h0 : Heap) (n0 : Nat) (v : Option Value) (h : Heap) (L : List Loc) : Prop := v = some (.int c0) ∧ Fr n0 L ∧ h = h0
set_option maxRecDepth 65536 in
set_option maxHeartbeats 40000000 in
theorem rm_ch20 (l : Launch) (Z : State) (a0 : Array Value) (hw : ∀ d ∈ tables_1, d.before a0 Z = true) (ws : List Jvm.Cond) (a : Addr) (b : Addr) (kb : ClassId) (c0 : Int32) (c1 : Int32) (cs : Int32) (sf : Value) (h0 : Heap) (n0 : Nat) (Z0 : n0 ≤ h0.size) (S_a : OwnStr Z h0 a b kb [c0, c1]) (S_COMPACT_STRINGS : Sta Z Z.heap "java/lang/String" "COMPACT_STRINGS" "Z" (.int cs)) (S__assertionsDisabled : Sta Z Z.heap "java/lang/StringUTF16" "$assertionsDisabled" "Z" (.int (1 : Int32))) (S_HI_BYTE_SHIFT : Sta Z Z.heap "java/lang/StringUTF16" "HI_BYTE_SHIFT" "I" (.int (0 : Int32))) (S_LO_BYTE_SHIFT : Sta Z Z.heap "java/lang/StringUTF16" "LO_BYTE_SHIFT" "I" (.int (8 : Int32))) (S_SIOOBE_FORMATTER : Sta Z Z.heap "jdk/internal/util/Preconditions" "SIOOBE_FORMATTER" "Ljava/util/function/BiFunction;" sf) (hcs : ¬ (cs = (0 : Int32))) (hsf : sf.isRef = true) (O : Old Z n0 h0) :
    Met l Z M13 jdk_42_method_56_code 2 (some .char) ws (Rm 4 0 0 53) #[(.ref a), (.int (0 : Int32))] h0 (Q_rm_ch20 Z a b kb c0 c1 cs sf h0 n0) := by
  refine met_of (plainFor_of_name pn_java_lang_String) (own := "java/lang/String") rfl (fun m => ef_rm_ch20 m a (0 : Int32)) ?_
  intro p e s m below meth c s₁ hx hby hml hown hnm hZ X0 e0 hret hlk
  have N0 := Fr.nil n0
  show Goes p e below s _ _ _ (s₁.setTop (mkF m 0 #[.val (.ref a), .val (.int (0 : Int32))] []))
  obtain ⟨E_a, F_value_a, hcA, hS⟩ := S_a
  have hch0 : OwnCh c0 := hcA c0 (List.mem_of_getElem? (i := 0) rfl)
  have hch1 : OwnCh c1 := hcA c1 (List.mem_of_getElem? (i := 1) rfl)
  rcases hS with ⟨F_coder_a, V_b, hle⟩ | ⟨F_coder_a, V_b, hex⟩
  ·
    have V_b : Arv Z h0 b kb .byte (2 : Int32) [(.int c0.toInt8.toInt32), (.int c1.toInt8.toInt32)] (.int (0 : Int32)) := V_b
    have hle0 : ¬ ((255 : Int32) < c0) := hle c0 (List.mem_of_getElem? (i := 0) rfl)
    have hle1 : ¬ ((255 : Int32) < c1) := hle c1 (List.mem_of_getElem? (i := 1) rfl)
    refine Goes.pre (U' := s₁.setTop (mkF m 1 #[.val (.ref a), .val (.int (0 : Int32))] [(.ref a)])) (fun t k => XS.aloadN X0.here hx rfl (hb hby d13_0) rfl rfl k) ?_
    obtain ⟨cq1, kq1, q1a, q1b, q1c⟩ := isOf hZ e0 E_a
    obtain ⟨_, _, ⟨T1, L1, k1, n1⟩, -, X1, ⟨Lc1, hQ1, l1, y1, z1⟩, st1⟩ := X0.virtualBack hx (y := (⟨"java/lang/String", "isLatin1", "()Z"⟩ : MethodName)) (z := (⟨"java/lang/String", "isLatin1", "()Z"⟩ : MethodName)) hown (mvT hZ (wq hw 70 rfl)) (mvT hZ (wq hw 71 rfl)) (notFace_of_selects (args := #[]) (mvT hZ (wq hw 73 rfl))) (mvT hZ (wq hw 73 rfl)) (mvT hZ (wq hw 72 rfl)) (by decide) (backOf (W := 0) (rm_isL0 l Z a0 hw [] a cs h0 n0 Z0 S_COMPACT_STRINGS F_coder_a hcs O) hZ (wq hw 74 rfl) (wq hw 10 rfl) (by decide) (by decide)) q1a q1c (g := (mkF m 1 #[.val (.ref a), .val (.int (0 : Int32))] [(.ref a)])) rfl (by rw [hml]; rfl) (Steps.refl _) (argsL := []) (rest := []) (lenOf pd__28_29Z rfl) rfl (by show 2 * 0 + _ ≤ _; exact Nat.le_of_eq rfl) (hb hby d13_1) (fun _ _ => ⟨rfl, e0, (by decide : 0 + 0 ≤ _), (by decide : 0 + 0 ≤ _)⟩)
    dsimp only [Pt.U, Pt.locs, Pt.cells, Pt.slots] at X1 l1 y1 z1 st1 hQ1
    subst l1 y1 z1
    obtain ⟨rfl, N1q, HQ1⟩ := hQ1
    have N1 := Fr.app N0 N1q
    refine Goes.pre (U' := T1.setTop (mkF m 4 #[.val (.ref a), .val (.int (0 : Int32))] [(.int (1 : Int32))])) (fun t k => st1.trans k) ?_
    have hc4 : ¬ ((1 : Int32) = (0 : Int32)) := by decide
    refine Goes.pre (U' := T1.setTop (mkF m 8 #[.val (.ref a), .val (.int (0 : Int32))] [(.ref a)])) (fun t k => XS.ifNo X1.here hx rfl (hb hby d13_4) rfl ((if0 _ _).trans (feq hc4).1) (XS.aloadN X1.here hx rfl (hb hby d13_7) rfl rfl k)) ?_
    obtain ⟨T2, X2, e2, st2⟩ := getF X1 hx hZ hown (host := "") (Or.inl (wq hw 28 rfl)) Via.refl HQ1 F_value_a (g := (mkF m 8 #[.val (.ref a), .val (.int (0 : Int32))] [(.ref a)])) rfl rfl (hb hby d13_8)
    refine Goes.pre (U' := T2.setTop (mkF m 12 #[.val (.ref a), .val (.int (0 : Int32))] [(.int (0 : Int32)), (.ref b)])) (fun t k => st2 t (XS.iloadN X2.here hx rfl (hb hby d13_11) rfl k)) ?_
    obtain ⟨_, _, ⟨T3, L3, k3, n3⟩, -, X3, ⟨Lc3, hQ3, l3, y3, z3⟩, st3⟩ := Jvm.LawKit.callS X2 hx (y := (⟨"java/lang/StringLatin1", "charAt", "([BI)C"⟩ : MethodName)) hown (mvT hZ (wq hw 75 rfl)) (mvT hZ (wq hw 76 rfl)) (mvT hZ (wq hw 77 rfl)) (mvT hZ (wq hw 78 rfl)) (by decide) (backOf (W := 0) (rm_l1ch20 l Z a0 hw [] b kb c0 c1 sf h0 n0 Z0 V_b S_SIOOBE_FORMATTER hch0 hle0 hsf O) hZ (wq hw 78 rfl) (wq hw 77 rfl) (by decide) (by decide)) (g := (mkF m 12 #[.val (.ref a), .val (.int (0 : Int32))] [(.int (0 : Int32)), (.ref b)])) rfl (by rw [hml]; rfl) (argsL := [(.ref b), (.int (0 : Int32))]) (rest := []) (lenOf pd__28_5bBI_29C rfl) rfl (by show 2 * 0 + _ ≤ _; exact Nat.le_of_eq rfl) (hb hby d13_12) (fun _ _ => ⟨rfl, e2, (by decide : 0 + 0 ≤ _), (by decide : 0 + 0 ≤ _)⟩)
    dsimp only [Pt.U, Pt.locs, Pt.cells, Pt.slots] at X3 l3 y3 z3 st3 hQ3
    subst l3 y3 z3
    obtain ⟨rfl, N3q, HQ3⟩ := hQ3
    have N3 := Fr.app N1 N3q
    refine Goes.pre (U' := T3.setTop (mkF m 15 #[.val (.ref a), .val (.int (0 : Int32))] [(.int c0)])) (fun t k => st3 t k) ?_
    refine Goes.ret X3 (v := (some (.int c0))) (fun h => by rw [hret] at h; cases h) hlk (by decide) (by decide) HQ3 (fun fs hr => retN X3 hx (t := .char) hret (by simp) (hb hby d13_15) (by rw [show nar .char c0 = c0 from own_nch _ hch0]; exact hr)) ?_
    exact ⟨rfl, N3, rfl⟩
  ·
    have V_b : Arv Z h0 b kb .byte (4 : Int32) [(.int (c0 >>> ((0 : Int32) &&& 31)).toInt8.toInt32), (.int (c0 >>> ((8 : Int32) &&& 31)).toInt8.toInt32), (.int (c1 >>> ((0 : Int32) &&& 31)).toInt8.toInt32), (.int (c1 >>> ((8 : Int32) &&& 31)).toInt8.toInt32)] (.int (0 : Int32)) := V_b
    refine Goes.pre (U' := s₁.setTop (mkF m 1 #[.val (.ref a), .val (.int (0 : Int32))] [(.ref a)])) (fun t k => XS.aloadN X0.here hx rfl (hb hby d13_0) rfl rfl k) ?_
    obtain ⟨cq4, kq4, q4a, q4b, q4c⟩ := isOf hZ e0 E_a
    obtain ⟨_, _, ⟨T4, L4, k4, n4⟩, -, X4, ⟨Lc4, hQ4, l4, y4, z4⟩, st4⟩ := X0.virtualBack hx (y := (⟨"java/lang/String", "isLatin1", "()Z"⟩ : MethodName)) (z := (⟨"java/lang/String", "isLatin1", "()Z"⟩ : MethodName)) hown (mvT hZ (wq hw 70 rfl)) (mvT hZ (wq hw 71 rfl)) (notFace_of_selects (args := #[]) (mvT hZ (wq hw 73 rfl))) (mvT hZ (wq hw 73 rfl)) (mvT hZ (wq hw 72 rfl)) (by decide) (backOf (W := 0) (rm_isL1 l Z a0 hw [] a cs h0 n0 Z0 S_COMPACT_STRINGS F_coder_a hcs O) hZ (wq hw 74 rfl) (wq hw 10 rfl) (by decide) (by decide)) q4a q4c (g := (mkF m 1 #[.val (.ref a), .val (.int (0 : Int32))] [(.ref a)])) rfl (by rw [hml]; rfl) (Steps.refl _) (argsL := []) (rest := []) (lenOf pd__28_29Z rfl) rfl (by show 2 * 0 + _ ≤ _; exact Nat.le_of_eq rfl) (hb hby d13_1) (fun _ _ => ⟨rfl, e0, (by decide : 0 + 0 ≤ _), (by decide : 0 + 0 ≤ _)⟩)
    dsimp only [Pt.U, Pt.locs, Pt.cells, Pt.slots] at X4 l4 y4 z4 st4 hQ4
    subst l4 y4 z4
    obtain ⟨rfl, N4q, HQ4⟩ := hQ4
    have N4 := Fr.app N0 N4q
    refine Goes.pre (U' := T4.setTop (mkF m 4 #[.val (.ref a), .val (.int (0 : Int32))] [(.int (0 : Int32))])) (fun t k => st4.trans k) ?_
    have hc4 : (0 : Int32) = (0 : Int32) := rfl
    refine Goes.pre (U' := T4.setTop (mkF m 17 #[.val (.ref a), .val (.int (0 : Int32))] [(.ref a)])) (fun t k => XS.ifYes X4.here hx rfl (pc0 := 4) (pc' := 16) rfl (hb hby d13_4) rfl ((if0 _ _).trans (teq hc4).1) (by decide) (by decide) (XS.aloadN X4.here hx rfl (hb hby d13_16) rfl rfl k)) ?_
    obtain ⟨T5, X5, e5, st5⟩ := getF X4 hx hZ hown (host := "") (Or.inl (wq hw 28 rfl)) Via.refl HQ4 F_value_a (g := (mkF m 17 #[.val (.ref a), .val (.int (0 : Int32))] [(.ref a)])) rfl rfl (hb hby d13_17)
    refine Goes.pre (U' := T5.setTop (mkF m 21 #[.val (.ref a), .val (.int (0 : Int32))] [(.int (0 : Int32)), (.ref b)])) (fun t k => st5 t (XS.iloadN X5.here hx rfl (hb hby d13_20) rfl k)) ?_
    obtain ⟨_, _, ⟨T6, L6, k6, n6⟩, -, X6, ⟨Lc6, hQ6, l6, y6, z6⟩, st6⟩ := Jvm.LawKit.callS X5 hx (y := (⟨"java/lang/StringUTF16", "charAt", "([BI)C"⟩ : MethodName)) hown (mvT hZ (wq hw 109 rfl)) (mvT hZ (wq hw 110 rfl)) (mvT hZ (wq hw 51 rfl)) (mvT hZ (wq hw 111 rfl)) (by decide) (backOf (W := 0) (rm_uch20 l Z a0 hw [] b kb c0 c1 sf h0 n0 Z0 V_b S__assertionsDisabled S_HI_BYTE_SHIFT S_LO_BYTE_SHIFT S_SIOOBE_FORMATTER hch0 hsf O) hZ (wq hw 111 rfl) (wq hw 51 rfl) (by decide) (by decide)) (g := (mkF m 21 #[.val (.ref a), .val (.int (0 : Int32))] [(.int (0 : Int32)), (.ref b)])) rfl (by rw [hml]; rfl) (argsL := [(.ref b), (.int (0 : Int32))]) (rest := []) (lenOf pd__28_5bBI_29C rfl) rfl (by show 2 * 0 + _ ≤ _; exact Nat.le_of_eq rfl) (hb hby d13_21) (fun _ _ => ⟨rfl, e5, (by decide : 0 + 0 ≤ _), (by decide : 0 + 0 ≤ _)⟩)
    dsimp only [Pt.U, Pt.locs, Pt.cells, Pt.slots] at X6 l6 y6 z6 st6 hQ6
    subst l6 y6 z6
    obtain ⟨rfl, N6q, HQ6⟩ := hQ6
    have N6 := Fr.app N4 N6q
    refine Goes.pre (U' := T6.setTop (mkF m 24 #[.val (.ref a), .val (.int (0 : Int32))] [(.int c0)])) (fun t k => st6 t k) ?_
    refine Goes.ret X6 (v := (some (.int c0))) (fun h => by rw [hret] at h; cases h) hlk (by decide) (by decide) HQ6 (fun fs hr => retN X6 hx (t := .char) hret (by simp) (hb hby d13_24) (by rw [show nar .char c0 = c0 from own_nch _ hch0]; exact hr)) ?_
    exact ⟨rfl, N6, rfl⟩
theorem ef_rm_ch21 (m : MethodId) (x0 : Addr) (x1 : Int32) : entryFrame m #[(.ref x0), (.int x1)] 2 = mkF m 0 #[.val (.ref x0), .val (.int x1)] [] := by first | (simp [entryFrame, mkF, argsToLocals, Value.category]; done) | rfl
def Q_rm_ch21 (Z : State) (a : Addr) (b : Addr) (kb : ClassId) (c0 : Int32) (c1 : Int32) (cs : Int32) (sf : Value) (h0 : Heap) (n0 : Nat) (v : Option Value) (h : Heap) (L : List Loc) : Prop := v = some (.int c1) ∧ Fr n0 L ∧ h = h0
set_option maxRecDepth 65536 in
set_option maxHeartbeats 40000000 in
theorem rm_ch21 (l : Launch) (Z : State) (a0 : Array Value) (hw : ∀ d ∈ tables_1, d.before a0 Z = true) (ws : List Jvm.Cond) (a : Addr) (b : Addr) (kb : ClassId) (c0 : Int32) (c1 : Int32) (cs : Int32) (sf : Value) (h0 : Heap) (n0 : Nat) (Z0 : n0 ≤ h0.size) (S_a : OwnStr Z h0 a b kb [c0, c1]) (S_COMPACT_STRINGS : Sta Z Z.heap "java/lang/String" "COMPACT_STRINGS" "Z" (.int cs)) (S__assertionsDisabled : Sta Z Z.heap "java/lang/StringUTF16" "$assertionsDisabled" "Z" (.int (1 : Int32))) (S_HI_BYTE_SHIFT : Sta Z Z.heap "java/lang/StringUTF16" "HI_BYTE_SHIFT" "I" (.int (0 : Int32))) (S_LO_BYTE_SHIFT : Sta Z Z.heap "java/lang/StringUTF16" "LO_BYTE_SHIFT" "I" (.int (8 : Int32))) (S_SIOOBE_FORMATTER : Sta Z Z.heap "jdk/internal/util/Preconditions" "SIOOBE_FORMATTER" "Ljava/util/function/BiFunction;" sf) (hcs : ¬ (cs = (0 : Int32))) (hsf : sf.isRef = true) (O : Old Z n0 h0) :
    Met l Z M13 jdk_42_method_56_code 2 (some .char) ws (Rm 4 0 0 53) #[(.ref a), (.int (1 : Int32))] h0 (Q_rm_ch21 Z a b kb c0 c1 cs sf h0 n0) := by
  refine met_of (plainFor_of_name pn_java_lang_String) (own := "java/lang/String") rfl (fun m => ef_rm_ch21 m a (1 : Int32)) ?_
  intro p e s m below meth c s₁ hx hby hml hown hnm hZ X0 e0 hret hlk
  have N0 := Fr.nil n0
  show Goes p e below s _ _ _ (s₁.setTop (mkF m 0 #[.val (.ref a), .val (.int (1 : Int32))] []))
  obtain ⟨E_a, F_value_a, hcA, hS⟩ := S_a
  have hch0 : OwnCh c0 := hcA c0 (List.mem_of_getElem? (i := 0) rfl)
  have hch1 : OwnCh c1 := hcA c1 (List.mem_of_getElem? (i := 1) rfl)
  rcases hS with ⟨F_coder_a, V_b, hle⟩ | ⟨F_coder_a, V_b, hex⟩
  ·
    have V_b : Arv Z h0 b kb .byte (2 : Int32) [(.int c0.toInt8.toInt32), (.int c1.toInt8.toInt32)] (.int (0 : Int32)) := V_b
    have hle0 : ¬ ((255 : Int32) < c0) := hle c0 (List.mem_of_getElem? (i := 0) rfl)
    have hle1 : ¬ ((255 : Int32) < c1) := hle c1 (List.mem_of_getElem? (i := 1) rfl)
    refine Goes.pre (U' := s₁.setTop (mkF m 1 #[.val (.ref a), .val (.int (1 : Int32))] [(.ref a)])) (fun t k => XS.aloadN X0.here hx rfl (hb hby d13_0) rfl rfl k) ?_
    obtain ⟨cq1, kq1, q1a, q1b, q1c⟩ := isOf hZ e0 E_a
    obtain ⟨_, _, ⟨T1, L1, k1, n1⟩, -, X1, ⟨Lc1, hQ1, l1, y1, z1⟩, st1⟩ := X0.virtualBack hx (y := (⟨"java/lang/String", "isLatin1", "()Z"⟩ : MethodName)) (z := (⟨"java/lang/String", "isLatin1", "()Z"⟩ : MethodName)) hown (mvT hZ (wq hw 70 rfl)) (mvT hZ (wq hw 71 rfl)) (notFace_of_selects (args := #[]) (mvT hZ (wq hw 73 rfl))) (mvT hZ (wq hw 73 rfl)) (mvT hZ (wq hw 72 rfl)) (by decide) (backOf (W := 0) (rm_isL0 l Z a0 hw [] a cs h0 n0 Z0 S_COMPACT_STRINGS F_coder_a hcs O) hZ (wq hw 74 rfl) (wq hw 10 rfl) (by decide) (by decide)) q1a q1c (g := (mkF m 1 #[.val (.ref a), .val (.int (1 : Int32))] [(.ref a)])) rfl (by rw [hml]; rfl) (Steps.refl _) (argsL := []) (rest := []) (lenOf pd__28_29Z rfl) rfl (by show 2 * 0 + _ ≤ _; exact Nat.le_of_eq rfl) (hb hby d13_1) (fun _ _ => ⟨rfl, e0, (by decide : 0 + 0 ≤ _), (by decide : 0 + 0 ≤ _)⟩)
    dsimp only [Pt.U, Pt.locs, Pt.cells, Pt.slots] at X1 l1 y1 z1 st1 hQ1
    subst l1 y1 z1
    obtain ⟨rfl, N1q, HQ1⟩ := hQ1
    have N1 := Fr.app N0 N1q
    refine Goes.pre (U' := T1.setTop (mkF m 4 #[.val (.ref a), .val (.int (1 : Int32))] [(.int (1 : Int32))])) (fun t k => st1.trans k) ?_
    have hc4 : ¬ ((1 : Int32) = (0 : Int32)) := by decide
    refine Goes.pre (U' := T1.setTop (mkF m 8 #[.val (.ref a), .val (.int (1 : Int32))] [(.ref a)])) (fun t k => XS.ifNo X1.here hx rfl (hb hby d13_4) rfl ((if0 _ _).trans (feq hc4).1) (XS.aloadN X1.here hx rfl (hb hby d13_7) rfl rfl k)) ?_
    obtain ⟨T2, X2, e2, st2⟩ := getF X1 hx hZ hown (host := "") (Or.inl (wq hw 28 rfl)) Via.refl HQ1 F_value_a (g := (mkF m 8 #[.val (.ref a), .val (.int (1 : Int32))] [(.ref a)])) rfl rfl (hb hby d13_8)
    refine Goes.pre (U' := T2.setTop (mkF m 12 #[.val (.ref a), .val (.int (1 : Int32))] [(.int (1 : Int32)), (.ref b)])) (fun t k => st2 t (XS.iloadN X2.here hx rfl (hb hby d13_11) rfl k)) ?_
    obtain ⟨_, _, ⟨T3, L3, k3, n3⟩, -, X3, ⟨Lc3, hQ3, l3, y3, z3⟩, st3⟩ := Jvm.LawKit.callS X2 hx (y := (⟨"java/lang/StringLatin1", "charAt", "([BI)C"⟩ : MethodName)) hown (mvT hZ (wq hw 75 rfl)) (mvT hZ (wq hw 76 rfl)) (mvT hZ (wq hw 77 rfl)) (mvT hZ (wq hw 78 rfl)) (by decide) (backOf (W := 0) (rm_l1ch21 l Z a0 hw [] b kb c0 c1 sf h0 n0 Z0 V_b S_SIOOBE_FORMATTER hch1 hle1 hsf O) hZ (wq hw 78 rfl) (wq hw 77 rfl) (by decide) (by decide)) (g := (mkF m 12 #[.val (.ref a), .val (.int (1 : Int32))] [(.int (1 : Int32)), (.ref b)])) rfl (by rw [hml]; rfl) (argsL := [(.ref b), (.int (1 : Int32))]) (rest := []) (lenOf pd__28_5bBI_29C rfl) rfl (by show 2 * 0 + _ ≤ _; exact Nat.le_of_eq rfl) (hb hby d13_12) (fun _ _ => ⟨rfl, e2, (by decide : 0 + 0 ≤ _), (by decide : 0 + 0 ≤ _)⟩)
    dsimp only [Pt.U, Pt.locs, Pt.cells, Pt.slots] at X3 l3 y3 z3 st3 hQ3
    subst l3 y3 z3
    obtain ⟨rfl, N3q, HQ3⟩ := hQ3
    have N3 := Fr.app N1 N3q
    refine Goes.pre (U' := T3.setTop (mkF m 15 #[.val (.ref a), .val (.int (1 : Int32))] [(.int c1)])) (fun t k => st3 t k) ?_
    refine Goes.ret X3 (v := (some (.int c1))) (fun h => by rw [hret] at h; cases h) hlk (by decide) (by decide) HQ3 (fun fs hr => retN X3 hx (t := .char) hret (by simp) (hb hby d13_15) (by rw [show nar .char c1 = c1 from own_nch _ hch1]; exact hr)) ?_
    exact ⟨rfl, N3, rfl⟩
  ·
    have V_b : Arv Z h0 b kb .byte (4 : Int32) [(.int (c0 >>> ((0 : Int32) &&& 31)).toInt8.toInt32), (.int (c0 >>> ((8 : Int32) &&& 31)).toInt8.toInt32), (.int (c1 >>> ((0 : Int32) &&& 31)).toInt8.toInt32), (.int (c1 >>> ((8 : Int32) &&& 31)).toInt8.toInt32)] (.int (0 : Int32)) := V_b
    refine Goes.pre (U' := s₁.setTop (mkF m 1 #[.val (.ref a), .val (.int (1 : Int32))] [(.ref a)])) (fun t k => XS.aloadN X0.here hx rfl (hb hby d13_0) rfl rfl k) ?_
    obtain ⟨cq4, kq4, q4a, q4b, q4c⟩ := isOf hZ e0 E_a
    obtain ⟨_, _, ⟨T4, L4, k4, n4⟩, -, X4, ⟨Lc4, hQ4, l4, y4, z4⟩, st4⟩ := X0.virtualBack hx (y := (⟨"java/lang/String", "isLatin1", "()Z"⟩ : MethodName)) (z := (⟨"java/lang/String", "isLatin1", "()Z"⟩ : MethodName)) hown (mvT hZ (wq hw 70 rfl)) (mvT hZ (wq hw 71 rfl)) (notFace_of_selects (args := #[]) (mvT hZ (wq hw 73 rfl))) (mvT hZ (wq hw 73 rfl)) (mvT hZ (wq hw 72 rfl)) (by decide) (backOf (W := 0) (rm_isL1 l Z a0 hw [] a cs h0 n0 Z0 S_COMPACT_STRINGS F_coder_a hcs O) hZ (wq hw 74 rfl) (wq hw 10 rfl) (by decide) (by decide)) q4a q4c (g := (mkF m 1 #[.val (.ref a), .val (.int (1 : Int32))] [(.ref a)])) rfl (by rw [hml]; rfl) (Steps.refl _) (argsL := []) (rest := []) (lenOf pd__28_29Z rfl) rfl (by show 2 * 0 + _ ≤ _; exact Nat.le_of_eq rfl) (hb hby d13_1) (fun _ _ => ⟨rfl, e0, (by decide : 0 + 0 ≤ _), (by decide : 0 + 0 ≤ _)⟩)
    dsimp only [Pt.U, Pt.locs, Pt.cells, Pt.slots] at X4 l4 y4 z4 st4 hQ4
    subst l4 y4 z4
    obtain ⟨rfl, N4q, HQ4⟩ := hQ4
    have N4 := Fr.app N0 N4q
    refine Goes.pre (U' := T4.setTop (mkF m 4 #[.val (.ref a), .val (.int (1 : Int32))] [(.int (0 : Int32))])) (fun t k => st4.trans k) ?_
    have hc4 : (0 : Int32) = (0 : Int32) := rfl
    refine Goes.pre (U' := T4.setTop (mkF m 17 #[.val (.ref a), .val (.int (1 : Int32))] [(.ref a)])) (fun t k => XS.ifYes X4.here hx rfl (pc0 := 4) (pc' := 16) rfl (hb hby d13_4) rfl ((if0 _ _).trans (teq hc4).1) (by decide) (by decide) (XS.aloadN X4.here hx rfl (hb hby d13_16) rfl rfl k)) ?_
    obtain ⟨T5, X5, e5, st5⟩ := getF X4 hx hZ hown (host := "") (Or.inl (wq hw 28 rfl)) Via.refl HQ4 F_value_a (g := (mkF m 17 #[.val (.ref a), .val (.int (1 : Int32))] [(.ref a)])) rfl rfl (hb hby d13_17)
    refine Goes.pre (U' := T5.setTop (mkF m 21 #[.val (.ref a), .val (.int (1 : Int32))] [(.int (1 : Int32)), (.ref b)])) (fun t k => st5 t (XS.iloadN X5.here hx rfl (hb hby d13_20) rfl k)) ?_
    obtain ⟨_, _, ⟨T6, L6, k6, n6⟩, -, X6, ⟨Lc6, hQ6, l6, y6, z6⟩, st6⟩ := Jvm.LawKit.callS X5 hx (y := (⟨"java/lang/StringUTF16", "charAt", "([BI)C"⟩ : MethodName)) hown (mvT hZ (wq hw 109 rfl)) (mvT hZ (wq hw 110 rfl)) (mvT hZ (wq hw 51 rfl)) (mvT hZ (wq hw 111 rfl)) (by decide) (backOf (W := 0) (rm_uch21 l Z a0 hw [] b kb c0 c1 sf h0 n0 Z0 V_b S__assertionsDisabled S_HI_BYTE_SHIFT S_LO_BYTE_SHIFT S_SIOOBE_FORMATTER hch1 hsf O) hZ (wq hw 111 rfl) (wq hw 51 rfl) (by decide) (by decide)) (g := (mkF m 21 #[.val (.ref a), .val (.int (1 : Int32))] [(.int (1 : Int32)), (.ref b)])) rfl (by rw [hml]; rfl) (argsL := [(.ref b), (.int (1 : Int32))]) (rest := []) (lenOf pd__28_5bBI_29C rfl) rfl (by show 2 * 0 + _ ≤ _; exact Nat.le_of_eq rfl) (hb hby d13_21) (fun _ _ => ⟨rfl, e5, (by decide : 0 + 0 ≤ _), (by decide : 0 + 0 ≤ _)⟩)
    dsimp only [Pt.U, Pt.locs, Pt.cells, Pt.slots] at X6 l6 y6 z6 st6 hQ6
    subst l6 y6 z6
    obtain ⟨rfl, N6q, HQ6⟩ := hQ6
    have N6 := Fr.app N4 N6q
    refine Goes.pre (U' := T6.setTop (mkF m 24 #[.val (.ref a), .val (.int (1 : Int32))] [(.int c1)])) (fun t k => st6 t k) ?_
    refine Goes.ret X6 (v := (some (.int c1))) (fun h => by rw [hret] at h; cases h) hlk (by decide) (by decide) HQ6 (fun fs hr => retN X6 hx (t := .char) hret (by simp) (hb hby d13_24) (by rw [show nar .char c1 = c1 from own_nch _ hch1]; exact hr)) ?_
    exact ⟨rfl, N6, rfl⟩
theorem ef_rm_len3 (m : MethodId) (x0 : Addr) : entryFrame m #[(.ref x0)] 1 = mkF m 0 #[.val (.ref x0)] [] := by first | (simp [entryFrame, mkF, argsToLocals, Value.category]; done) | rfl
def Q_rm_len3 (Z : State) (a : Addr) (b : Addr) (kb : ClassId) (c0 : Int32) (c1 : Int32) (c2 : Int32) (cs : Int32) (h0 : Heap) (n0 : Nat) (v : Option Value) (h : Heap) (L : List Loc) : Prop := v = some (.int (3 : Int32)) ∧ Fr n0 L ∧ h = h0
set_option maxRecDepth 65536 in
set_option maxHeartbeats 40000000 in
theorem rm_len3 (l : Launch) (Z : State) (a0 : Array Value) (hw : ∀ d ∈ tables_1, d.before a0 Z = true) (ws : List Jvm.Cond) (a : Addr) (b : Addr) (kb : ClassId) (c0 : Int32) (c1 : Int32) (c2 : Int32) (cs : Int32) (h0 : Heap) (n0 : Nat) (Z0 : n0 ≤ h0.size) (S_a : OwnStr Z h0 a b kb [c0, c1, c2]) (S_COMPACT_STRINGS : Sta Z Z.heap "java/lang/String" "COMPACT_STRINGS" "Z" (.int cs)) (hcs : ¬ (cs = (0 : Int32))) (O : Old Z n0 h0) :
    Met l Z M7 jdk_42_method_54_code 1 (some .int) ws (Rm 1 0 0 13) #[(.ref a)] h0 (Q_rm_len3 Z a b kb c0 c1 c2 cs h0 n0) := by
  refine met_of (plainFor_of_name pn_java_lang_String) (own := "java/lang/String") rfl (fun m => ef_rm_len3 m a) ?_
  intro p e s m below meth c s₁ hx hby hml hown hnm hZ X0 e0 hret hlk
  have N0 := Fr.nil n0
  show Goes p e below s _ _ _ (s₁.setTop (mkF m 0 #[.val (.ref a)] []))
  obtain ⟨E_a, F_value_a, hcA, hS⟩ := S_a
  have hch0 : OwnCh c0 := hcA c0 (List.mem_of_getElem? (i := 0) rfl)
  have hch1 : OwnCh c1 := hcA c1 (List.mem_of_getElem? (i := 1) rfl)
  have hch2 : OwnCh c2 := hcA c2 (List.mem_of_getElem? (i := 2) rfl)
  rcases hS with ⟨F_coder_a, V_b, hle⟩ | ⟨F_coder_a, V_b, hex⟩
  ·
    have V_b : Arv Z h0 b kb .byte (3 : Int32) [(.int c0.toInt8.toInt32), (.int c1.toInt8.toInt32), (.int c2.toInt8.toInt32)] (.int (0 : Int32)) := V_b
    have hle0 : ¬ ((255 : Int32) < c0) := hle c0 (List.mem_of_getElem? (i := 0) rfl)
    have hle1 : ¬ ((255 : Int32) < c1) := hle c1 (List.mem_of_getElem? (i := 1) rfl)
    have hle2 : ¬ ((255 : Int32) < c2) := hle c2 (List.mem_of_getElem? (i := 2) rfl)
    refine Goes.pre (U' := s₁.setTop (mkF m 1 #[.val (.ref a)] [(.ref a)])) (fun t k => XS.aloadN X0.here hx rfl (hb hby d7_0) rfl rfl k) ?_
    obtain ⟨T1, X1, e1, st1⟩ := getF X0 hx hZ hown (host := "") (Or.inl (wq hw 28 rfl)) Via.refl e0 F_value_a (g := (mkF m 1 #[.val (.ref a)] [(.ref a)])) rfl rfl (hb hby d7_1)
    refine Goes.pre (U' := T1.setTop (mkF m 4 #[.val (.ref a)] [(.ref b)])) (fun t k => st1 t k) ?_
    obtain ⟨cl2, Ar2, q2, Sz2, Ng2, -, -⟩ := id V_b
    have ln2 := len_of Sz2 Ng2
    refine Goes.pre (U' := T1.setTop (mkF m 6 #[.val (.ref a)] [(.ref a), (.int (3 : Int32))])) (fun t k => X1.arraylength hx (by rw [e1]; exact Ar2.1) (State.isArrayOf_alike hZ.alike Ar2.2.1) (g := (mkF m 4 #[.val (.ref a)] [(.ref b)])) rfl rfl (hb hby d7_4) _ (by rw [ln2]; exact (XS.aloadN X1.here hx rfl (hb hby d7_5) rfl rfl k))) ?_
    obtain ⟨cq3, kq3, q3a, q3b, q3c⟩ := isOf hZ e1 E_a
    obtain ⟨_, _, ⟨T3, L3, k3, n3⟩, -, X3, ⟨Lc3, hQ3, l3, y3, z3⟩, st3⟩ := X1.virtualBack hx (y := (⟨"java/lang/String", "coder", "()B"⟩ : MethodName)) (z := (⟨"java/lang/String", "coder", "()B"⟩ : MethodName)) hown (mvT hZ (wq hw 43 rfl)) (mvT hZ (wq hw 44 rfl)) (notFace_of_selects (args := #[]) (mvT hZ (wq hw 46 rfl))) (mvT hZ (wq hw 46 rfl)) (mvT hZ (wq hw 45 rfl)) (by decide) (backOf (W := 1) (rm_coder0 l Z a0 hw [] a cs h0 n0 Z0 S_COMPACT_STRINGS F_coder_a hcs O) hZ (wq hw 47 rfl) (wq hw 10 rfl) (by decide) (by decide)) q3a q3c (g := (mkF m 6 #[.val (.ref a)] [(.ref a), (.int (3 : Int32))])) rfl (by rw [hml]; rfl) (Steps.refl _) (argsL := []) (rest := [(.int (3 : Int32))]) (lenOf pd__28_29B rfl) rfl (by show 2 * 0 + _ ≤ _; exact Nat.le_of_eq rfl) (hb hby d7_6) (fun _ _ => ⟨rfl, e1, (by decide : 0 + 0 ≤ _), (by decide : 0 + 0 ≤ _)⟩)
    dsimp only [Pt.U, Pt.locs, Pt.cells, Pt.slots] at X3 l3 y3 z3 st3 hQ3
    subst l3 y3 z3
    obtain ⟨rfl, N3q, HQ3⟩ := hQ3
    have N3 := Fr.app N0 N3q
    refine Goes.pre (U' := T3.setTop (mkF m 10 #[.val (.ref a)] [(.int ((3 : Int32) >>> ((0 : Int32) &&& 31)))])) (fun t k => st3.trans (XS.ishr X3.here hx rfl (hb hby d7_9) rfl k)) ?_
    rw [(by decide : ((3 : Int32) >>> ((0 : Int32) &&& 31)) = (3 : Int32))]
    refine Goes.ret X3 (v := (some (.int (3 : Int32)))) (fun h => by rw [hret] at h; cases h) hlk (by decide) (by decide) HQ3 (fun fs hr => retI X3 hx hret (hb hby d7_10) hr) ?_
    exact ⟨rfl, N3, rfl⟩
  ·
    have V_b : Arv Z h0 b kb .byte (6 : Int32) [(.int (c0 >>> ((0 : Int32) &&& 31)).toInt8.toInt32), (.int (c0 >>> ((8 : Int32) &&& 31)).toInt8.toInt32), (.int (c1 >>> ((0 : Int32) &&& 31)).toInt8.toInt32), (.int (c1 >>> ((8 : Int32) &&& 31)).toInt8.toInt32), (.int (c2 >>> ((0 : Int32) &&& 31)).toInt8.toInt32), (.int (c2 >>> ((8 : Int32) &&& 31)).toInt8.toInt32)] (.int (0 : Int32)) := V_b
    refine Goes.pre (U' := s₁.setTop (mkF m 1 #[.val (.ref a)] [(.ref a)])) (fun t k => XS.aloadN X0.here hx rfl (hb hby d7_0) rfl rfl k) ?_
    obtain ⟨T4, X4, e4, st4⟩ := getF X0 hx hZ hown (host := "") (Or.inl (wq hw 28 rfl)) Via.refl e0 F_value_a (g := (mkF m 1 #[.val (.ref a)] [(.ref a)])) rfl rfl (hb hby d7_1)
    refine Goes.pre (U' := T4.setTop (mkF m 4 #[.val (.ref a)] [(.ref b)])) (fun t k => st4 t k) ?_
    obtain ⟨cl5, Ar5, q5, Sz5, Ng5, -, -⟩ := id V_b
    have ln5 := len_of Sz5 Ng5
    refine Goes.pre (U' := T4.setTop (mkF m 6 #[.val (.ref a)] [(.ref a), (.int (6 : Int32))])) (fun t k => X4.arraylength hx (by rw [e4]; exact Ar5.1) (State.isArrayOf_alike hZ.alike Ar5.2.1) (g := (mkF m 4 #[.val (.ref a)] [(.ref b)])) rfl rfl (hb hby d7_4) _ (by rw [ln5]; exact (XS.aloadN X4.here hx rfl (hb hby d7_5) rfl rfl k))) ?_
    obtain ⟨cq6, kq6, q6a, q6b, q6c⟩ := isOf hZ e4 E_a
    obtain ⟨_, _, ⟨T6, L6, k6, n6⟩, -, X6, ⟨Lc6, hQ6, l6, y6, z6⟩, st6⟩ := X4.virtualBack hx (y := (⟨"java/lang/String", "coder", "()B"⟩ : MethodName)) (z := (⟨"java/lang/String", "coder", "()B"⟩ : MethodName)) hown (mvT hZ (wq hw 43 rfl)) (mvT hZ (wq hw 44 rfl)) (notFace_of_selects (args := #[]) (mvT hZ (wq hw 46 rfl))) (mvT hZ (wq hw 46 rfl)) (mvT hZ (wq hw 45 rfl)) (by decide) (backOf (W := 1) (rm_coder1 l Z a0 hw [] a cs h0 n0 Z0 S_COMPACT_STRINGS F_coder_a hcs O) hZ (wq hw 47 rfl) (wq hw 10 rfl) (by decide) (by decide)) q6a q6c (g := (mkF m 6 #[.val (.ref a)] [(.ref a), (.int (6 : Int32))])) rfl (by rw [hml]; rfl) (Steps.refl _) (argsL := []) (rest := [(.int (6 : Int32))]) (lenOf pd__28_29B rfl) rfl (by show 2 * 0 + _ ≤ _; exact Nat.le_of_eq rfl) (hb hby d7_6) (fun _ _ => ⟨rfl, e4, (by decide : 0 + 0 ≤ _), (by decide : 0 + 0 ≤ _)⟩)
    dsimp only [Pt.U, Pt.locs, Pt.cells, Pt.slots] at X6 l6 y6 z6 st6 hQ6
    subst l6 y6 z6
    obtain ⟨rfl, N6q, HQ6⟩ := hQ6
    have N6 := Fr.app N0 N6q
    refine Goes.pre (U' := T6.setTop (mkF m 10 #[.val (.ref a)] [(.int ((6 : Int32) >>> ((1 : Int32) &&& 31)))])) (fun t k => st6.trans (XS.ishr X6.here hx rfl (hb hby d7_9) rfl k)) ?_
    rw [(by decide : ((6 : Int32) >>> ((1 : Int32) &&& 31)) = (3 : Int32))]
    refine Goes.ret X6 (v := (some (.int (3 : Int32)))) (fun h => by rw [hret] at h; cases h) hlk (by decide) (by decide) HQ6 (fun fs hr => retI X6 hx hret (hb hby d7_10) hr) ?_
    exact ⟨rfl, N6, rfl⟩
theorem ef_rm_ch30 (m : MethodId) (x0 : Addr) (x1 : Int32) : entryFrame m #[(.ref x0), (.int x1)] 2 = mkF m 0 #[.val (.ref x0), .val (.int x1)] [] := by first | (simp [entryFrame, mkF, argsToLocals, Value.category]; done) | rfl
def Q_rm_ch30 (Z : State) (a : Addr) (b : Addr) (kb : ClassId) (c0 : Int32) (c1 : Int32) (c2 : Int32) (cs : Int32) (sf : Value) (h0 : Heap) (n0 : Nat) (v : Option Value) (h : Heap) (L : List Loc) : Prop := v = some (.int c0) ∧ Fr n0 L ∧ h = h0
set_option maxRecDepth 65536 in
set_option maxHeartbeats 40000000 in
theorem rm_ch30 (l : Launch) (Z : State) (a0 : Array Value) (hw : ∀ d ∈ tables_1, d.before a0 Z = true) (ws : List Jvm.Cond) (a : Addr) (b : Addr) (kb : ClassId) (c0 : Int32) (c1 : Int32) (c2 : Int32) (cs : Int32) (sf : Value) (h0 : Heap) (n0 : Nat) (Z0 : n0 ≤ h0.size) (S_a : OwnStr Z h0 a b kb [c0, c1, c2]) (S_COMPACT_STRINGS : Sta Z Z.heap "java/lang/String" "COMPACT_STRINGS" "Z" (.int cs)) (S__assertionsDisabled : Sta Z Z.heap "java/lang/StringUTF16" "$assertionsDisabled" "Z" (.int (1 : Int32))) (S_HI_BYTE_SHIFT : Sta Z Z.heap "java/lang/StringUTF16" "HI_BYTE_SHIFT" "I" (.int (0 : Int32))) (S_LO_BYTE_SHIFT : Sta Z Z.heap "java/lang/StringUTF16" "LO_BYTE_SHIFT" "I" (.int (8 : Int32))) (S_SIOOBE_FORMATTER : Sta Z Z.heap "jdk/internal/util/Preconditions" "SIOOBE_FORMATTER" "Ljava/util/function/BiFunction;" sf) (hcs : ¬ (cs = (0 : Int32))) (hsf : sf.isRef = true) (O : Old Z n0 h0) :
    Met l Z M13 jdk_42_method_56_code 2 (some .char) ws (Rm 4 0 0 53) #[(.ref a), (.int (0 : Int32))] h0 (Q_rm_ch30 Z a b kb c0 c1 c2 cs sf h0 n0) := by
  refine met_of (plainFor_of_name pn_java_lang_String) (own := "java/lang/String") rfl (fun m => ef_rm_ch30 m a (0 : Int32)) ?_
  intro p e s m below meth c s₁ hx hby hml hown hnm hZ X0 e0 hret hlk
  have N0 := Fr.nil n0
  show Goes p e below s _ _ _ (s₁.setTop (mkF m 0 #[.val (.ref a), .val (.int (0 : Int32))] []))
  obtain ⟨E_a, F_value_a, hcA, hS⟩ := S_a
  have hch0 : OwnCh c0 := hcA c0 (List.mem_of_getElem? (i := 0) rfl)
  have hch1 : OwnCh c1 := hcA c1 (List.mem_of_getElem? (i := 1) rfl)
  have hch2 : OwnCh c2 := hcA c2 (List.mem_of_getElem? (i := 2) rfl)
  rcases hS with ⟨F_coder_a, V_b, hle⟩ | ⟨F_coder_a, V_b, hex⟩
  ·
    have V_b : Arv Z h0 b kb .byte (3 : Int32) [(.int c0.toInt8.toInt32), (.int c1.toInt8.toInt32), (.int c2.toInt8.toInt32)] (.int (0 : Int32)) := V_b
    have hle0 : ¬ ((255 : Int32) < c0) := hle c0 (List.mem_of_getElem? (i := 0) rfl)
    have hle1 : ¬ ((255 : Int32) < c1) := hle c1 (List.mem_of_getElem? (i := 1) rfl)
    have hle2 : ¬ ((255 : Int32) < c2) := hle c2 (List.mem_of_getElem? (i := 2) rfl)
    refine Goes.pre (U' := s₁.setTop (mkF m 1 #[.val (.ref a), .val (.int (0 : Int32))] [(.ref a)])) (fun t k => XS.aloadN X0.here hx rfl (hb hby d13_0) rfl rfl k) ?_
    obtain ⟨cq1, kq1, q1a, q1b, q1c⟩ := isOf hZ e0 E_a
    obtain ⟨_, _, ⟨T1, L1, k1, n1⟩, -, X1, ⟨Lc1, hQ1, l1, y1, z1⟩, st1⟩ := X0.virtualBack hx (y := (⟨"java/lang/String", "isLatin1", "()Z"⟩ : MethodName)) (z := (⟨"java/lang/String", "isLatin1", "()Z"⟩ : MethodName)) hown (mvT hZ (wq hw 70 rfl)) (mvT hZ (wq hw 71 rfl)) (notFace_of_selects (args := #[]) (mvT hZ (wq hw 73 rfl))) (mvT hZ (wq hw 73 rfl)) (mvT hZ (wq hw 72 rfl)) (by decide) (backOf (W := 0) (rm_isL0 l Z a0 hw [] a cs h0 n0 Z0 S_COMPACT_STRINGS F_coder_a hcs O) hZ (wq hw 74 rfl) (wq hw 10 rfl) (by decide) (by decide)) q1a q1c (g := (mkF m 1 #[.val (.ref a), .val (.int (0 : Int32))] [(.ref a)])) rfl (by rw [hml]; rfl) (Steps.refl _) (argsL := []) (rest := []) (lenOf pd__28_29Z rfl) rfl (by show 2 * 0 + _ ≤ _; exact Nat.le_of_eq rfl) (hb hby d13_1) (fun _ _ => ⟨rfl, e0, (by decide : 0 + 0 ≤ _), (by decide : 0 + 0 ≤ _)⟩)
    dsimp only [Pt.U, Pt.locs, Pt.cells, Pt.slots] at X1 l1 y1 z1 st1 hQ1
    subst l1 y1 z1
    obtain ⟨rfl, N1q, HQ1⟩ := hQ1
    have N1 := Fr.app N0 N1q
    refine Goes.pre (U' := T1.setTop (mkF m 4 #[.val (.ref a), .val (.int (0 : Int32))] [(.int (1 : Int32))])) (fun t k => st1.trans k) ?_
    have hc4 : ¬ ((1 : Int32) = (0 : Int32)) := by decide
    refine Goes.pre (U' := T1.setTop (mkF m 8 #[.val (.ref a), .val (.int (0 : Int32))] [(.ref a)])) (fun t k => XS.ifNo X1.here hx rfl (hb hby d13_4) rfl ((if0 _ _).trans (feq hc4).1) (XS.aloadN X1.here hx rfl (hb hby d13_7) rfl rfl k)) ?_
    obtain ⟨T2, X2, e2, st2⟩ := getF X1 hx hZ hown (host := "") (Or.inl (wq hw 28 rfl)) Via.refl HQ1 F_value_a (g := (mkF m 8 #[.val (.ref a), .val (.int (0 : Int32))] [(.ref a)])) rfl rfl (hb hby d13_8)
    refine Goes.pre (U' := T2.setTop (mkF m 12 #[.val (.ref a), .val (.int (0 : Int32))] [(.int (0 : Int32)), (.ref b)])) (fun t k => st2 t (XS.iloadN X2.here hx rfl (hb hby d13_11) rfl k)) ?_
    obtain ⟨_, _, ⟨T3, L3, k3, n3⟩, -, X3, ⟨Lc3, hQ3, l3, y3, z3⟩, st3⟩ := Jvm.LawKit.callS X2 hx (y := (⟨"java/lang/StringLatin1", "charAt", "([BI)C"⟩ : MethodName)) hown (mvT hZ (wq hw 75 rfl)) (mvT hZ (wq hw 76 rfl)) (mvT hZ (wq hw 77 rfl)) (mvT hZ (wq hw 78 rfl)) (by decide) (backOf (W := 0) (rm_l1ch30 l Z a0 hw [] b kb c0 c1 c2 sf h0 n0 Z0 V_b S_SIOOBE_FORMATTER hch0 hle0 hsf O) hZ (wq hw 78 rfl) (wq hw 77 rfl) (by decide) (by decide)) (g := (mkF m 12 #[.val (.ref a), .val (.int (0 : Int32))] [(.int (0 : Int32)), (.ref b)])) rfl (by rw [hml]; rfl) (argsL := [(.ref b), (.int (0 : Int32))]) (rest := []) (lenOf pd__28_5bBI_29C rfl) rfl (by show 2 * 0 + _ ≤ _; exact Nat.le_of_eq rfl) (hb hby d13_12) (fun _ _ => ⟨rfl, e2, (by decide : 0 + 0 ≤ _), (by decide : 0 + 0 ≤ _)⟩)
    dsimp only [Pt.U, Pt.locs, Pt.cells, Pt.slots] at X3 l3 y3 z3 st3 hQ3
    subst l3 y3 z3
    obtain ⟨rfl, N3q, HQ3⟩ := hQ3
    have N3 := Fr.app N1 N3q
    refine Goes.pre (U' := T3.setTop (mkF m 15 #[.val (.ref a), .val (.int (0 : Int32))] [(.int c0)])) (fun t k => st3 t k) ?_
    refine Goes.ret X3 (v := (some (.int c0))) (fun h => by rw [hret] at h; cases h) hlk (by decide) (by decide) HQ3 (fun fs hr => retN X3 hx (t := .char) hret (by simp) (hb hby d13_15) (by rw [show nar .char c0 = c0 from own_nch _ hch0]; exact hr)) ?_
    exact ⟨rfl, N3, rfl⟩
  ·
    have V_b : Arv Z h0 b kb .byte (6 : Int32) [(.int (c0 >>> ((0 : Int32) &&& 31)).toInt8.toInt32), (.int (c0 >>> ((8 : Int32) &&& 31)).toInt8.toInt32), (.int (c1 >>> ((0 : Int32) &&& 31)).toInt8.toInt32), (.int (c1 >>> ((8 : Int32) &&& 31)).toInt8.toInt32), (.int (c2 >>> ((0 : Int32) &&& 31)).toInt8.toInt32), (.int (c2 >>> ((8 : Int32) &&& 31)).toInt8.toInt32)] (.int (0 : Int32)) := V_b
    refine Goes.pre (U' := s₁.setTop (mkF m 1 #[.val (.ref a), .val (.int (0 : Int32))] [(.ref a)])) (fun t k => XS.aloadN X0.here hx rfl (hb hby d13_0) rfl rfl k) ?_
    obtain ⟨cq4, kq4, q4a, q4b, q4c⟩ := isOf hZ e0 E_a
    obtain ⟨_, _, ⟨T4, L4, k4, n4⟩, -, X4, ⟨Lc4, hQ4, l4, y4, z4⟩, st4⟩ := X0.virtualBack hx (y := (⟨"java/lang/String", "isLatin1", "()Z"⟩ : MethodName)) (z := (⟨"java/lang/String", "isLatin1", "()Z"⟩ : MethodName)) hown (mvT hZ (wq hw 70 rfl)) (mvT hZ (wq hw 71 rfl)) (notFace_of_selects (args := #[]) (mvT hZ (wq hw 73 rfl))) (mvT hZ (wq hw 73 rfl)) (mvT hZ (wq hw 72 rfl)) (by decide) (backOf (W := 0) (rm_isL1 l Z a0 hw [] a cs h0 n0 Z0 S_COMPACT_STRINGS F_coder_a hcs O) hZ (wq hw 74 rfl) (wq hw 10 rfl) (by decide) (by decide)) q4a q4c (g := (mkF m 1 #[.val (.ref a), .val (.int (0 : Int32))] [(.ref a)])) rfl (by rw [hml]; rfl) (Steps.refl _) (argsL := []) (rest := []) (lenOf pd__28_29Z rfl) rfl (by show 2 * 0 + _ ≤ _; exact Nat.le_of_eq rfl) (hb hby d13_1) (fun _ _ => ⟨rfl, e0, (by decide : 0 + 0 ≤ _), (by decide : 0 + 0 ≤ _)⟩)
    dsimp only [Pt.U, Pt.locs, Pt.cells, Pt.slots] at X4 l4 y4 z4 st4 hQ4
    subst l4 y4 z4
    obtain ⟨rfl, N4q, HQ4⟩ := hQ4
    have N4 := Fr.app N0 N4q
    refine Goes.pre (U' := T4.setTop (mkF m 4 #[.val (.ref a), .val (.int (0 : Int32))] [(.int (0 : Int32))])) (fun t k => st4.trans k) ?_
    have hc4 : (0 : Int32) = (0 : Int32) := rfl
    refine Goes.pre (U' := T4.setTop (mkF m 17 #[.val (.ref a), .val (.int (0 : Int32))] [(.ref a)])) (fun t k => XS.ifYes X4.here hx rfl (pc0 := 4) (pc' := 16) rfl (hb hby d13_4) rfl ((if0 _ _).trans (teq hc4).1) (by decide) (by decide) (XS.aloadN X4.here hx rfl (hb hby d13_16) rfl rfl k)) ?_
    obtain ⟨T5, X5, e5, st5⟩ := getF X4 hx hZ hown (host := "") (Or.inl (wq hw 28 rfl)) Via.refl HQ4 F_value_a (g := (mkF m 17 #[.val (.ref a), .val (.int (0 : Int32))] [(.ref a)])) rfl rfl (hb hby d13_17)
    refine Goes.pre (U' := T5.setTop (mkF m 21 #[.val (.ref a), .val (.int (0 : Int32))] [(.int (0 : Int32)), (.ref b)])) (fun t k => st5 t (XS.iloadN X5.here hx rfl (hb hby d13_20) rfl k)) ?_
    obtain ⟨_, _, ⟨T6, L6, k6, n6⟩, -, X6, ⟨Lc6, hQ6, l6, y6, z6⟩, st6⟩ := Jvm.LawKit.callS X5 hx (y := (⟨"java/lang/StringUTF16", "charAt", "([BI)C"⟩ : MethodName)) hown (mvT hZ (wq hw 109 rfl)) (mvT hZ (wq hw 110 rfl)) (mvT hZ (wq hw 51 rfl)) (mvT hZ (wq hw 111 rfl)) (by decide) (backOf (W := 0) (rm_uch30 l Z a0 hw [] b kb c0 c1 c2 sf h0 n0 Z0 V_b S__assertionsDisabled S_HI_BYTE_SHIFT S_LO_BYTE_SHIFT S_SIOOBE_FORMATTER hch0 hsf O) hZ (wq hw 111 rfl) (wq hw 51 rfl) (by decide) (by decide)) (g := (mkF m 21 #[.val (.ref a), .val (.int (0 : Int32))] [(.int (0 : Int32)), (.ref b)])) rfl (by rw [hml]; rfl) (argsL := [(.ref b), (.int (0 : Int32))]) (rest := []) (lenOf pd__28_5bBI_29C rfl) rfl (by show 2 * 0 + _ ≤ _; exact Nat.le_of_eq rfl) (hb hby d13_21) (fun _ _ => ⟨rfl, e5, (by decide : 0 + 0 ≤ _), (by decide : 0 + 0 ≤ _)⟩)
    dsimp only [Pt.U, Pt.locs, Pt.cells, Pt.slots] at X6 l6 y6 z6 st6 hQ6
    subst l6 y6 z6
    obtain ⟨rfl, N6q, HQ6⟩ := hQ6
    have N6 := Fr.app N4 N6q
    refine Goes.pre (U' := T6.setTop (mkF m 24 #[.val (.ref a), .val (.int (0 : Int32))] [(.int c0)])) (fun t k => st6 t k) ?_
    refine Goes.ret X6 (v := (some (.int c0))) (fun h => by rw [hret] at h; cases h) hlk (by decide) (by decide) HQ6 (fun fs hr => retN X6 hx (t := .char) hret (by simp) (hb hby d13_24) (by rw [show nar .char c0 = c0 from own_nch _ hch0]; exact hr)) ?_
    exact ⟨rfl, N6, rfl⟩
theorem ef_rm_ch31 (m : MethodId) (x0 : Addr) (x1 : Int32) : entryFrame m #[(.ref x0), (.int x1)] 2 = mkF m 0 #[.val (.ref x0), .val (.int x1)] [] := by first | (simp [entryFrame, mkF, argsToLocals, Value.category]; done) | rfl
def Q_rm_ch31 (Z : State) (a : Addr) (b : Addr) (kb : ClassId) (c0 : Int32) (c1 : Int32) (c2 : Int32) (cs : Int32) (sf : Value) (h0 : Heap) (n0 : Nat) (v : Option Value) (h : Heap) (L : List Loc) : Prop := v = some (.int c1) ∧ Fr n0 L ∧ h = h0
set_option maxRecDepth 65536 in
set_option maxHeartbeats 40000000 in
theorem rm_ch31 (l : Launch) (Z : State) (a0 : Array Value) (hw : ∀ d ∈ tables_1, d.before a0 Z = true) (ws : List Jvm.Cond) (a : Addr) (b : Addr) (kb : ClassId) (c0 : Int32) (c1 : Int32) (c2 : Int32) (cs : Int32) (sf : Value) (h0 : Heap) (n0 : Nat) (Z0 : n0 ≤ h0.size) (S_a : OwnStr Z h0 a b kb [c0, c1, c2]) (S_COMPACT_STRINGS : Sta Z Z.heap "java/lang/String" "COMPACT_STRINGS" "Z" (.int cs)) (S__assertionsDisabled : Sta Z Z.heap "java/lang/StringUTF16" "$assertionsDisabled" "Z" (.int (1 : Int32))) (S_HI_BYTE_SHIFT : Sta Z Z.heap "java/lang/StringUTF16" "HI_BYTE_SHIFT" "I" (.int (0 : Int32))) (S_LO_BYTE_SHIFT : Sta Z Z.heap "java/lang/StringUTF16" "LO_BYTE_SHIFT" "I" (.int (8 : Int32))) (S_SIOOBE_FORMATTER : Sta Z Z.heap "jdk/internal/util/Preconditions" "SIOOBE_FORMATTER" "Ljava/util/function/BiFunction;" sf) (hcs : ¬ (cs = (0 : Int32))) (hsf : sf.isRef = true) (O : Old Z n0 h0) :
    Met l Z M13 jdk_42_method_56_code 2 (some .char) ws (Rm 4 0 0 53) #[(.ref a), (.int (1 : Int32))] h0 (Q_rm_ch31 Z a b kb c0 c1 c2 cs sf h0 n0) := by
  refine met_of (plainFor_of_name pn_java_lang_String) (own := "java/lang/String") rfl (fun m => ef_rm_ch31 m a (1 : Int32)) ?_
  intro p e s m below meth c s₁ hx hby hml hown hnm hZ X0 e0 hret hlk
  have N0 := Fr.nil n0
  show Goes p e below s _ _ _ (s₁.setTop (mkF m 0 #[.val (.ref a), .val (.int (1 : Int32))] []))
  obtain ⟨E_a, F_value_a, hcA, hS⟩ := S_a
  have hch0 : OwnCh c0 := hcA c0 (List.mem_of_getElem? (i := 0) rfl)
  have hch1 : OwnCh c1 := hcA c1 (List.mem_of_getElem? (i := 1) rfl)
  have hch2 : OwnCh c2 := hcA c2 (List.mem_of_getElem? (i := 2) rfl)
  rcases hS with ⟨F_coder_a, V_b, hle⟩ | ⟨F_coder_a, V_b, hex⟩
  ·
    have V_b : Arv Z h0 b kb .byte (3 : Int32) [(.int c0.toInt8.toInt32), (.int c1.toInt8.toInt32), (.int c2.toInt8.toInt32)] (.int (0 : Int32)) := V_b
    have hle0 : ¬ ((255 : Int32) < c0) := hle c0 (List.mem_of_getElem? (i := 0) rfl)
    have hle1 : ¬ ((255 : Int32) < c1) := hle c1 (List.mem_of_getElem? (i := 1) rfl)
    have hle2 : ¬ ((255 : Int32) < c2) := hle c2 (List.mem_of_getElem? (i := 2) rfl)
    refine Goes.pre (U' := s₁.setTop (mkF m 1 #[.val (.ref a), .val (.int (1 : Int32))] [(.ref a)])) (fun t k => XS.aloadN X0.here hx rfl (hb hby d13_0) rfl rfl k) ?_
    obtain ⟨cq1, kq1, q1a, q1b, q1c⟩ := isOf hZ e0 E_a
    obtain ⟨_, _, ⟨T1, L1, k1, n1⟩, -, X1, ⟨Lc1, hQ1, l1, y1, z1⟩, st1⟩ := X0.virtualBack hx (y := (⟨"java/lang/String", "isLatin1", "()Z"⟩ : MethodName)) (z := (⟨"java/lang/String", "isLatin1", "()Z"⟩ : MethodName)) hown (mvT hZ (wq hw 70 rfl)) (mvT hZ (wq hw 71 rfl)) (notFace_of_selects (args := #[]) (mvT hZ (wq hw 73 rfl))) (mvT hZ (wq hw 73 rfl)) (mvT hZ (wq hw 72 rfl)) (by decide) (backOf (W := 0) (rm_isL0 l Z a0 hw [] a cs h0 n0 Z0 S_COMPACT_STRINGS F_coder_a hcs O) hZ (wq hw 74 rfl) (wq hw 10 rfl) (by decide) (by decide)) q1a q1c (g := (mkF m 1 #[.val (.ref a), .val (.int (1 : Int32))] [(.ref a)])) rfl (by rw [hml]; rfl) (Steps.refl _) (argsL := []) (rest := []) (lenOf pd__28_29Z rfl) rfl (by show 2 * 0 + _ ≤ _; exact Nat.le_of_eq rfl) (hb hby d13_1) (fun _ _ => ⟨rfl, e0, (by decide : 0 + 0 ≤ _), (by decide : 0 + 0 ≤ _)⟩)
    dsimp only [Pt.U, Pt.locs, Pt.cells, Pt.slots] at X1 l1 y1 z1 st1 hQ1
    subst l1 y1 z1
    obtain ⟨rfl, N1q, HQ1⟩ := hQ1
    have N1 := Fr.app N0 N1q
    refine Goes.pre (U' := T1.setTop (mkF m 4 #[.val (.ref a), .val (.int (1 : Int32))] [(.int (1 : Int32))])) (fun t k => st1.trans k) ?_
    have hc4 : ¬ ((1 : Int32) = (0 : Int32)) := by decide
    refine Goes.pre (U' := T1.setTop (mkF m 8 #[.val (.ref a), .val (.int (1 : Int32))] [(.ref a)])) (fun t k => XS.ifNo X1.here hx rfl (hb hby d13_4) rfl ((if0 _ _).trans (feq hc4).1) (XS.aloadN X1.here hx rfl (hb hby d13_7) rfl rfl k)) ?_
    obtain ⟨T2, X2, e2, st2⟩ := getF X1 hx hZ hown (host := "") (Or.inl (wq hw 28 rfl)) Via.refl HQ1 F_value_a (g := (mkF m 8 #[.val (.ref a), .val (.int (1 : Int32))] [(.ref a)])) rfl rfl (hb hby d13_8)
    refine Goes.pre (U' := T2.setTop (mkF m 12 #[.val (.ref a), .val (.int (1 : Int32))] [(.int (1 : Int32)), (.ref b)])) (fun t k => st2 t (XS.iloadN X2.here hx rfl (hb hby d13_11) rfl k)) ?_
    obtain ⟨_, _, ⟨T3, L3, k3, n3⟩, -, X3, ⟨Lc3, hQ3, l3, y3, z3⟩, st3⟩ := Jvm.LawKit.callS X2 hx (y := (⟨"java/lang/StringLatin1", "charAt", "([BI)C"⟩ : MethodName)) hown (mvT hZ (wq hw 75 rfl)) (mvT hZ (wq hw 76 rfl)) (mvT hZ (wq hw 77 rfl)) (mvT hZ (wq hw 78 rfl)) (by decide) (backOf (W := 0) (rm_l1ch31 l Z a0 hw [] b kb c0 c1 c2 sf h0 n0 Z0 V_b S_SIOOBE_FORMATTER hch1 hle1 hsf O) hZ (wq hw 78 rfl) (wq hw 77 rfl) (by decide) (by decide)) (g := (mkF m 12 #[.val (.ref a), .val (.int (1 : Int32))] [(.int (1 : Int32)), (.ref b)])) rfl (by rw [hml]; rfl) (argsL := [(.ref b), (.int (1 : Int32))]) (rest := []) (lenOf pd__28_5bBI_29C rfl) rfl (by show 2 * 0 + _ ≤ _; exact Nat.le_of_eq rfl) (hb hby d13_12) (fun _ _ => ⟨rfl, e2, (by decide : 0 + 0 ≤ _), (by decide : 0 + 0 ≤ _)⟩)
    dsimp only [Pt.U, Pt.locs, Pt.cells, Pt.slots] at X3 l3 y3 z3 st3 hQ3
    subst l3 y3 z3
    obtain ⟨rfl, N3q, HQ3⟩ := hQ3
    have N3 := Fr.app N1 N3q
    refine Goes.pre (U' := T3.setTop (mkF m 15 #[.val (.ref a), .val (.int (1 : Int32))] [(.int c1)])) (fun t k => st3 t k) ?_
    refine Goes.ret X3 (v := (some (.int c1))) (fun h => by rw [hret] at h; cases h) hlk (by decide) (by decide) HQ3 (fun fs hr => retN X3 hx (t := .char) hret (by simp) (hb hby d13_15) (by rw [show nar .char c1 = c1 from own_nch _ hch1]; exact hr)) ?_
    exact ⟨rfl, N3, rfl⟩
  ·
    have V_b : Arv Z h0 b kb .byte (6 : Int32) [(.int (c0 >>> ((0 : Int32) &&& 31)).toInt8.toInt32), (.int (c0 >>> ((8 : Int32) &&& 31)).toInt8.toInt32), (.int (c1 >>> ((0 : Int32) &&& 31)).toInt8.toInt32), (.int (c1 >>> ((8 : Int32) &&& 31)).toInt8.toInt32), (.int (c2 >>> ((0 : Int32) &&& 31)).toInt8.toInt32), (.int (c2 >>> ((8 : Int32) &&& 31)).toInt8.toInt32)] (.int (0 : Int32)) := V_b
    refine Goes.pre (U' := s₁.setTop (mkF m 1 #[.val (.ref a), .val (.int (1 : Int32))] [(.ref a)])) (fun t k => XS.aloadN X0.here hx rfl (hb hby d13_0) rfl rfl k) ?_
    obtain ⟨cq4, kq4, q4a, q4b, q4c⟩ := isOf hZ e0 E_a
    obtain ⟨_, _, ⟨T4, L4, k4, n4⟩, -, X4, ⟨Lc4, hQ4, l4, y4, z4⟩, st4⟩ := X0.virtualBack hx (y := (⟨"java/lang/String", "isLatin1", "()Z"⟩ : MethodName)) (z := (⟨"java/lang/String", "isLatin1", "()Z"⟩ : MethodName)) hown (mvT hZ (wq hw 70 rfl)) (mvT hZ (wq hw 71 rfl)) (notFace_of_selects (args := #[]) (mvT hZ (wq hw 73 rfl))) (mvT hZ (wq hw 73 rfl)) (mvT hZ (wq hw 72 rfl)) (by decide) (backOf (W := 0) (rm_isL1 l Z a0 hw [] a cs h0 n0 Z0 S_COMPACT_STRINGS F_coder_a hcs O) hZ (wq hw 74 rfl) (wq hw 10 rfl) (by decide) (by decide)) q4a q4c (g := (mkF m 1 #[.val (.ref a), .val (.int (1 : Int32))] [(.ref a)])) rfl (by rw [hml]; rfl) (Steps.refl _) (argsL := []) (rest := []) (lenOf pd__28_29Z rfl) rfl (by show 2 * 0 + _ ≤ _; exact Nat.le_of_eq rfl) (hb hby d13_1) (fun _ _ => ⟨rfl, e0, (by decide : 0 + 0 ≤ _), (by decide : 0 + 0 ≤ _)⟩)
    dsimp only [Pt.U, Pt.locs, Pt.cells, Pt.slots] at X4 l4 y4 z4 st4 hQ4
    subst l4 y4 z4
    obtain ⟨rfl, N4q, HQ4⟩ := hQ4
    have N4 := Fr.app N0 N4q
    refine Goes.pre (U' := T4.setTop (mkF m 4 #[.val (.ref a), .val (.int (1 : Int32))] [(.int (0 : Int32))])) (fun t k => st4.trans k) ?_
    have hc4 : (0 : Int32) = (0 : Int32) := rfl
    refine Goes.pre (U' := T4.setTop (mkF m 17 #[.val (.ref a), .val (.int (1 : Int32))] [(.ref a)])) (fun t k => XS.ifYes X4.here hx rfl (pc0 := 4) (pc' := 16) rfl (hb hby d13_4) rfl ((if0 _ _).trans (teq hc4).1) (by decide) (by decide) (XS.aloadN X4.here hx rfl (hb hby d13_16) rfl rfl k)) ?_
    obtain ⟨T5, X5, e5, st5⟩ := getF X4 hx hZ hown (host := "") (Or.inl (wq hw 28 rfl)) Via.refl HQ4 F_value_a (g := (mkF m 17 #[.val (.ref a), .val (.int (1 : Int32))] [(.ref a)])) rfl rfl (hb hby d13_17)
    refine Goes.pre (U' := T5.setTop (mkF m 21 #[.val (.ref a), .val (.int (1 : Int32))] [(.int (1 : Int32)), (.ref b)])) (fun t k => st5 t (XS.iloadN X5.here hx rfl (hb hby d13_20) rfl k)) ?_
    obtain ⟨_, _, ⟨T6, L6, k6, n6⟩, -, X6, ⟨Lc6, hQ6, l6, y6, z6⟩, st6⟩ := Jvm.LawKit.callS X5 hx (y := (⟨"java/lang/StringUTF16", "charAt", "([BI)C"⟩ : MethodName)) hown (mvT hZ (wq hw 109 rfl)) (mvT hZ (wq hw 110 rfl)) (mvT hZ (wq hw 51 rfl)) (mvT hZ (wq hw 111 rfl)) (by decide) (backOf (W := 0) (rm_uch31 l Z a0 hw [] b kb c0 c1 c2 sf h0 n0 Z0 V_b S__assertionsDisabled S_HI_BYTE_SHIFT S_LO_BYTE_SHIFT S_SIOOBE_FORMATTER hch1 hsf O) hZ (wq hw 111 rfl) (wq hw 51 rfl) (by decide) (by decide)) (g := (mkF m 21 #[.val (.ref a), .val (.int (1 : Int32))] [(.int (1 : Int32)), (.ref b)])) rfl (by rw [hml]; rfl) (argsL := [(.ref b), (.int (1 : Int32))]) (rest := []) (lenOf pd__28_5bBI_29C rfl) rfl (by show 2 * 0 + _ ≤ _; exact Nat.le_of_eq rfl) (hb hby d13_21) (fun _ _ => ⟨rfl, e5, (by decide : 0 + 0 ≤ _), (by decide : 0 + 0 ≤ _)⟩)
    dsimp only [Pt.U, Pt.locs, Pt.cells, Pt.slots] at X6 l6 y6 z6 st6 hQ6
    subst l6 y6 z6
    obtain ⟨rfl, N6q, HQ6⟩ := hQ6
    have N6 := Fr.app N4 N6q
    refine Goes.pre (U' := T6.setTop (mkF m 24 #[.val (.ref a), .val (.int (1 : Int32))] [(.int c1)])) (fun t k => st6 t k) ?_
    refine Goes.ret X6 (v := (some (.int c1))) (fun h => by rw [hret] at h; cases h) hlk (by decide) (by decide) HQ6 (fun fs hr => retN X6 hx (t := .char) hret (by simp) (hb hby d13_24) (by rw [show nar .char c1 = c1 from own_nch _ hch1]; exact hr)) ?_
    exact ⟨rfl, N6, rfl⟩
theorem ef_rm_ch32 (m : MethodId) (x0 : Addr) (x1 : Int32) : entryFrame m #[(.ref x0), (.int x1)] 2 = mkF m 0 #[.val (.ref x0), .val (.int x1)] [] := by first | (simp [entryFrame, mkF, argsToLocals, Value.category]; done) | rfl
def Q_rm_ch32 (Z : State) (a : Addr) (b : Addr) (kb : ClassId) (c0 : Int32) (c1 : Int32) (c2 : Int32) (cs : Int32) (sf : Value) (h0 : Heap) (n0 : Nat) (v : Option Value) (h : Heap) (L : List Loc) : Prop := v = some (.int c2) ∧ Fr n0 L ∧ h = h0
set_option maxRecDepth 65536 in
set_option maxHeartbeats 40000000 in
theorem rm_ch32 (l : Launch) (Z : State) (a0 : Array Value) (hw : ∀ d ∈ tables_1, d.before a0 Z = true) (ws : List Jvm.Cond) (a : Addr) (b : Addr) (kb : ClassId) (c0 : Int32) (c1 : Int32) (c2 : Int32) (cs : Int32) (sf : Value) (h0 : Heap) (n0 : Nat) (Z0 : n0 ≤ h0.size) (S_a : OwnStr Z h0 a b kb [c0, c1, c2]) (S_COMPACT_STRINGS : Sta Z Z.heap "java/lang/String" "COMPACT_STRINGS" "Z" (.int cs)) (S__assertionsDisabled : Sta Z Z.heap "java/lang/StringUTF16" "$assertionsDisabled" "Z" (.int (1 : Int32))) (S_HI_BYTE_SHIFT : Sta Z Z.heap "java/lang/StringUTF16" "HI_BYTE_SHIFT" "I" (.int (0 : Int32))) (S_LO_BYTE_SHIFT : Sta Z Z.heap "java/lang/StringUTF16" "LO_BYTE_SHIFT" "I" (.int (8 : Int32))) (S_SIOOBE_FORMATTER : Sta Z Z.heap "jdk/internal/util/Preconditions" "SIOOBE_FORMATTER" "Ljava/util/function/BiFunction;" sf) (hcs : ¬ (cs = (0 : Int32))) (hsf : sf.isRef = true) (O : Old Z n0 h0) :
    Met l Z M13 jdk_42_method_56_code 2 (some .char) ws (Rm 4 0 0 53) #[(.ref a), (.int (2 : Int32))] h0 (Q_rm_ch32 Z a b kb c0 c1 c2 cs sf h0 n0) := by
  refine met_of (plainFor_of_name pn_java_lang_String) (own := "java/lang/String") rfl (fun m => ef_rm_ch32 m a (2 : Int32)) ?_
  intro p e s m below meth c s₁ hx hby hml hown hnm hZ X0 e0 hret hlk
  have N0 := Fr.nil n0
  show Goes p e below s _ _ _ (s₁.setTop (mkF m 0 #[.val (.ref a), .val (.int (2 : Int32))] []))
  obtain ⟨E_a, F_value_a, hcA, hS⟩ := S_a
  have hch0 : OwnCh c0 := hcA c0 (List.mem_of_getElem? (i := 0) rfl)
  have hch1 : OwnCh c1 := hcA c1 (List.mem_of_getElem? (i := 1) rfl)
  have hch2 : OwnCh c2 := hcA c2 (List.mem_of_getElem? (i := 2) rfl)
  rcases hS with ⟨F_coder_a, V_b, hle⟩ | ⟨F_coder_a, V_b, hex⟩
  ·
    have V_b : Arv Z h0 b kb .byte (3 : Int32) [(.int c0.toInt8.toInt32), (.int c1.toInt8.toInt32), (.int c2.toInt8.toInt32)] (.int (0 : Int32)) := V_b
    have hle0 : ¬ ((255 : Int32) < c0) := hle c0 (List.mem_of_getElem? (i := 0) rfl)
    have hle1 : ¬ ((255 : Int32) < c1) := hle c1 (List.mem_of_getElem? (i := 1) rfl)
    have hle2 : ¬ ((255 : Int32) < c2) := hle c2 (List.mem_of_getElem? (i := 2) rfl)
    refine Goes.pre (U' := s₁.setTop (mkF m 1 #[.val (.ref a), .val (.int (2 : Int32))] [(.ref a)])) (fun t k => XS.aloadN X0.here hx rfl (hb hby d13_0) rfl rfl k) ?_
    obtain ⟨cq1, kq1, q1a, q1b, q1c⟩ := isOf hZ e0 E_a
    obtain ⟨_, _, ⟨T1, L1, k1, n1⟩, -, X1, ⟨Lc1, hQ1, l1, y1, z1⟩, st1⟩ := X0.virtualBack hx (y := (⟨"java/lang/String", "isLatin1", "()Z"⟩ : MethodName)) (z := (⟨"java/lang/String", "isLatin1", "()Z"⟩ : MethodName)) hown (mvT hZ (wq hw 70 rfl)) (mvT hZ (wq hw 71 rfl)) (notFace_of_selects (args := #[]) (mvT hZ (wq hw 73 rfl))) (mvT hZ (wq hw 73 rfl)) (mvT hZ (wq hw 72 rfl)) (by decide) (backOf (W := 0) (rm_isL0 l Z a0 hw [] a cs h0 n0 Z0 S_COMPACT_STRINGS F_coder_a hcs O) hZ (wq hw 74 rfl) (wq hw 10 rfl) (by decide) (by decide)) q1a q1c (g := (mkF m 1 #[.val (.ref a), .val (.int (2 : Int32))] [(.ref a)])) rfl (by rw [hml]; rfl) (Steps.refl _) (argsL := []) (rest := []) (lenOf pd__28_29Z rfl) rfl (by show 2 * 0 + _ ≤ _; exact Nat.le_of_eq rfl) (hb hby d13_1) (fun _ _ => ⟨rfl, e0, (by decide : 0 + 0 ≤ _), (by decide : 0 + 0 ≤ _)⟩)
    dsimp only [Pt.U, Pt.locs, Pt.cells, Pt.slots] at X1 l1 y1 z1 st1 hQ1
    subst l1 y1 z1
    obtain ⟨rfl, N1q, HQ1⟩ := hQ1
    have N1 := Fr.app N0 N1q
    refine Goes.pre (U' := T1.setTop (mkF m 4 #[.val (.ref a), .val (.int (2 : Int32))] [(.int (1 : Int32))])) (fun t k => st1.trans k) ?_
    have hc4 : ¬ ((1 : Int32) = (0 : Int32)) := by decide
    refine Goes.pre (U' := T1.setTop (mkF m 8 #[.val (.ref a), .val (.int (2 : Int32))] [(.ref a)])) (fun t k => XS.ifNo X1.here hx rfl (hb hby d13_4) rfl ((if0 _ _).trans (feq hc4).1) (XS.aloadN X1.here hx rfl (hb hby d13_7) rfl rfl k)) ?_
    obtain ⟨T2, X2, e2, st2⟩ := getF X1 hx hZ hown (host := "") (Or.inl (wq hw 28 rfl)) Via.refl HQ1 F_value_a (g := (mkF m 8 #[.val (.ref a), .val (.int (2 : Int32))] [(.ref a)])) rfl rfl (hb hby d13_8)
    refine Goes.pre (U' := T2.setTop (mkF m 12 #[.val (.ref a), .val (.int (2 : Int32))] [(.int (2 : Int32)), (.ref b)])) (fun t k => st2 t (XS.iloadN X2.here hx rfl (hb hby d13_11) rfl k)) ?_
    obtain ⟨_, _, ⟨T3, L3, k3, n3⟩, -, X3, ⟨Lc3, hQ3, l3, y3, z3⟩, st3⟩ := Jvm.LawKit.callS X2 hx (y := (⟨"java/lang/StringLatin1", "charAt", "([BI)C"⟩ : MethodName)) hown (mvT hZ (wq hw 75 rfl)) (mvT hZ (wq hw 76 rfl)) (mvT hZ (wq hw 77 rfl)) (mvT hZ (wq hw 78 rfl)) (by decide) (backOf (W := 0) (rm_l1ch32 l Z a0 hw [] b kb c0 c1 c2 sf h0 n0 Z0 V_b S_SIOOBE_FORMATTER hch2 hle2 hsf O) hZ (wq hw 78 rfl) (wq hw 77 rfl) (by decide) (by decide)) (g := (mkF m 12 #[.val (.ref a), .val (.int (2 : Int32))] [(.int (2 : Int32)), (.ref b)])) rfl (by rw [hml]; rfl) (argsL := [(.ref b), (.int (2 : Int32))]) (rest := []) (lenOf pd__28_5bBI_29C rfl) rfl (by show 2 * 0 + _ ≤ _; exact Nat.le_of_eq rfl) (hb hby d13_12) (fun _ _ => ⟨rfl, e2, (by decide : 0 + 0 ≤ _), (by decide : 0 + 0 ≤ _)⟩)
    dsimp only [Pt.U, Pt.locs, Pt.cells, Pt.slots] at X3 l3 y3 z3 st3 hQ3
    subst l3 y3 z3
    obtain ⟨rfl, N3q, HQ3⟩ := hQ3
    have N3 := Fr.app N1 N3q
    refine Goes.pre (U' := T3.setTop (mkF m 15 #[.val (.ref a), .val (.int (2 : Int32))] [(.int c2)])) (fun t k => st3 t k) ?_
    refine Goes.ret X3 (v := (some (.int c2))) (fun h => by rw [hret] at h; cases h) hlk (by decide) (by decide) HQ3 (fun fs hr => retN X3 hx (t := .char) hret (by simp) (hb hby d13_15) (by rw [show nar .char c2 = c2 from own_nch _ hch2]; exact hr)) ?_
    exact ⟨rfl, N3, rfl⟩
  ·
    have V_b : Arv Z h0 b kb .byte (6 : Int32) [(.int (c0 >>> ((0 : Int32) &&& 31)).toInt8.toInt32), (.int (c0 >>> ((8 : Int32) &&& 31)).toInt8.toInt32), (.int (c1 >>> ((0 : Int32) &&& 31)).toInt8.toInt32), (.int (c1 >>> ((8 : Int32) &&& 31)).toInt8.toInt32), (.int (c2 >>> ((0 : Int32) &&& 31)).toInt8.toInt32), (.int (c2 >>> ((8 : Int32) &&& 31)).toInt8.toInt32)] (.int (0 : Int32)) := V_b
    refine Goes.pre (U' := s₁.setTop (mkF m 1 #[.val (.ref a), .val (.int (2 : Int32))] [(.ref a)])) (fun t k => XS.aloadN X0.here hx rfl (hb hby d13_0) rfl rfl k) ?_
    obtain ⟨cq4, kq4, q4a, q4b, q4c⟩ := isOf hZ e0 E_a
    obtain ⟨_, _, ⟨T4, L4, k4, n4⟩, -, X4, ⟨Lc4, hQ4, l4, y4, z4⟩, st4⟩ := X0.virtualBack hx (y := (⟨"java/lang/String", "isLatin1", "()Z"⟩ : MethodName)) (z := (⟨"java/lang/String", "isLatin1", "()Z"⟩ : MethodName)) hown (mvT hZ (wq hw 70 rfl)) (mvT hZ (wq hw 71 rfl)) (notFace_of_selects (args := #[]) (mvT hZ (wq hw 73 rfl))) (mvT hZ (wq hw 73 rfl)) (mvT hZ (wq hw 72 rfl)) (by decide) (backOf (W := 0) (rm_isL1 l Z a0 hw [] a cs h0 n0 Z0 S_COMPACT_STRINGS F_coder_a hcs O) hZ (wq hw 74 rfl) (wq hw 10 rfl) (by decide) (by decide)) q4a q4c (g := (mkF m 1 #[.val (.ref a), .val (.int (2 : Int32))] [(.ref a)])) rfl (by rw [hml]; rfl) (Steps.refl _) (argsL := []) (rest := []) (lenOf pd__28_29Z rfl) rfl (by show 2 * 0 + _ ≤ _; exact Nat.le_of_eq rfl) (hb hby d13_1) (fun _ _ => ⟨rfl, e0, (by decide : 0 + 0 ≤ _), (by decide : 0 + 0 ≤ _)⟩)
    dsimp only [Pt.U, Pt.locs, Pt.cells, Pt.slots] at X4 l4 y4 z4 st4 hQ4
    subst l4 y4 z4
    obtain ⟨rfl, N4q, HQ4⟩ := hQ4
    have N4 := Fr.app N0 N4q
    refine Goes.pre (U' := T4.setTop (mkF m 4 #[.val (.ref a), .val (.int (2 : Int32))] [(.int (0 : Int32))])) (fun t k => st4.trans k) ?_
    have hc4 : (0 : Int32) = (0 : Int32) := rfl
    refine Goes.pre (U' := T4.setTop (mkF m 17 #[.val (.ref a), .val (.int (2 : Int32))] [(.ref a)])) (fun t k => XS.ifYes X4.here hx rfl (pc0 := 4) (pc' := 16) rfl (hb hby d13_4) rfl ((if0 _ _).trans (teq hc4).1) (by decide) (by decide) (XS.aloadN X4.here hx rfl (hb hby d13_16) rfl rfl k)) ?_
    obtain ⟨T5, X5, e5, st5⟩ := getF X4 hx hZ hown (host := "") (Or.inl (wq hw 28 rfl)) Via.refl HQ4 F_value_a (g := (mkF m 17 #[.val (.ref a), .val (.int (2 : Int32))] [(.ref a)])) rfl rfl (hb hby d13_17)
    refine Goes.pre (U' := T5.setTop (mkF m 21 #[.val (.ref a), .val (.int (2 : Int32))] [(.int (2 : Int32)), (.ref b)])) (fun t k => st5 t (XS.iloadN X5.here hx rfl (hb hby d13_20) rfl k)) ?_
    obtain ⟨_, _, ⟨T6, L6, k6, n6⟩, -, X6, ⟨Lc6, hQ6, l6, y6, z6⟩, st6⟩ := Jvm.LawKit.callS X5 hx (y := (⟨"java/lang/StringUTF16", "charAt", "([BI)C"⟩ : MethodName)) hown (mvT hZ (wq hw 109 rfl)) (mvT hZ (wq hw 110 rfl)) (mvT hZ (wq hw 51 rfl)) (mvT hZ (wq hw 111 rfl)) (by decide) (backOf (W := 0) (rm_uch32 l Z a0 hw [] b kb c0 c1 c2 sf h0 n0 Z0 V_b S__assertionsDisabled S_HI_BYTE_SHIFT S_LO_BYTE_SHIFT S_SIOOBE_FORMATTER hch2 hsf O) hZ (wq hw 111 rfl) (wq hw 51 rfl) (by decide) (by decide)) (g := (mkF m 21 #[.val (.ref a), .val (.int (2 : Int32))] [(.int (2 : Int32)), (.ref b)])) rfl (by rw [hml]; rfl) (argsL := [(.ref b), (.int (2 : Int32))]) (rest := []) (lenOf pd__28_5bBI_29C rfl) rfl (by show 2 * 0 + _ ≤ _; exact Nat.le_of_eq rfl) (hb hby d13_21) (fun _ _ => ⟨rfl, e5, (by decide : 0 + 0 ≤ _), (by decide : 0 + 0 ≤ _)⟩)
    dsimp only [Pt.U, Pt.locs, Pt.cells, Pt.slots] at X6 l6 y6 z6 st6 hQ6
    subst l6 y6 z6
    obtain ⟨rfl, N6q, HQ6⟩ := hQ6
    have N6 := Fr.app N4 N6q
    refine Goes.pre (U' := T6.setTop (mkF m 24 #[.val (.ref a), .val (.int (2 : Int32))] [(.int c2)])) (fun t k => st6 t k) ?_
    refine Goes.ret X6 (v := (some (.int c2))) (fun h => by rw [hret] at h; cases h) hlk (by decide) (by decide) HQ6 (fun fs hr => retN X6 hx (t := .char) hret (by simp) (hb hby d13_24) (by rw [show nar .char c2 = c2 from own_nch _ hch2]; exact hr)) ?_
    exact ⟨rfl, N6, rfl⟩
theorem ef_rm_putCh10 (m : MethodId) (x0 : Addr) (x1 : Int32) (x2 : Int32) : entryFrame m #[(.ref x0), (.int x1), (.int x2)] 3 = mkF m 0 #[.val (.ref x0), .val (.int x1), .val (.int x2)] [] := by first | (simp [entryFrame, mkF, argsToLocals, Value.category]; done) | rfl
abbrev M22 : MethodName := ⟨"java/lang/StringUTF16", "putChar", "([BII)V"⟩
theorem d22_0 : decode jdk_52_method_4_code 0 = .ok (.getstatic 44, 3) := by decide +kernel
theorem d22_3 : decode jdk_52_method_4_code 3 = .ok (.ifCond .ne 25, 3) := by decide +kernel
theorem d22_28 : decode jdk_52_method_4_code 28 = .ok (.iload_n 1, 1) := by decide +kernel
theorem d22_29 : decode jdk_52_method_4_code 29 = .ok (.iconst 1, 1) := by decide +kernel
theorem d22_30 : decode jdk_52_method_4_code 30 = .ok (.ishl, 1) := by decide +kernel
theorem d22_31 : decode jdk_52_method_4_code 31 = .ok (.istore_n 1, 1) := by decide +kernel
theorem d22_32 : decode jdk_52_method_4_code 32 = .ok (.aload_n 0, 1) := by decide +kernel
theorem d22_33 : decode jdk_52_method_4_code 33 = .ok (.iload_n 1, 1) := by decide +kernel
theorem d22_34 : decode jdk_52_method_4_code 34 = .ok (.iinc 1 1, 3) := by decide +kernel
theorem d22_37 : decode jdk_52_method_4_code 37 = .ok (.iload_n 2, 1) := by decide +kernel
theorem d22_38 : decode jdk_52_method_4_code 38 = .ok (.getstatic 59, 3) := by decide +kernel
theorem d22_41 : decode jdk_52_method_4_code 41 = .ok (.ishr, 1) := by decide +kernel
theorem d22_42 : decode jdk_52_method_4_code 42 = .ok (.i2b, 1) := by decide +kernel
theorem d22_43 : decode jdk_52_method_4_code 43 = .ok (.bastore, 1) := by decide +kernel
theorem d22_44 : decode jdk_52_method_4_code 44 = .ok (.aload_n 0, 1) := by decide +kernel
theorem d22_45 : decode jdk_52_method_4_code 45 = .ok (.iload_n 1, 1) := by decide +kernel
theorem d22_46 : decode jdk_52_method_4_code 46 = .ok (.iload_n 2, 1) := by decide +kernel
theorem d22_47 : decode jdk_52_method_4_code 47 = .ok (.getstatic 63, 3) := by decide +kernel
theorem d22_50 : decode jdk_52_method_4_code 50 = .ok (.ishr, 1) := by decide +kernel
theorem d22_51 : decode jdk_52_method_4_code 51 = .ok (.i2b, 1) := by decide +kernel
theorem d22_52 : decode jdk_52_method_4_code 52 = .ok (.bastore, 1) := by decide +kernel
theorem d22_53 : decode jdk_52_method_4_code 53 = .ok (.return_, 1) := by decide +kernel
def Q_rm_putCh10 (Z : State) (b : Addr) (kb : ClassId) (q : Int32) (o0 : Int32) (o1 : Int32) (h0 : Heap) (n0 : Nat) (v : Option Value) (h : Heap) (L : List Loc) : Prop := v = none ∧ Fr n0 L ∧ Keep h0 h [b] ∧ Arv Z h b kb .byte (2 : Int32) [(.int (q >>> ((0 : Int32) &&& 31)).toInt8.toInt32), (.int (q >>> ((8 : Int32) &&& 31)).toInt8.toInt32)] (.int (0 : Int32))
set_option maxRecDepth 65536 in
set_option maxHeartbeats 40000000 in
theorem rm_putCh10 (l : Launch) (Z : State) (a0 : Array Value) (hw : ∀ d ∈ tables_1, d.before a0 Z = true) (ws : List Jvm.Cond) (b : Addr) (kb : ClassId) (q : Int32) (o0 : Int32) (o1 : Int32) (h0 : Heap) (n0 : Nat) (Z0 : n0 ≤ h0.size) (V_b : Arv Z h0 b kb .byte (2 : Int32) [(.int o0), (.int o1)] (.int (0 : Int32))) (S__assertionsDisabled : Sta Z Z.heap "java/lang/StringUTF16" "$assertionsDisabled" "Z" (.int (1 : Int32))) (S_HI_BYTE_SHIFT : Sta Z Z.heap "java/lang/StringUTF16" "HI_BYTE_SHIFT" "I" (.int (0 : Int32))) (S_LO_BYTE_SHIFT : Sta Z Z.heap "java/lang/StringUTF16" "LO_BYTE_SHIFT" "I" (.int (8 : Int32))) (g_b : n0 ≤ b) (O : Old Z n0 h0) :
    Met l Z M22 jdk_52_method_4_code 3 none ws (Rm 0 0 0 0) #[(.ref b), (.int (0 : Int32)), (.int q)] h0 (Q_rm_putCh10 Z b kb q o0 o1 h0 n0) := by
  refine met_of (plainFor_of_name pn_java_lang_StringUTF16) (own := "java/lang/StringUTF16") rfl (fun m => ef_rm_putCh10 m b (0 : Int32) q) ?_
  intro p e s m below meth c s₁ hx hby hml hown hnm hZ X0 e0 hret hlk
  have N0 := Fr.nil n0
  have K0 := Keep.refl h0 [b]
  show Goes p e below s _ _ _ (s₁.setTop (mkF m 0 #[.val (.ref b), .val (.int (0 : Int32)), .val (.int q)] []))
  obtain ⟨T1, X1, e1, st1⟩ := getS2 X0 hx hZ hown (host := "") (Or.inl (wq hw 103 rfl)) Via.refl e0 (S__assertionsDisabled.ext O.2) (g := (mkF m 0 #[.val (.ref b), .val (.int (0 : Int32)), .val (.int q)] [])) rfl (hb hby d22_0)
  refine Goes.pre (U' := T1.setTop (mkF m 3 #[.val (.ref b), .val (.int (0 : Int32)), .val (.int q)] [(.int (1 : Int32))])) (fun t k => st1 t k) ?_
  have hc3 : ¬ ((1 : Int32) = (0 : Int32)) := by decide
  refine Goes.pre (U' := T1.setTop (mkF m 31 #[.val (.ref b), .val (.int (0 : Int32)), .val (.int q)] [(.int ((0 : Int32) <<< ((1 : Int32) &&& 31)))])) (fun t k => XS.ifYes X1.here hx rfl (pc0 := 3) (pc' := 28) rfl (hb hby d22_3) rfl ((if0 _ _).trans (feq hc3).2) (by decide) (by decide) (XS.iloadN X1.here hx rfl (hb hby d22_28) rfl (XS.iconst X1.here hx rfl (hb hby d22_29) (XS.ishl X1.here hx rfl (hb hby d22_30) rfl k)))) ?_
  rw [(by decide : ((0 : Int32) <<< ((1 : Int32) &&& 31)) = (0 : Int32))]
  refine Goes.pre (U' := T1.setTop (mkF m 37 #[.val (.ref b), .val (.int ((0 : Int32) + (1 : Int32))), .val (.int q)] [(.int (0 : Int32)), (.ref b)])) (fun t k => XS.istoreN X1.here hx rfl (hb hby d22_31) rfl (l' := #[.val (.ref b), .val (.int (0 : Int32)), .val (.int q)]) rfl (XS.aloadN X1.here hx rfl (hb hby d22_32) rfl rfl (XS.iloadN X1.here hx rfl (hb hby d22_33) rfl (XT.iincV X1.here hx rfl (1 : Int32) (hb hby d22_34) (by decide) rfl (l' := #[.val (.ref b), .val (.int ((0 : Int32) + (1 : Int32))), .val (.int q)]) rfl k)))) ?_
  rw [(by decide : ((0 : Int32) + (1 : Int32)) = (1 : Int32))]
  refine Goes.pre (U' := T1.setTop (mkF m 38 #[.val (.ref b), .val (.int (1 : Int32)), .val (.int q)] [(.int q), (.int (0 : Int32)), (.ref b)])) (fun t k => XS.iloadN X1.here hx rfl (hb hby d22_37) rfl k) ?_
  obtain ⟨T2, X2, e2, st2⟩ := getS2 X1 hx hZ hown (host := "") (Or.inl (wq hw 104 rfl)) Via.refl e1 (S_HI_BYTE_SHIFT.ext O.2) (g := (mkF m 38 #[.val (.ref b), .val (.int (1 : Int32)), .val (.int q)] [(.int q), (.int (0 : Int32)), (.ref b)])) rfl (hb hby d22_38)
  refine Goes.pre (U' := T2.setTop (mkF m 43 #[.val (.ref b), .val (.int (1 : Int32)), .val (.int q)] [(.int ((q >>> ((0 : Int32) &&& 31)).toInt8.toInt32)), (.int (0 : Int32)), (.ref b)])) (fun t k => st2 t (XS.ishr X2.here hx rfl (hb hby d22_41) rfl (XS.i2b X2.here hx rfl (hb hby d22_42) rfl k))) ?_
  obtain ⟨cl3, Ar3, q3, Sz3, Ng3, Hs3, Ft3⟩ := id V_b
  obtain ⟨T3, h3, X3, e3, W3, st3⟩ := stB X2 hx hZ e2 Ar3 (j := (0 : Int32)) (inb_of Sz3 ⟨by decide, by decide⟩) (g := (mkF m 43 #[.val (.ref b), .val (.int (1 : Int32)), .val (.int q)] [(.int ((q >>> ((0 : Int32) &&& 31)).toInt8.toInt32)), (.int (0 : Int32)), (.ref b)])) rfl rfl (hb hby d22_43)
  have nr3 : nar .byte ((q >>> ((0 : Int32) &&& 31)).toInt8.toInt32) = ((q >>> ((0 : Int32) &&& 31)).toInt8.toInt32) := own_bb _
  have ft3 : fits .byte (.int ((q >>> ((0 : Int32) &&& 31)).toInt8.toInt32)) = true := nr3 ▸ (fits_nar_byte ((q >>> ((0 : Int32) &&& 31)).toInt8.toInt32) : fits .byte (.int (nar .byte ((q >>> ((0 : Int32) &&& 31)).toInt8.toInt32))) = true)
  rw [nr3] at W3
  have Z3 : n0 ≤ h3.size := Nat.le_trans Z0 (Keep.of_wr W3).1
  have O := O.wr W3 g_b
  have V_b : Arv Z h3 b kb .byte (2 : Int32) [(.int ((q >>> ((0 : Int32) &&& 31)).toInt8.toInt32)), (.int o1)] (.int (0 : Int32)) := Arv.set Ar3 q3 Sz3 Ng3 Hs3 Ft3 ft3 W3 0 rfl (Nat.le_of_ble_eq_true rfl)
  have K3 := K0.wr W3 (Or.inl (List.mem_of_getElem? (i := 0) rfl))
  have N3 := Fr.snoc X3 N0 g_b
  refine Goes.pre (U' := T3.setTop (mkF m 47 #[.val (.ref b), .val (.int (1 : Int32)), .val (.int q)] [(.int q), (.int (1 : Int32)), (.ref b)])) (fun t k => st3 t (XS.aloadN X3.here hx rfl (hb hby d22_44) rfl rfl (XS.iloadN X3.here hx rfl (hb hby d22_45) rfl (XS.iloadN X3.here hx rfl (hb hby d22_46) rfl k)))) ?_
  obtain ⟨T4, X4, e4, st4⟩ := getS2 X3 hx hZ hown (host := "") (Or.inl (wq hw 105 rfl)) Via.refl e3 (S_LO_BYTE_SHIFT.ext O.2) (g := (mkF m 47 #[.val (.ref b), .val (.int (1 : Int32)), .val (.int q)] [(.int q), (.int (1 : Int32)), (.ref b)])) rfl (hb hby d22_47)
  refine Goes.pre (U' := T4.setTop (mkF m 52 #[.val (.ref b), .val (.int (1 : Int32)), .val (.int q)] [(.int ((q >>> ((8 : Int32) &&& 31)).toInt8.toInt32)), (.int (1 : Int32)), (.ref b)])) (fun t k => st4 t (XS.ishr X4.here hx rfl (hb hby d22_50) rfl (XS.i2b X4.here hx rfl (hb hby d22_51) rfl k))) ?_
  obtain ⟨cl5, Ar5, q5, Sz5, Ng5, Hs5, Ft5⟩ := id V_b
  obtain ⟨T5, h5, X5, e5, W5, st5⟩ := stB X4 hx hZ e4 Ar5 (j := (1 : Int32)) (inb_of Sz5 ⟨by decide, by decide⟩) (g := (mkF m 52 #[.val (.ref b), .val (.int (1 : Int32)), .val (.int q)] [(.int ((q >>> ((8 : Int32) &&& 31)).toInt8.toInt32)), (.int (1 : Int32)), (.ref b)])) rfl rfl (hb hby d22_52)
  have nr5 : nar .byte ((q >>> ((8 : Int32) &&& 31)).toInt8.toInt32) = ((q >>> ((8 : Int32) &&& 31)).toInt8.toInt32) := own_bb _
  have ft5 : fits .byte (.int ((q >>> ((8 : Int32) &&& 31)).toInt8.toInt32)) = true := nr5 ▸ (fits_nar_byte ((q >>> ((8 : Int32) &&& 31)).toInt8.toInt32) : fits .byte (.int (nar .byte ((q >>> ((8 : Int32) &&& 31)).toInt8.toInt32))) = true)
  rw [nr5] at W5
  have Z5 : n0 ≤ h5.size := Nat.le_trans Z3 (Keep.of_wr W5).1
  have O := O.wr W5 g_b
  have V_b : Arv Z h5 b kb .byte (2 : Int32) [(.int ((q >>> ((0 : Int32) &&& 31)).toInt8.toInt32)), (.int ((q >>> ((8 : Int32) &&& 31)).toInt8.toInt32))] (.int (0 : Int32)) := Arv.set Ar5 q5 Sz5 Ng5 Hs5 Ft5 ft5 W5 1 rfl (Nat.le_of_ble_eq_true rfl)
  have K5 := K3.wr W5 (Or.inl (List.mem_of_getElem? (i := 0) rfl))
  have N5 := Fr.snoc X5 N3 g_b
  refine Goes.pre (U' := T5.setTop (mkF m 53 #[.val (.ref b), .val (.int (1 : Int32)), .val (.int q)] [])) (fun t k => st5 t k) ?_
  refine Goes.ret X5 (v := none) (fun _ => rfl) hlk (by decide) (by decide) e5 (fun fs hr => X5.returnOut hx hret (hb hby d22_53) hr) ?_
  exact ⟨rfl, N5, K5, V_b⟩
theorem ef_rm_nbl1 (m : MethodId) (x0 : Int32) : entryFrame m #[(.int x0)] 1 = mkF m 0 #[.val (.int x0)] [] := by first | (simp [entryFrame, mkF, argsToLocals, Value.category]; done) | rfl
abbrev M21 : MethodName := ⟨"java/lang/StringUTF16", "newBytesLength", "(I)I"⟩
theorem d21_0 : decode jdk_52_method_3_code 0 = .ok (.iload_n 0, 1) := by decide +kernel
theorem d21_1 : decode jdk_52_method_3_code 1 = .ok (.ifCond .ge 11, 3) := by decide +kernel
theorem d21_12 : decode jdk_52_method_3_code 12 = .ok (.iload_n 0, 1) := by decide +kernel
theorem d21_13 : decode jdk_52_method_3_code 13 = .ok (.ldc 20, 2) := by decide +kernel
theorem d21_15 : decode jdk_52_method_3_code 15 = .ok (.if_icmp .lt 40, 3) := by decide +kernel
theorem d21_55 : decode jdk_52_method_3_code 55 = .ok (.iload_n 0, 1) := by decide +kernel
theorem d21_56 : decode jdk_52_method_3_code 56 = .ok (.iconst 1, 1) := by decide +kernel
theorem d21_57 : decode jdk_52_method_3_code 57 = .ok (.ishl, 1) := by decide +kernel
theorem d21_58 : decode jdk_52_method_3_code 58 = .ok (.ireturn, 1) := by decide +kernel
def Q_rm_nbl1 (Z : State)  (h0 : Heap) (n0 : Nat) (v : Option Value) (h : Heap) (L : List Loc) : Prop := v = some (.int (2 : Int32)) ∧ Fr n0 L ∧ h = h0
set_option maxRecDepth 65536 in
set_option maxHeartbeats 40000000 in
theorem rm_nbl1 (l : Launch) (Z : State) (a0 : Array Value) (hw : ∀ d ∈ tables_1, d.before a0 Z = true) (ws : List Jvm.Cond)  (h0 : Heap) (n0 : Nat) (Z0 : n0 ≤ h0.size)  :
    Met l Z M21 jdk_52_method_3_code 1 (some .int) ws (Rm 0 0 0 0) #[(.int (1 : Int32))] h0 (Q_rm_nbl1 Z  h0 n0) := by
  refine met_of (plainFor_of_name pn_java_lang_StringUTF16) (own := "java/lang/StringUTF16") rfl (fun m => ef_rm_nbl1 m (1 : Int32)) ?_
  intro p e s m below meth c s₁ hx hby hml hown hnm hZ X0 e0 hret hlk
  have N0 := Fr.nil n0
  show Goes p e below s _ _ _ (s₁.setTop (mkF m 0 #[.val (.int (1 : Int32))] []))
  refine Goes.pre (U' := s₁.setTop (mkF m 1 #[.val (.int (1 : Int32))] [(.int (1 : Int32))])) (fun t k => XS.iloadN X0.here hx rfl (hb hby d21_0) rfl k) ?_
  have hc1 : ¬ ((1 : Int32) < (0 : Int32)) := by decide
  refine Goes.pre (U' := s₁.setTop (mkF m 15 #[.val (.int (1 : Int32))] [(.int (1073741823 : Int32)), (.int (1 : Int32))])) (fun t k => XS.ifYes X0.here hx rfl (pc0 := 1) (pc' := 12) rfl (hb hby d21_1) rfl ((if0 _ _).trans (flt hc1).2.1) (by decide) (by decide) (XS.iloadN X0.here hx rfl (hb hby d21_12) rfl (X0.ldcInt hx hown (mvT hZ (wq hw 99 rfl)) (g := (mkF m 13 #[.val (.int (1 : Int32))] [(.int (1 : Int32))])) rfl (hb hby d21_13) _ k))) ?_
  have hc15 : (1 : Int32) < (1073741823 : Int32) := by decide
  refine Goes.pre (U' := s₁.setTop (mkF m 58 #[.val (.int (1 : Int32))] [(.int ((1 : Int32) <<< ((1 : Int32) &&& 31)))])) (fun t k => XS.icmpYes X0.here hx rfl (pc0 := 15) (pc' := 55) rfl (hb hby d21_15) rfl (tlt hc15).1 (by decide) (by decide) (XS.iloadN X0.here hx rfl (hb hby d21_55) rfl (XS.iconst X0.here hx rfl (hb hby d21_56) (XS.ishl X0.here hx rfl (hb hby d21_57) rfl k)))) ?_
  rw [(by decide : ((1 : Int32) <<< ((1 : Int32) &&& 31)) = (2 : Int32))]
  refine Goes.ret X0 (v := (some (.int (2 : Int32)))) (fun h => by rw [hret] at h; cases h) hlk (by decide) (by decide) e0 (fun fs hr => retI X0 hx hret (hb hby d21_58) hr) ?_
  exact ⟨rfl, N0, rfl⟩
theorem ef_rm_nbf1 (m : MethodId) (x0 : Int32) : entryFrame m #[(.int x0)] 1 = mkF m 0 #[.val (.int x0)] [] := by first | (simp [entryFrame, mkF, argsToLocals, Value.category]; done) | rfl
abbrev M20 : MethodName := ⟨"java/lang/StringUTF16", "newBytesFor", "(I)[B"⟩
theorem d20_0 : decode jdk_52_method_2_code 0 = .ok (.iload_n 0, 1) := by decide +kernel
theorem d20_1 : decode jdk_52_method_2_code 1 = .ok (.invokestatic 11, 3) := by decide +kernel
theorem pd__28I_29I : parseMethodDescriptor "(I)I" = some ⟨[.int], some .int⟩ := by decide +kernel
theorem d20_4 : decode jdk_52_method_2_code 4 = .ok (.newarray .byte, 2) := by decide +kernel
theorem d20_6 : decode jdk_52_method_2_code 6 = .ok (.areturn, 1) := by decide +kernel
def Q_rm_nbf1 (Z : State)  (h0 : Heap) (n0 : Nat) (v : Option Value) (h : Heap) (L : List Loc) : Prop := ∃ (r : Addr) (kr : ClassId), v = some (.ref r) ∧ Fr n0 L ∧ Keep h0 h [] ∧ Arv Z h r kr .byte (2 : Int32) [(.int (0 : Int32)), (.int (0 : Int32))] (.int (0 : Int32)) ∧ n0 ≤ r ∧ h0.size ≤ r
set_option maxRecDepth 65536 in
set_option maxHeartbeats 40000000 in
theorem rm_nbf1 (l : Launch) (Z : State) (a0 : Array Value) (hw : ∀ d ∈ tables_1, d.before a0 Z = true) (ws : List Jvm.Cond)  (h0 : Heap) (n0 : Nat) (Z0 : n0 ≤ h0.size)  :
    Met l Z M20 jdk_52_method_2_code 1 (some (.array .byte)) ws (Rm 1 1 2 12) #[(.int (1 : Int32))] h0 (Q_rm_nbf1 Z  h0 n0) := by
  refine met_of (plainFor_of_name pn_java_lang_StringUTF16) (own := "java/lang/StringUTF16") rfl (fun m => ef_rm_nbf1 m (1 : Int32)) ?_
  intro p e s m below meth c s₁ hx hby hml hown hnm hZ X0 e0 hret hlk
  have N0 := Fr.nil n0
  have K0 := Keep.refl h0 []
  show Goes p e below s _ _ _ (s₁.setTop (mkF m 0 #[.val (.int (1 : Int32))] []))
  refine Goes.pre (U' := s₁.setTop (mkF m 1 #[.val (.int (1 : Int32))] [(.int (1 : Int32))])) (fun t k => XS.iloadN X0.here hx rfl (hb hby d20_0) rfl k) ?_
  obtain ⟨_, _, ⟨T1, L1, k1, n1⟩, -, X1, ⟨Lc1, hQ1, l1, y1, z1⟩, st1⟩ := Jvm.LawKit.callS X0 hx (y := (⟨"java/lang/StringUTF16", "newBytesLength", "(I)I"⟩ : MethodName)) hown (mvT hZ (wq hw 96 rfl)) (mvT hZ (wq hw 97 rfl)) (mvT hZ (wq hw 51 rfl)) (mvT hZ (wq hw 98 rfl)) (by decide) (backOf (W := 0) (rm_nbl1 l Z a0 hw []  h0 n0 Z0 ) hZ (wq hw 98 rfl) (wq hw 51 rfl) (by decide) (by decide)) (g := (mkF m 1 #[.val (.int (1 : Int32))] [(.int (1 : Int32))])) rfl (by rw [hml]; rfl) (argsL := [(.int (1 : Int32))]) (rest := []) (lenOf pd__28I_29I rfl) rfl (by show 2 * 0 + _ ≤ _; exact Nat.le_of_eq rfl) (hb hby d20_1) (fun _ _ => ⟨rfl, e0, (by decide : 0 + 0 ≤ _), (by decide : 0 + 0 ≤ _)⟩)
  dsimp only [Pt.U, Pt.locs, Pt.cells, Pt.slots] at X1 l1 y1 z1 st1 hQ1
  subst l1 y1 z1
  obtain ⟨rfl, N1q, HQ1⟩ := hQ1
  have N1 := Fr.app N0 N1q
  refine Goes.pre (U' := T1.setTop (mkF m 4 #[.val (.int (1 : Int32))] [(.int (2 : Int32))])) (fun t k => st1 t k) ?_
  obtain ⟨T2, h2, k2, X2, e2, E2, A2, B2, st2⟩ := newPE X1 hx hZ (wq hw 23 rfl) HQ1 (g := (mkF m 4 #[.val (.int (1 : Int32))] [(.int (2 : Int32))])) rfl (hb hby d20_4) rfl (by decide) (cap := 2) (by decide) (by decide) (by decide) (by decide) (ad := "[B") (by decide)
  obtain ⟨nb2, g2⟩ : ∃ z, z = h0.size := ⟨_, rfl⟩
  rw [← g2] at A2 B2 st2
  have g_nb2 : n0 ≤ nb2 := Nat.le_trans Z0 (Nat.le_of_eq g2.symm)
  have sz_nb2 : h0.size ≤ nb2 := Nat.le_trans K0.1 (Nat.le_of_eq g2.symm)
  have Z2 : n0 ≤ h2.size := Nat.le_trans Z0 E2.1
  have K2 := K0.ext E2
  have E_nb2 := B2
  have V_nb2 : Arv Z h2 nb2 k2 .byte (2 : Int32) [(.int (0 : Int32)), (.int (0 : Int32))] (.int (0 : Int32)) := (Arv.new A2 (by decide)).pad (pad_rep [] (.int (0 : Int32)) 2)
  refine Goes.pre (U' := T2.setTop (mkF m 6 #[.val (.int (1 : Int32))] [(.ref nb2)])) (fun t k => st2 t k) ?_
  refine Goes.ret X2 (v := (some (.ref nb2))) (fun h => by rw [hret] at h; cases h) hlk (by decide) (by decide) e2 (fun fs hr => retOut X2 hx hret rfl (Or.inr (Or.inr (Or.inr (Or.inr ⟨rfl, rfl, rfl⟩)))) (hb hby d20_6) hr) ?_
  exact ⟨nb2, k2, rfl, N1, K2, V_nb2, g_nb2, sz_nb2⟩
theorem ef_rm_toB1 (m : MethodId) (x0 : Addr) (x1 : Int32) (x2 : Int32) : entryFrame m #[(.ref x0), (.int x1), (.int x2)] 5 = mkF m 0 #[.val (.ref x0), .val (.int x1), .val (.int x2), .unset, .unset] [] := by first | (simp [entryFrame, mkF, argsToLocals, Value.category]; done) | rfl
abbrev M19 : MethodName := ⟨"java/lang/StringUTF16", "toBytes", "([CII)[B"⟩
theorem d19_0 : decode jdk_52_method_14_code 0 = .ok (.iload_n 2, 1) := by decide +kernel
theorem d19_1 : decode jdk_52_method_14_code 1 = .ok (.invokestatic 107, 3) := by decide +kernel
theorem pd__28I_29_5bB : parseMethodDescriptor "(I)[B" = some ⟨[.int], some (.array .byte)⟩ := by decide +kernel
theorem d19_4 : decode jdk_52_method_14_code 4 = .ok (.astore_n 3, 1) := by decide +kernel
theorem d19_5 : decode jdk_52_method_14_code 5 = .ok (.iconst 0, 1) := by decide +kernel
theorem d19_6 : decode jdk_52_method_14_code 6 = .ok (.istore 4, 2) := by decide +kernel
theorem d19_8 : decode jdk_52_method_14_code 8 = .ok (.iload 4, 2) := by decide +kernel
theorem d19_10 : decode jdk_52_method_14_code 10 = .ok (.iload_n 2, 1) := by decide +kernel
theorem d19_11 : decode jdk_52_method_14_code 11 = .ok (.if_icmp .ge 21, 3) := by decide +kernel
theorem d19_14 : decode jdk_52_method_14_code 14 = .ok (.aload_n 3, 1) := by decide +kernel
theorem d19_15 : decode jdk_52_method_14_code 15 = .ok (.iload 4, 2) := by decide +kernel
theorem d19_17 : decode jdk_52_method_14_code 17 = .ok (.aload_n 0, 1) := by decide +kernel
theorem d19_18 : decode jdk_52_method_14_code 18 = .ok (.iload_n 1, 1) := by decide +kernel
theorem d19_19 : decode jdk_52_method_14_code 19 = .ok (.caload, 1) := by decide +kernel
theorem d19_20 : decode jdk_52_method_14_code 20 = .ok (.invokestatic 111, 3) := by decide +kernel
theorem pd__28_5bBII_29V : parseMethodDescriptor "([BII)V" = some ⟨[(.array .byte), .int, .int], none⟩ := by decide +kernel
theorem d19_23 : decode jdk_52_method_14_code 23 = .ok (.iinc 1 1, 3) := by decide +kernel
theorem d19_26 : decode jdk_52_method_14_code 26 = .ok (.iinc 4 1, 3) := by decide +kernel
theorem d19_29 : decode jdk_52_method_14_code 29 = .ok (.goto (-21), 3) := by decide +kernel
theorem d19_32 : decode jdk_52_method_14_code 32 = .ok (.aload_n 3, 1) := by decide +kernel
theorem d19_33 : decode jdk_52_method_14_code 33 = .ok (.areturn, 1) := by decide +kernel
def Q_rm_toB1 (Z : State) (d : Addr) (kd : ClassId) (c0 : Int32) (h0 : Heap) (n0 : Nat) (v : Option Value) (h : Heap) (L : List Loc) : Prop := ∃ (r : Addr) (kr : ClassId), v = some (.ref r) ∧ Fr n0 L ∧ Keep h0 h [] ∧ Arv Z h r kr .byte (2 : Int32) [(.int (c0 >>> ((0 : Int32) &&& 31)).toInt8.toInt32), (.int (c0 >>> ((8 : Int32) &&& 31)).toInt8.toInt32)] (.int (0 : Int32)) ∧ n0 ≤ r ∧ h0.size ≤ r
set_option maxRecDepth 65536 in
set_option maxHeartbeats 40000000 in
theorem rm_toB1 (l : Launch) (Z : State) (a0 : Array Value) (hw : ∀ d ∈ tables_1, d.before a0 Z = true) (ws : List Jvm.Cond) (d : Addr) (kd : ClassId) (c0 : Int32) (h0 : Heap) (n0 : Nat) (Z0 : n0 ≤ h0.size) (V_d : Arv Z h0 d kd .char (1 : Int32) [(.int c0)] (.int (0 : Int32))) (S__assertionsDisabled : Sta Z Z.heap "java/lang/StringUTF16" "$assertionsDisabled" "Z" (.int (1 : Int32))) (S_HI_BYTE_SHIFT : Sta Z Z.heap "java/lang/StringUTF16" "HI_BYTE_SHIFT" "I" (.int (0 : Int32))) (S_LO_BYTE_SHIFT : Sta Z Z.heap "java/lang/StringUTF16" "LO_BYTE_SHIFT" "I" (.int (8 : Int32))) (O : Old Z n0 h0) :
    Met l Z M19 jdk_52_method_14_code 5 (some (.array .byte)) ws (Rm 2 1 2 24) #[(.ref d), (.int (0 : Int32)), (.int (1 : Int32))] h0 (Q_rm_toB1 Z d kd c0 h0 n0) := by
  refine met_of (plainFor_of_name pn_java_lang_StringUTF16) (own := "java/lang/StringUTF16") rfl (fun m => ef_rm_toB1 m d (0 : Int32) (1 : Int32)) ?_
  intro p e s m below meth c s₁ hx hby hml hown hnm hZ X0 e0 hret hlk
  have N0 := Fr.nil n0
  have K0 := Keep.refl h0 []
  show Goes p e below s _ _ _ (s₁.setTop (mkF m 0 #[.val (.ref d), .val (.int (0 : Int32)), .val (.int (1 : Int32)), .unset, .unset] []))
  refine Goes.pre (U' := s₁.setTop (mkF m 1 #[.val (.ref d), .val (.int (0 : Int32)), .val (.int (1 : Int32)), .unset, .unset] [(.int (1 : Int32))])) (fun t k => XS.iloadN X0.here hx rfl (hb hby d19_0) rfl k) ?_
  have lt_d := V_d.lt
  obtain ⟨_, _, ⟨T1, L1, k1, n1⟩, -, X1, ⟨Lc1, hQ1, l1, y1, z1⟩, st1⟩ := Jvm.LawKit.callS X0 hx (y := (⟨"java/lang/StringUTF16", "newBytesFor", "(I)[B"⟩ : MethodName)) hown (mvT hZ (wq hw 93 rfl)) (mvT hZ (wq hw 94 rfl)) (mvT hZ (wq hw 51 rfl)) (mvT hZ (wq hw 95 rfl)) (by decide) (backOf (W := 0) (rm_nbf1 l Z a0 hw []  h0 n0 Z0 ) hZ (wq hw 95 rfl) (wq hw 51 rfl) (by decide) (by decide)) (g := (mkF m 1 #[.val (.ref d), .val (.int (0 : Int32)), .val (.int (1 : Int32)), .unset, .unset] [(.int (1 : Int32))])) rfl (by rw [hml]; rfl) (argsL := [(.int (1 : Int32))]) (rest := []) (lenOf pd__28I_29_5bB rfl) rfl (by show 2 * 0 + _ ≤ _; exact Nat.le_of_eq rfl) (hb hby d19_1) (fun _ _ => ⟨rfl, e0, (by decide : 0 + 1 ≤ _), (by decide : 0 + 2 ≤ _)⟩)
  dsimp only [Pt.U, Pt.locs, Pt.cells, Pt.slots] at X1 l1 y1 z1 st1 hQ1
  subst l1 y1 z1
  obtain ⟨r1, kr1, rfl, N1q, KQ1, fo0_1, g_r1, sl_r1⟩ := hQ1
  have N1 := Fr.app N0 N1q
  have V_d := V_d.keep KQ1 nin0
  have Z2 : n0 ≤ T1.heap.size := Nat.le_trans Z0 KQ1.1
  have O := O.keep KQ1 all0
  have K2 := K0.trans KQ1 all0
  have ne_d_r1 : d ≠ r1 := Nat.ne_of_lt (Nat.lt_of_lt_of_le lt_d sl_r1)
  have ne_r1_d := ne_d_r1.symm
  have sz_r1 : h0.size ≤ r1 := Nat.le_trans K0.1 sl_r1
  have V_r1 := fo0_1
  refine Goes.pre (U' := T1.setTop (mkF m 11 #[.val (.ref d), .val (.int (0 : Int32)), .val (.int (1 : Int32)), .val (.ref r1), .val (.int (0 : Int32))] [(.int (1 : Int32)), (.int (0 : Int32))])) (fun t k => st1 t (XS.astoreN X1.here hx rfl (hb hby d19_4) rfl rfl (l' := #[.val (.ref d), .val (.int (0 : Int32)), .val (.int (1 : Int32)), .val (.ref r1), .unset]) rfl (XS.iconst X1.here hx rfl (hb hby d19_5) (XS.istore X1.here hx rfl (hb hby d19_6) rfl (l' := #[.val (.ref d), .val (.int (0 : Int32)), .val (.int (1 : Int32)), .val (.ref r1), .val (.int (0 : Int32))]) rfl (XS.iload X1.here hx rfl (hb hby d19_8) rfl (XS.iloadN X1.here hx rfl (hb hby d19_10) rfl k)))))) ?_
  have hc11 : (0 : Int32) < (1 : Int32) := by decide
  refine Goes.pre (U' := T1.setTop (mkF m 19 #[.val (.ref d), .val (.int (0 : Int32)), .val (.int (1 : Int32)), .val (.ref r1), .val (.int (0 : Int32))] [(.int (0 : Int32)), (.ref d), (.int (0 : Int32)), (.ref r1)])) (fun t k => XS.icmpNo X1.here hx rfl (hb hby d19_11) rfl (tlt hc11).2.1 (XS.aloadN X1.here hx rfl (hb hby d19_14) rfl rfl (XS.iload X1.here hx rfl (hb hby d19_15) rfl (XS.aloadN X1.here hx rfl (hb hby d19_17) rfl rfl (XS.iloadN X1.here hx rfl (hb hby d19_18) rfl k))))) ?_
  obtain ⟨cl3, Ar3, q3, Sz3, Ng3, Hs3, Ft3⟩ := id V_d
  have hin3 := inb_of (j := (0 : Int32)) Sz3 ⟨by decide, by decide⟩
  refine Goes.pre (U' := T1.setTop (mkF m 20 #[.val (.ref d), .val (.int (0 : Int32)), .val (.int (1 : Int32)), .val (.ref r1), .val (.int (0 : Int32))] [(.int c0), (.int (0 : Int32)), (.ref r1)])) (fun t k => X1.caload hx (j := (0 : Int32)) (v := (.int c0)) Ar3.1 (State.isArrayOf_alike hZ.alike Ar3.2.1) Ar3.2.2 hin3 (Has.at Hs3 hin3 rfl) (g := (mkF m 19 #[.val (.ref d), .val (.int (0 : Int32)), .val (.int (1 : Int32)), .val (.ref r1), .val (.int (0 : Int32))] [(.int (0 : Int32)), (.ref d), (.int (0 : Int32)), (.ref r1)])) rfl rfl (hb hby d19_19) _ k) ?_
  obtain ⟨_, _, ⟨T4, L4, k4, n4⟩, -, X4, ⟨Lc4, hQ4, l4, y4, z4⟩, st4⟩ := Jvm.LawKit.callS X1 hx (y := (⟨"java/lang/StringUTF16", "putChar", "([BII)V"⟩ : MethodName)) hown (mvT hZ (wq hw 100 rfl)) (mvT hZ (wq hw 101 rfl)) (mvT hZ (wq hw 51 rfl)) (mvT hZ (wq hw 102 rfl)) (by decide) (backOf (W := 0) (rm_putCh10 l Z a0 hw [] r1 kr1 c0 (0 : Int32) (0 : Int32) T1.heap n0 Z2 V_r1 S__assertionsDisabled S_HI_BYTE_SHIFT S_LO_BYTE_SHIFT g_r1 O) hZ (wq hw 102 rfl) (wq hw 51 rfl) (by decide) (by decide)) (g := (mkF m 20 #[.val (.ref d), .val (.int (0 : Int32)), .val (.int (1 : Int32)), .val (.ref r1), .val (.int (0 : Int32))] [(.int c0), (.int (0 : Int32)), (.ref r1)])) rfl (by rw [hml]; rfl) (argsL := [(.ref r1), (.int (0 : Int32)), (.int c0)]) (rest := []) (lenOf pd__28_5bBII_29V rfl) rfl (by show 2 * 0 + _ ≤ _; exact Nat.le_of_eq rfl) (hb hby d19_20) (fun _ _ => ⟨rfl, rfl, (by decide : 1 + 0 ≤ _), (by decide : 2 + 0 ≤ _)⟩)
  dsimp only [Pt.U, Pt.locs, Pt.cells, Pt.slots] at X4 l4 y4 z4 st4 hQ4
  subst l4 y4 z4
  obtain ⟨rfl, N4q, KQ4, fo0_4⟩ := hQ4
  have N4 := Fr.app N1 N4q
  have V_d := V_d.keep KQ4 (ninS ne_d_r1 nin0)
  have Z5 : n0 ≤ T4.heap.size := Nat.le_trans Z2 KQ4.1
  have O := O.keep KQ4 (allS (P := fun x => n0 ≤ x) g_r1 all0)
  have K5 := K2.trans KQ4 (allS (P := fun x => x ∈ [] ∨ h0.size ≤ x) (Or.inr sz_r1) all0)
  have V_r1 := fo0_4
  refine Goes.pre (U' := T4.setTop (mkF m 26 #[.val (.ref d), .val (.int ((0 : Int32) + (1 : Int32))), .val (.int (1 : Int32)), .val (.ref r1), .val (.int (0 : Int32))] [])) (fun t k => st4 t (XT.iincV X4.here hx rfl (1 : Int32) (hb hby d19_23) (by decide) rfl (l' := #[.val (.ref d), .val (.int ((0 : Int32) + (1 : Int32))), .val (.int (1 : Int32)), .val (.ref r1), .val (.int (0 : Int32))]) rfl k)) ?_
  rw [(by decide : ((0 : Int32) + (1 : Int32)) = (1 : Int32))]
  refine Goes.pre (U' := T4.setTop (mkF m 29 #[.val (.ref d), .val (.int (1 : Int32)), .val (.int (1 : Int32)), .val (.ref r1), .val (.int ((0 : Int32) + (1 : Int32)))] [])) (fun t k => XT.iincV X4.here hx rfl (1 : Int32) (hb hby d19_26) (by decide) rfl (l' := #[.val (.ref d), .val (.int (1 : Int32)), .val (.int (1 : Int32)), .val (.ref r1), .val (.int ((0 : Int32) + (1 : Int32)))]) rfl k) ?_
  rw [(by decide : ((0 : Int32) + (1 : Int32)) = (1 : Int32))]
  refine Goes.pre (U' := T4.setTop (mkF m 11 #[.val (.ref d), .val (.int (1 : Int32)), .val (.int (1 : Int32)), .val (.ref r1), .val (.int (1 : Int32))] [(.int (1 : Int32)), (.int (1 : Int32))])) (fun t k => XS.goto X4.here hx rfl (pc0 := 29) (pc' := 8) rfl (hb hby d19_29) (by decide) (by decide) (XS.iload X4.here hx rfl (hb hby d19_8) rfl (XS.iloadN X4.here hx rfl (hb hby d19_10) rfl k))) ?_
  have hc11 : ¬ ((1 : Int32) < (1 : Int32)) := by decide
  refine Goes.pre (U' := T4.setTop (mkF m 33 #[.val (.ref d), .val (.int (1 : Int32)), .val (.int (1 : Int32)), .val (.ref r1), .val (.int (1 : Int32))] [(.ref r1)])) (fun t k => XS.icmpYes X4.here hx rfl (pc0 := 11) (pc' := 32) rfl (hb hby d19_11) rfl (flt hc11).2.1 (by decide) (by decide) (XS.aloadN X4.here hx rfl (hb hby d19_32) rfl rfl k)) ?_
  refine Goes.ret X4 (v := (some (.ref r1))) (fun h => by rw [hret] at h; cases h) hlk (by decide) (by decide) rfl (fun fs hr => retOut X4 hx hret rfl (Or.inr (Or.inr (Or.inr (Or.inr ⟨rfl, rfl, rfl⟩)))) (hb hby d19_33) hr) ?_
  exact ⟨r1, kr1, rfl, N4, K5, V_r1, g_r1, sz_r1⟩
theorem ef_rm_cmpI10 (m : MethodId) (x0 : Addr) (x1 : Int32) (x2 : Addr) (x3 : Int32) (x4 : Int32) : entryFrame m #[(.ref x0), (.int x1), (.ref x2), (.int x3), (.int x4)] 7 = mkF m 0 #[.val (.ref x0), .val (.int x1), .val (.ref x2), .val (.int x3), .val (.int x4), .unset, .unset] [] := by first | (simp [entryFrame, mkF, argsToLocals, Value.category]; done) | rfl
abbrev M10 : MethodName := ⟨"java/lang/StringUTF16", "compress", "([CI[BII)I"⟩
theorem d10_0 : decode jdk_52_method_21_code 0 = .ok (.iconst 0, 1) := by decide +kernel
theorem d10_1 : decode jdk_52_method_21_code 1 = .ok (.istore 5, 2) := by decide +kernel
theorem d10_3 : decode jdk_52_method_21_code 3 = .ok (.iload 5, 2) := by decide +kernel
theorem d10_5 : decode jdk_52_method_21_code 5 = .ok (.iload 4, 2) := by decide +kernel
theorem d10_7 : decode jdk_52_method_21_code 7 = .ok (.if_icmp .ge 37, 3) := by decide +kernel
theorem d10_10 : decode jdk_52_method_21_code 10 = .ok (.aload_n 0, 1) := by decide +kernel
theorem d10_11 : decode jdk_52_method_21_code 11 = .ok (.iload_n 1, 1) := by decide +kernel
theorem d10_12 : decode jdk_52_method_21_code 12 = .ok (.caload, 1) := by decide +kernel
theorem d10_13 : decode jdk_52_method_21_code 13 = .ok (.istore 6, 2) := by decide +kernel
theorem d10_15 : decode jdk_52_method_21_code 15 = .ok (.iload 6, 2) := by decide +kernel
theorem d10_17 : decode jdk_52_method_21_code 17 = .ok (.sipush 255, 3) := by decide +kernel
theorem d10_20 : decode jdk_52_method_21_code 20 = .ok (.if_icmp .le 6, 3) := by decide +kernel
theorem d10_23 : decode jdk_52_method_21_code 23 = .ok (.iload 5, 2) := by decide +kernel
theorem d10_25 : decode jdk_52_method_21_code 25 = .ok (.ireturn, 1) := by decide +kernel
def Q_rm_cmpI10 (Z : State) (d : Addr) (kd : ClassId) (c0 : Int32) (b : Addr) (kb : ClassId) (h0 : Heap) (n0 : Nat) (v : Option Value) (h : Heap) (L : List Loc) : Prop := v = some (.int (0 : Int32)) ∧ Fr n0 L ∧ Keep h0 h [b] ∧ Arv Z h b kb .byte (1 : Int32) [(.int (0 : Int32))] (.int (0 : Int32))
set_option maxRecDepth 65536 in
set_option maxHeartbeats 40000000 in
theorem rm_cmpI10 (l : Launch) (Z : State) (a0 : Array Value) (hw : ∀ d ∈ tables_1, d.before a0 Z = true) (ws : List Jvm.Cond) (d : Addr) (kd : ClassId) (c0 : Int32) (b : Addr) (kb : ClassId) (h0 : Heap) (n0 : Nat) (Z0 : n0 ≤ h0.size) (V_d : Arv Z h0 d kd .char (1 : Int32) [(.int c0)] (.int (0 : Int32))) (V_b : Arv Z h0 b kb .byte (1 : Int32) [(.int (0 : Int32))] (.int (0 : Int32))) (hgt : (255 : Int32) < c0) (ne_d_b : d ≠ b) (g_b : n0 ≤ b) :
    Met l Z M10 jdk_52_method_21_code 7 (some .int) ws (Rm 0 0 0 0) #[(.ref d), (.int (0 : Int32)), (.ref b), (.int (0 : Int32)), (.int (1 : Int32))] h0 (Q_rm_cmpI10 Z d kd c0 b kb h0 n0) := by
  refine met_of (plainFor_of_name pn_java_lang_StringUTF16) (own := "java/lang/StringUTF16") rfl (fun m => ef_rm_cmpI10 m d (0 : Int32) b (0 : Int32) (1 : Int32)) ?_
  intro p e s m below meth c s₁ hx hby hml hown hnm hZ X0 e0 hret hlk
  have N0 := Fr.nil n0
  have K0 := Keep.refl h0 [b]
  show Goes p e below s _ _ _ (s₁.setTop (mkF m 0 #[.val (.ref d), .val (.int (0 : Int32)), .val (.ref b), .val (.int (0 : Int32)), .val (.int (1 : Int32)), .unset, .unset] []))
  refine Goes.pre (U' := s₁.setTop (mkF m 7 #[.val (.ref d), .val (.int (0 : Int32)), .val (.ref b), .val (.int (0 : Int32)), .val (.int (1 : Int32)), .val (.int (0 : Int32)), .unset] [(.int (1 : Int32)), (.int (0 : Int32))])) (fun t k => XS.iconst X0.here hx rfl (hb hby d10_0) (XS.istore X0.here hx rfl (hb hby d10_1) rfl (l' := #[.val (.ref d), .val (.int (0 : Int32)), .val (.ref b), .val (.int (0 : Int32)), .val (.int (1 : Int32)), .val (.int (0 : Int32)), .unset]) rfl (XS.iload X0.here hx rfl (hb hby d10_3) rfl (XS.iload X0.here hx rfl (hb hby d10_5) rfl k)))) ?_
  have hc7 : (0 : Int32) < (1 : Int32) := by decide
  refine Goes.pre (U' := s₁.setTop (mkF m 12 #[.val (.ref d), .val (.int (0 : Int32)), .val (.ref b), .val (.int (0 : Int32)), .val (.int (1 : Int32)), .val (.int (0 : Int32)), .unset] [(.int (0 : Int32)), (.ref d)])) (fun t k => XS.icmpNo X0.here hx rfl (hb hby d10_7) rfl (tlt hc7).2.1 (XS.aloadN X0.here hx rfl (hb hby d10_10) rfl rfl (XS.iloadN X0.here hx rfl (hb hby d10_11) rfl k))) ?_
  obtain ⟨cl1, Ar1, q1, Sz1, Ng1, Hs1, Ft1⟩ := id V_d
  have hin1 := inb_of (j := (0 : Int32)) Sz1 ⟨by decide, by decide⟩
  refine Goes.pre (U' := s₁.setTop (mkF m 20 #[.val (.ref d), .val (.int (0 : Int32)), .val (.ref b), .val (.int (0 : Int32)), .val (.int (1 : Int32)), .val (.int (0 : Int32)), .val (.int c0)] [(.int (255 : Int32)), (.int c0)])) (fun t k => X0.caload hx (j := (0 : Int32)) (v := (.int c0)) (by rw [e0]; exact Ar1.1) (State.isArrayOf_alike hZ.alike Ar1.2.1) Ar1.2.2 hin1 (Has.at Hs1 hin1 rfl) (g := (mkF m 12 #[.val (.ref d), .val (.int (0 : Int32)), .val (.ref b), .val (.int (0 : Int32)), .val (.int (1 : Int32)), .val (.int (0 : Int32)), .unset] [(.int (0 : Int32)), (.ref d)])) rfl rfl (hb hby d10_12) _ (XS.istore X0.here hx rfl (hb hby d10_13) rfl (l' := #[.val (.ref d), .val (.int (0 : Int32)), .val (.ref b), .val (.int (0 : Int32)), .val (.int (1 : Int32)), .val (.int (0 : Int32)), .val (.int c0)]) rfl (XS.iload X0.here hx rfl (hb hby d10_15) rfl (XS.sipush X0.here hx rfl (hb hby d10_17) k)))) ?_
  have hc20 : (255 : Int32) < c0 := hgt
  refine Goes.pre (U' := s₁.setTop (mkF m 25 #[.val (.ref d), .val (.int (0 : Int32)), .val (.ref b), .val (.int (0 : Int32)), .val (.int (1 : Int32)), .val (.int (0 : Int32)), .val (.int c0)] [(.int (0 : Int32))])) (fun t k => XS.icmpNo X0.here hx rfl (hb hby d10_20) rfl (tlt hc20).2.2.2 (XS.iload X0.here hx rfl (hb hby d10_23) rfl k)) ?_
  refine Goes.ret X0 (v := (some (.int (0 : Int32)))) (fun h => by rw [hret] at h; cases h) hlk (by decide) (by decide) e0 (fun fs hr => retI X0 hx hret (hb hby d10_25) hr) ?_
  exact ⟨rfl, N0, K0, V_b⟩
theorem ef_rm_cmp10 (m : MethodId) (x0 : Addr) (x1 : Int32) (x2 : Int32) : entryFrame m #[(.ref x0), (.int x1), (.int x2)] 6 = mkF m 0 #[.val (.ref x0), .val (.int x1), .val (.int x2), .unset, .unset, .unset] [] := by first | (simp [entryFrame, mkF, argsToLocals, Value.category]; done) | rfl
abbrev M9 : MethodName := ⟨"java/lang/StringUTF16", "compress", "([CII)[B"⟩
theorem d9_0 : decode jdk_52_method_16_code 0 = .ok (.iload_n 2, 1) := by decide +kernel
theorem d9_1 : decode jdk_52_method_16_code 1 = .ok (.newarray .byte, 2) := by decide +kernel
theorem d9_3 : decode jdk_52_method_16_code 3 = .ok (.astore_n 3, 1) := by decide +kernel
theorem d9_4 : decode jdk_52_method_16_code 4 = .ok (.aload_n 0, 1) := by decide +kernel
theorem d9_5 : decode jdk_52_method_16_code 5 = .ok (.iload_n 1, 1) := by decide +kernel
theorem d9_6 : decode jdk_52_method_16_code 6 = .ok (.aload_n 3, 1) := by decide +kernel
theorem d9_7 : decode jdk_52_method_16_code 7 = .ok (.iconst 0, 1) := by decide +kernel
theorem d9_8 : decode jdk_52_method_16_code 8 = .ok (.iload_n 2, 1) := by decide +kernel
theorem d9_9 : decode jdk_52_method_16_code 9 = .ok (.invokestatic 115, 3) := by decide +kernel
theorem pd__28_5bCI_5bBII_29I : parseMethodDescriptor "([CI[BII)I" = some ⟨[(.array .char), .int, (.array .byte), .int, .int], some .int⟩ := by decide +kernel
theorem d9_12 : decode jdk_52_method_16_code 12 = .ok (.istore 4, 2) := by decide +kernel
theorem d9_14 : decode jdk_52_method_16_code 14 = .ok (.iload 4, 2) := by decide +kernel
theorem d9_16 : decode jdk_52_method_16_code 16 = .ok (.iload_n 2, 1) := by decide +kernel
theorem d9_17 : decode jdk_52_method_16_code 17 = .ok (.if_icmp .eq 40, 3) := by decide +kernel
theorem d9_20 : decode jdk_52_method_16_code 20 = .ok (.aload_n 0, 1) := by decide +kernel
theorem d9_21 : decode jdk_52_method_16_code 21 = .ok (.iload_n 1, 1) := by decide +kernel
theorem d9_22 : decode jdk_52_method_16_code 22 = .ok (.iload_n 2, 1) := by decide +kernel
theorem d9_23 : decode jdk_52_method_16_code 23 = .ok (.invokestatic 119, 3) := by decide +kernel
theorem pd__28_5bCII_29_5bB : parseMethodDescriptor "([CII)[B" = some ⟨[(.array .char), .int, .int], some (.array .byte)⟩ := by decide +kernel
theorem d9_26 : decode jdk_52_method_16_code 26 = .ok (.astore 5, 2) := by decide +kernel
theorem d9_28 : decode jdk_52_method_16_code 28 = .ok (.aload 5, 2) := by decide +kernel
theorem d9_30 : decode jdk_52_method_16_code 30 = .ok (.iload 4, 2) := by decide +kernel
theorem d9_32 : decode jdk_52_method_16_code 32 = .ok (.invokestatic 71, 3) := by decide +kernel
theorem d9_35 : decode jdk_52_method_16_code 35 = .ok (.sipush 255, 3) := by decide +kernel
theorem d9_38 : decode jdk_52_method_16_code 38 = .ok (.if_icmp .gt 16, 3) := by decide +kernel
theorem d9_54 : decode jdk_52_method_16_code 54 = .ok (.aload 5, 2) := by decide +kernel
theorem d9_56 : decode jdk_52_method_16_code 56 = .ok (.areturn, 1) := by decide +kernel
def Q_rm_cmp10 (Z : State) (d : Addr) (kd : ClassId) (c0 : Int32) (h0 : Heap) (n0 : Nat) (v : Option Value) (h : Heap) (L : List Loc) : Prop := ∃ (r : Addr) (kr : ClassId), v = some (.ref r) ∧ Fr n0 L ∧ Keep h0 h [] ∧ Arv Z h r kr .byte (2 : Int32) [(.int (c0 >>> ((0 : Int32) &&& 31)).toInt8.toInt32), (.int (c0 >>> ((8 : Int32) &&& 31)).toInt8.toInt32)] (.int (0 : Int32)) ∧ n0 ≤ r ∧ h0.size ≤ r
set_option maxRecDepth 65536 in
set_option maxHeartbeats 40000000 in
theorem rm_cmp10 (l : Launch) (Z : State) (a0 : Array Value) (hw : ∀ d ∈ tables_1, d.before a0 Z = true) (ws : List Jvm.Cond) (d : Addr) (kd : ClassId) (c0 : Int32) (h0 : Heap) (n0 : Nat) (Z0 : n0 ≤ h0.size) (V_d : Arv Z h0 d kd .char (1 : Int32) [(.int c0)] (.int (0 : Int32))) (S__assertionsDisabled : Sta Z Z.heap "java/lang/StringUTF16" "$assertionsDisabled" "Z" (.int (1 : Int32))) (S_HI_BYTE_SHIFT : Sta Z Z.heap "java/lang/StringUTF16" "HI_BYTE_SHIFT" "I" (.int (0 : Int32))) (S_LO_BYTE_SHIFT : Sta Z Z.heap "java/lang/StringUTF16" "LO_BYTE_SHIFT" "I" (.int (8 : Int32))) (hgt : (255 : Int32) < c0) (hch : OwnCh c0) (O : Old Z n0 h0) :
    Met l Z M9 jdk_52_method_16_code 6 (some (.array .byte)) ws (Rm 3 2 3 40) #[(.ref d), (.int (0 : Int32)), (.int (1 : Int32))] h0 (Q_rm_cmp10 Z d kd c0 h0 n0) := by
  refine met_of (plainFor_of_name pn_java_lang_StringUTF16) (own := "java/lang/StringUTF16") rfl (fun m => ef_rm_cmp10 m d (0 : Int32) (1 : Int32)) ?_
  intro p e s m below meth c s₁ hx hby hml hown hnm hZ X0 e0 hret hlk
  have N0 := Fr.nil n0
  have K0 := Keep.refl h0 []
  show Goes p e below s _ _ _ (s₁.setTop (mkF m 0 #[.val (.ref d), .val (.int (0 : Int32)), .val (.int (1 : Int32)), .unset, .unset, .unset] []))
  refine Goes.pre (U' := s₁.setTop (mkF m 1 #[.val (.ref d), .val (.int (0 : Int32)), .val (.int (1 : Int32)), .unset, .unset, .unset] [(.int (1 : Int32))])) (fun t k => XS.iloadN X0.here hx rfl (hb hby d9_0) rfl k) ?_
  obtain ⟨T1, h1, k1, X1, e1, E1, A1, B1, st1⟩ := newPE X0 hx hZ (wq hw 23 rfl) e0 (g := (mkF m 1 #[.val (.ref d), .val (.int (0 : Int32)), .val (.int (1 : Int32)), .unset, .unset, .unset] [(.int (1 : Int32))])) rfl (hb hby d9_1) rfl (by decide) (cap := 1) (by decide) (by decide) (by decide) (by decide) (ad := "[B") (by decide)
  obtain ⟨nb1, g1⟩ : ∃ z, z = h0.size := ⟨_, rfl⟩
  rw [← g1] at A1 B1 st1
  have ne_d_nb1 : d ≠ nb1 := Nat.ne_of_lt (Nat.lt_of_lt_of_le V_d.lt (Nat.le_of_eq g1.symm))
  have ne_nb1_d := ne_d_nb1.symm
  have g_nb1 : n0 ≤ nb1 := Nat.le_trans Z0 (Nat.le_of_eq g1.symm)
  have sz_nb1 : h0.size ≤ nb1 := Nat.le_trans K0.1 (Nat.le_of_eq g1.symm)
  have V_d := V_d.ext E1
  have O := O.ext E1
  have Z1 : n0 ≤ h1.size := Nat.le_trans Z0 E1.1
  have K1 := K0.ext E1
  have E_nb1 := B1
  have V_nb1 : Arv Z h1 nb1 k1 .byte (1 : Int32) [(.int (0 : Int32))] (.int (0 : Int32)) := (Arv.new A1 (by decide)).pad (pad_rep [] (.int (0 : Int32)) 1)
  refine Goes.pre (U' := T1.setTop (mkF m 9 #[.val (.ref d), .val (.int (0 : Int32)), .val (.int (1 : Int32)), .val (.ref nb1), .unset, .unset] [(.int (1 : Int32)), (.int (0 : Int32)), (.ref nb1), (.int (0 : Int32)), (.ref d)])) (fun t k => st1 t (XS.astoreN X1.here hx rfl (hb hby d9_3) rfl rfl (l' := #[.val (.ref d), .val (.int (0 : Int32)), .val (.int (1 : Int32)), .val (.ref nb1), .unset, .unset]) rfl (XS.aloadN X1.here hx rfl (hb hby d9_4) rfl rfl (XS.iloadN X1.here hx rfl (hb hby d9_5) rfl (XS.aloadN X1.here hx rfl (hb hby d9_6) rfl rfl (XS.iconst X1.here hx rfl (hb hby d9_7) (XS.iloadN X1.here hx rfl (hb hby d9_8) rfl k))))))) ?_
  obtain ⟨_, _, ⟨T2, L2, k2, n2⟩, -, X2, ⟨Lc2, hQ2, l2, y2, z2⟩, st2⟩ := Jvm.LawKit.callS X1 hx (y := (⟨"java/lang/StringUTF16", "compress", "([CI[BII)I"⟩ : MethodName)) hown (mvT hZ (wq hw 53 rfl)) (mvT hZ (wq hw 54 rfl)) (mvT hZ (wq hw 51 rfl)) (mvT hZ (wq hw 55 rfl)) (by decide) (backOf (W := 0) (rm_cmpI10 l Z a0 hw [] d kd c0 nb1 k1 h1 n0 Z1 V_d V_nb1 hgt ne_d_nb1 g_nb1) hZ (wq hw 55 rfl) (wq hw 51 rfl) (by decide) (by decide)) (g := (mkF m 9 #[.val (.ref d), .val (.int (0 : Int32)), .val (.int (1 : Int32)), .val (.ref nb1), .unset, .unset] [(.int (1 : Int32)), (.int (0 : Int32)), (.ref nb1), (.int (0 : Int32)), (.ref d)])) rfl (by rw [hml]; rfl) (argsL := [(.ref d), (.int (0 : Int32)), (.ref nb1), (.int (0 : Int32)), (.int (1 : Int32))]) (rest := []) (lenOf pd__28_5bCI_5bBII_29I rfl) rfl (by show 2 * 0 + _ ≤ _; exact Nat.le_of_eq rfl) (hb hby d9_9) (fun _ _ => ⟨rfl, e1, (by decide : 1 + 0 ≤ _), (by decide : 1 + 0 ≤ _)⟩)
  dsimp only [Pt.U, Pt.locs, Pt.cells, Pt.slots] at X2 l2 y2 z2 st2 hQ2
  subst l2 y2 z2
  obtain ⟨rfl, N2q, KQ2, fo0_2⟩ := hQ2
  have N2 := Fr.app N0 N2q
  have V_d := V_d.keep KQ2 (ninS ne_d_nb1 nin0)
  have E_nb1 := E_nb1.keep KQ2
  have Z3 : n0 ≤ T2.heap.size := Nat.le_trans Z1 KQ2.1
  have O := O.keep KQ2 (allS (P := fun x => n0 ≤ x) g_nb1 all0)
  have K3 := K1.trans KQ2 (allS (P := fun x => x ∈ [] ∨ h0.size ≤ x) (Or.inr sz_nb1) all0)
  have V_nb1 := fo0_2
  refine Goes.pre (U' := T2.setTop (mkF m 17 #[.val (.ref d), .val (.int (0 : Int32)), .val (.int (1 : Int32)), .val (.ref nb1), .val (.int (0 : Int32)), .unset] [(.int (1 : Int32)), (.int (0 : Int32))])) (fun t k => st2 t (XS.istore X2.here hx rfl (hb hby d9_12) rfl (l' := #[.val (.ref d), .val (.int (0 : Int32)), .val (.int (1 : Int32)), .val (.ref nb1), .val (.int (0 : Int32)), .unset]) rfl (XS.iload X2.here hx rfl (hb hby d9_14) rfl (XS.iloadN X2.here hx rfl (hb hby d9_16) rfl k)))) ?_
  have hc17 : ¬ ((0 : Int32) = (1 : Int32)) := by decide
  refine Goes.pre (U' := T2.setTop (mkF m 23 #[.val (.ref d), .val (.int (0 : Int32)), .val (.int (1 : Int32)), .val (.ref nb1), .val (.int (0 : Int32)), .unset] [(.int (1 : Int32)), (.int (0 : Int32)), (.ref d)])) (fun t k => XS.icmpNo X2.here hx rfl (hb hby d9_17) rfl (feq hc17).1 (XS.aloadN X2.here hx rfl (hb hby d9_20) rfl rfl (XS.iloadN X2.here hx rfl (hb hby d9_21) rfl (XS.iloadN X2.here hx rfl (hb hby d9_22) rfl k)))) ?_
  have lt_d := V_d.lt
  have lt_nb1 := E_nb1.lt
  obtain ⟨_, _, ⟨T4, L4, k4, n4⟩, -, X4, ⟨Lc4, hQ4, l4, y4, z4⟩, st4⟩ := Jvm.LawKit.callS X2 hx (y := (⟨"java/lang/StringUTF16", "toBytes", "([CII)[B"⟩ : MethodName)) hown (mvT hZ (wq hw 90 rfl)) (mvT hZ (wq hw 91 rfl)) (mvT hZ (wq hw 51 rfl)) (mvT hZ (wq hw 92 rfl)) (by decide) (backOf (W := 0) (rm_toB1 l Z a0 hw [] d kd c0 T2.heap n0 Z3 V_d S__assertionsDisabled S_HI_BYTE_SHIFT S_LO_BYTE_SHIFT O) hZ (wq hw 92 rfl) (wq hw 51 rfl) (by decide) (by decide)) (g := (mkF m 23 #[.val (.ref d), .val (.int (0 : Int32)), .val (.int (1 : Int32)), .val (.ref nb1), .val (.int (0 : Int32)), .unset] [(.int (1 : Int32)), (.int (0 : Int32)), (.ref d)])) rfl (by rw [hml]; rfl) (argsL := [(.ref d), (.int (0 : Int32)), (.int (1 : Int32))]) (rest := []) (lenOf pd__28_5bCII_29_5bB rfl) rfl (by show 2 * 0 + _ ≤ _; exact Nat.le_of_eq rfl) (hb hby d9_23) (fun _ _ => ⟨rfl, rfl, (by decide : 1 + 1 ≤ _), (by decide : 1 + 2 ≤ _)⟩)
  dsimp only [Pt.U, Pt.locs, Pt.cells, Pt.slots] at X4 l4 y4 z4 st4 hQ4
  subst l4 y4 z4
  obtain ⟨r4, kr4, rfl, N4q, KQ4, fo0_4, g_r4, sl_r4⟩ := hQ4
  have N4 := Fr.app N2 N4q
  have V_d := V_d.keep KQ4 nin0
  have E_nb1 := E_nb1.keep KQ4
  have V_nb1 := V_nb1.keep KQ4 nin0
  have Z5 : n0 ≤ T4.heap.size := Nat.le_trans Z3 KQ4.1
  have O := O.keep KQ4 all0
  have K5 := K3.trans KQ4 all0
  have ne_d_r4 : d ≠ r4 := Nat.ne_of_lt (Nat.lt_of_lt_of_le lt_d sl_r4)
  have ne_r4_d := ne_d_r4.symm
  have ne_nb1_r4 : nb1 ≠ r4 := Nat.ne_of_lt (Nat.lt_of_lt_of_le lt_nb1 sl_r4)
  have ne_r4_nb1 := ne_nb1_r4.symm
  have sz_r4 : h0.size ≤ r4 := Nat.le_trans K3.1 sl_r4
  have V_r4 := fo0_4
  refine Goes.pre (U' := T4.setTop (mkF m 32 #[.val (.ref d), .val (.int (0 : Int32)), .val (.int (1 : Int32)), .val (.ref nb1), .val (.int (0 : Int32)), .val (.ref r4)] [(.int (0 : Int32)), (.ref r4)])) (fun t k => st4 t (XS.astore X4.here hx rfl (hb hby d9_26) rfl rfl (l' := #[.val (.ref d), .val (.int (0 : Int32)), .val (.int (1 : Int32)), .val (.ref nb1), .val (.int (0 : Int32)), .val (.ref r4)]) rfl (XS.aload X4.here hx rfl (hb hby d9_28) rfl rfl (XS.iload X4.here hx rfl (hb hby d9_30) rfl k)))) ?_
  obtain ⟨_, _, ⟨T6, L6, k6, n6⟩, -, X6, ⟨Lc6, hQ6, l6, y6, z6⟩, st6⟩ := Jvm.LawKit.callS X4 hx (y := (⟨"java/lang/StringUTF16", "getChar", "([BI)C"⟩ : MethodName)) hown (mvT hZ (wq hw 106 rfl)) (mvT hZ (wq hw 107 rfl)) (mvT hZ (wq hw 51 rfl)) (mvT hZ (wq hw 108 rfl)) (by decide) (backOf (W := 0) (rm_getCh10 l Z a0 hw [] r4 kr4 c0 T4.heap n0 Z5 V_r4 S__assertionsDisabled S_HI_BYTE_SHIFT S_LO_BYTE_SHIFT hch O) hZ (wq hw 108 rfl) (wq hw 51 rfl) (by decide) (by decide)) (g := (mkF m 32 #[.val (.ref d), .val (.int (0 : Int32)), .val (.int (1 : Int32)), .val (.ref nb1), .val (.int (0 : Int32)), .val (.ref r4)] [(.int (0 : Int32)), (.ref r4)])) rfl (by rw [hml]; rfl) (argsL := [(.ref r4), (.int (0 : Int32))]) (rest := []) (lenOf pd__28_5bBI_29C rfl) rfl (by show 2 * 0 + _ ≤ _; exact Nat.le_of_eq rfl) (hb hby d9_32) (fun _ _ => ⟨rfl, rfl, (by decide : 2 + 0 ≤ _), (by decide : 3 + 0 ≤ _)⟩)
  dsimp only [Pt.U, Pt.locs, Pt.cells, Pt.slots] at X6 l6 y6 z6 st6 hQ6
  subst l6 y6 z6
  obtain ⟨rfl, N6q, HQ6⟩ := hQ6
  have N6 := Fr.app N4 N6q
  refine Goes.pre (U' := T6.setTop (mkF m 38 #[.val (.ref d), .val (.int (0 : Int32)), .val (.int (1 : Int32)), .val (.ref nb1), .val (.int (0 : Int32)), .val (.ref r4)] [(.int (255 : Int32)), (.int c0)])) (fun t k => st6 t (XS.sipush X6.here hx rfl (hb hby d9_35) k)) ?_
  have hc38 : (255 : Int32) < c0 := hgt
  refine Goes.pre (U' := T6.setTop (mkF m 56 #[.val (.ref d), .val (.int (0 : Int32)), .val (.int (1 : Int32)), .val (.ref nb1), .val (.int (0 : Int32)), .val (.ref r4)] [(.ref r4)])) (fun t k => XS.icmpYes X6.here hx rfl (pc0 := 38) (pc' := 54) rfl (hb hby d9_38) rfl (tlt hc38).2.2.1 (by decide) (by decide) (XS.aload X6.here hx rfl (hb hby d9_54) rfl rfl k)) ?_
  refine Goes.ret X6 (v := (some (.ref r4))) (fun h => by rw [hret] at h; cases h) hlk (by decide) (by decide) HQ6 (fun fs hr => retOut X6 hx hret rfl (Or.inr (Or.inr (Or.inr (Or.inr ⟨rfl, rfl, rfl⟩)))) (hb hby d9_56) hr) ?_
  exact ⟨r4, kr4, rfl, N6, K5, V_r4, g_r4, sz_r4⟩
theorem ef_rm_cmpI11 (m : MethodId) (x0 : Addr) (x1 : Int32) (x2 : Addr) (x3 : Int32) (x4 : Int32) : entryFrame m #[(.ref x0), (.int x1), (.ref x2), (.int x3), (.int x4)] 7 = mkF m 0 #[.val (.ref x0), .val (.int x1), .val (.ref x2), .val (.int x3), .val (.int x4), .unset, .unset] [] := by first | (simp [entryFrame, mkF, argsToLocals, Value.category]; done) | rfl
theorem d10_26 : decode jdk_52_method_21_code 26 = .ok (.aload_n 2, 1) := by decide +kernel
theorem d10_27 : decode jdk_52_method_21_code 27 = .ok (.iload_n 3, 1) := by decide +kernel
theorem d10_28 : decode jdk_52_method_21_code 28 = .ok (.iload 6, 2) := by decide +kernel
theorem d10_30 : decode jdk_52_method_21_code 30 = .ok (.i2b, 1) := by decide +kernel
theorem d10_31 : decode jdk_52_method_21_code 31 = .ok (.bastore, 1) := by decide +kernel
theorem d10_32 : decode jdk_52_method_21_code 32 = .ok (.iinc 1 1, 3) := by decide +kernel
theorem d10_35 : decode jdk_52_method_21_code 35 = .ok (.iinc 3 1, 3) := by decide +kernel
theorem d10_38 : decode jdk_52_method_21_code 38 = .ok (.iinc 5 1, 3) := by decide +kernel
theorem d10_41 : decode jdk_52_method_21_code 41 = .ok (.goto (-38), 3) := by decide +kernel
theorem d10_44 : decode jdk_52_method_21_code 44 = .ok (.iload 4, 2) := by decide +kernel
theorem d10_46 : decode jdk_52_method_21_code 46 = .ok (.ireturn, 1) := by decide +kernel
def Q_rm_cmpI11 (Z : State) (d : Addr) (kd : ClassId) (c0 : Int32) (b : Addr) (kb : ClassId) (h0 : Heap) (n0 : Nat) (v : Option Value) (h : Heap) (L : List Loc) : Prop := v = some (.int (1 : Int32)) ∧ Fr n0 L ∧ Keep h0 h [b] ∧ Arv Z h b kb .byte (1 : Int32) [(.int c0.toInt8.toInt32)] (.int (0 : Int32))
set_option maxRecDepth 65536 in
set_option maxHeartbeats 40000000 in
theorem rm_cmpI11 (l : Launch) (Z : State) (a0 : Array Value) (hw : ∀ d ∈ tables_1, d.before a0 Z = true) (ws : List Jvm.Cond) (d : Addr) (kd : ClassId) (c0 : Int32) (b : Addr) (kb : ClassId) (h0 : Heap) (n0 : Nat) (Z0 : n0 ≤ h0.size) (V_d : Arv Z h0 d kd .char (1 : Int32) [(.int c0)] (.int (0 : Int32))) (V_b : Arv Z h0 b kb .byte (1 : Int32) [(.int (0 : Int32))] (.int (0 : Int32))) (hle0 : ¬ ((255 : Int32) < c0)) (ne_d_b : d ≠ b) (g_b : n0 ≤ b) :
    Met l Z M10 jdk_52_method_21_code 7 (some .int) ws (Rm 0 0 0 0) #[(.ref d), (.int (0 : Int32)), (.ref b), (.int (0 : Int32)), (.int (1 : Int32))] h0 (Q_rm_cmpI11 Z d kd c0 b kb h0 n0) := by
  refine met_of (plainFor_of_name pn_java_lang_StringUTF16) (own := "java/lang/StringUTF16") rfl (fun m => ef_rm_cmpI11 m d (0 : Int32) b (0 : Int32) (1 : Int32)) ?_
  intro p e s m below meth c s₁ hx hby hml hown hnm hZ X0 e0 hret hlk
  have N0 := Fr.nil n0
  have K0 := Keep.refl h0 [b]
  show Goes p e below s _ _ _ (s₁.setTop (mkF m 0 #[.val (.ref d), .val (.int (0 : Int32)), .val (.ref b), .val (.int (0 : Int32)), .val (.int (1 : Int32)), .unset, .unset] []))
  refine Goes.pre (U' := s₁.setTop (mkF m 7 #[.val (.ref d), .val (.int (0 : Int32)), .val (.ref b), .val (.int (0 : Int32)), .val (.int (1 : Int32)), .val (.int (0 : Int32)), .unset] [(.int (1 : Int32)), (.int (0 : Int32))])) (fun t k => XS.iconst X0.here hx rfl (hb hby d10_0) (XS.istore X0.here hx rfl (hb hby d10_1) rfl (l' := #[.val (.ref d), .val (.int (0 : Int32)), .val (.ref b), .val (.int (0 : Int32)), .val (.int (1 : Int32)), .val (.int (0 : Int32)), .unset]) rfl (XS.iload X0.here hx rfl (hb hby d10_3) rfl (XS.iload X0.here hx rfl (hb hby d10_5) rfl k)))) ?_
  have hc7 : (0 : Int32) < (1 : Int32) := by decide
  refine Goes.pre (U' := s₁.setTop (mkF m 12 #[.val (.ref d), .val (.int (0 : Int32)), .val (.ref b), .val (.int (0 : Int32)), .val (.int (1 : Int32)), .val (.int (0 : Int32)), .unset] [(.int (0 : Int32)), (.ref d)])) (fun t k => XS.icmpNo X0.here hx rfl (hb hby d10_7) rfl (tlt hc7).2.1 (XS.aloadN X0.here hx rfl (hb hby d10_10) rfl rfl (XS.iloadN X0.here hx rfl (hb hby d10_11) rfl k))) ?_
  obtain ⟨cl1, Ar1, q1, Sz1, Ng1, Hs1, Ft1⟩ := id V_d
  have hin1 := inb_of (j := (0 : Int32)) Sz1 ⟨by decide, by decide⟩
  refine Goes.pre (U' := s₁.setTop (mkF m 20 #[.val (.ref d), .val (.int (0 : Int32)), .val (.ref b), .val (.int (0 : Int32)), .val (.int (1 : Int32)), .val (.int (0 : Int32)), .val (.int c0)] [(.int (255 : Int32)), (.int c0)])) (fun t k => X0.caload hx (j := (0 : Int32)) (v := (.int c0)) (by rw [e0]; exact Ar1.1) (State.isArrayOf_alike hZ.alike Ar1.2.1) Ar1.2.2 hin1 (Has.at Hs1 hin1 rfl) (g := (mkF m 12 #[.val (.ref d), .val (.int (0 : Int32)), .val (.ref b), .val (.int (0 : Int32)), .val (.int (1 : Int32)), .val (.int (0 : Int32)), .unset] [(.int (0 : Int32)), (.ref d)])) rfl rfl (hb hby d10_12) _ (XS.istore X0.here hx rfl (hb hby d10_13) rfl (l' := #[.val (.ref d), .val (.int (0 : Int32)), .val (.ref b), .val (.int (0 : Int32)), .val (.int (1 : Int32)), .val (.int (0 : Int32)), .val (.int c0)]) rfl (XS.iload X0.here hx rfl (hb hby d10_15) rfl (XS.sipush X0.here hx rfl (hb hby d10_17) k)))) ?_
  have hc20 : ¬ ((255 : Int32) < c0) := hle0
  refine Goes.pre (U' := s₁.setTop (mkF m 31 #[.val (.ref d), .val (.int (0 : Int32)), .val (.ref b), .val (.int (0 : Int32)), .val (.int (1 : Int32)), .val (.int (0 : Int32)), .val (.int c0)] [(.int (c0.toInt8.toInt32)), (.int (0 : Int32)), (.ref b)])) (fun t k => XS.icmpYes X0.here hx rfl (pc0 := 20) (pc' := 26) rfl (hb hby d10_20) rfl (flt hc20).2.2.2 (by decide) (by decide) (XS.aloadN X0.here hx rfl (hb hby d10_26) rfl rfl (XS.iloadN X0.here hx rfl (hb hby d10_27) rfl (XS.iload X0.here hx rfl (hb hby d10_28) rfl (XS.i2b X0.here hx rfl (hb hby d10_30) rfl k))))) ?_
  obtain ⟨cl2, Ar2, q2, Sz2, Ng2, Hs2, Ft2⟩ := id V_b
  obtain ⟨T2, h2, X2, e2, W2, st2⟩ := stB X0 hx hZ e0 Ar2 (j := (0 : Int32)) (inb_of Sz2 ⟨by decide, by decide⟩) (g := (mkF m 31 #[.val (.ref d), .val (.int (0 : Int32)), .val (.ref b), .val (.int (0 : Int32)), .val (.int (1 : Int32)), .val (.int (0 : Int32)), .val (.int c0)] [(.int (c0.toInt8.toInt32)), (.int (0 : Int32)), (.ref b)])) rfl rfl (hb hby d10_31)
  have nr2 : nar .byte (c0.toInt8.toInt32) = (c0.toInt8.toInt32) := own_bb _
  have ft2 : fits .byte (.int (c0.toInt8.toInt32)) = true := nr2 ▸ (fits_nar_byte (c0.toInt8.toInt32) : fits .byte (.int (nar .byte (c0.toInt8.toInt32))) = true)
  rw [nr2] at W2
  have V_d := V_d.other W2 ne_d_b
  have Z2 : n0 ≤ h2.size := Nat.le_trans Z0 (Keep.of_wr W2).1
  have V_b : Arv Z h2 b kb .byte (1 : Int32) [(.int (c0.toInt8.toInt32))] (.int (0 : Int32)) := Arv.set Ar2 q2 Sz2 Ng2 Hs2 Ft2 ft2 W2 0 rfl (Nat.le_of_ble_eq_true rfl)
  have K2 := K0.wr W2 (Or.inl (List.mem_of_getElem? (i := 0) rfl))
  have N2 := Fr.snoc X2 N0 g_b
  refine Goes.pre (U' := T2.setTop (mkF m 35 #[.val (.ref d), .val (.int ((0 : Int32) + (1 : Int32))), .val (.ref b), .val (.int (0 : Int32)), .val (.int (1 : Int32)), .val (.int (0 : Int32)), .val (.int c0)] [])) (fun t k => st2 t (XT.iincV X2.here hx rfl (1 : Int32) (hb hby d10_32) (by decide) rfl (l' := #[.val (.ref d), .val (.int ((0 : Int32) + (1 : Int32))), .val (.ref b), .val (.int (0 : Int32)), .val (.int (1 : Int32)), .val (.int (0 : Int32)), .val (.int c0)]) rfl k)) ?_
  rw [(by decide : ((0 : Int32) + (1 : Int32)) = (1 : Int32))]
  refine Goes.pre (U' := T2.setTop (mkF m 38 #[.val (.ref d), .val (.int (1 : Int32)), .val (.ref b), .val (.int ((0 : Int32) + (1 : Int32))), .val (.int (1 : Int32)), .val (.int (0 : Int32)), .val (.int c0)] [])) (fun t k => XT.iincV X2.here hx rfl (1 : Int32) (hb hby d10_35) (by decide) rfl (l' := #[.val (.ref d), .val (.int (1 : Int32)), .val (.ref b), .val (.int ((0 : Int32) + (1 : Int32))), .val (.int (1 : Int32)), .val (.int (0 : Int32)), .val (.int c0)]) rfl k) ?_
  rw [(by decide : ((0 : Int32) + (1 : Int32)) = (1 : Int32))]
  refine Goes.pre (U' := T2.setTop (mkF m 41 #[.val (.ref d), .val (.int (1 : Int32)), .val (.ref b), .val (.int (1 : Int32)), .val (.int (1 : Int32)), .val (.int ((0 : Int32) + (1 : Int32))), .val (.int c0)] [])) (fun t k => XT.iincV X2.here hx rfl (1 : Int32) (hb hby d10_38) (by decide) rfl (l' := #[.val (.ref d), .val (.int (1 : Int32)), .val (.ref b), .val (.int (1 : Int32)), .val (.int (1 : Int32)), .val (.int ((0 : Int32) + (1 : Int32))), .val (.int c0)]) rfl k) ?_
  rw [(by decide : ((0 : Int32) + (1 : Int32)) = (1 : Int32))]
  refine Goes.pre (U' := T2.setTop (mkF m 7 #[.val (.ref d), .val (.int (1 : Int32)), .val (.ref b), .val (.int (1 : Int32)), .val (.int (1 : Int32)), .val (.int (1 : Int32)), .val (.int c0)] [(.int (1 : Int32)), (.int (1 : Int32))])) (fun t k => XS.goto X2.here hx rfl (pc0 := 41) (pc' := 3) rfl (hb hby d10_41) (by decide) (by decide) (XS.iload X2.here hx rfl (hb hby d10_3) rfl (XS.iload X2.here hx rfl (hb hby d10_5) rfl k))) ?_
  have hc7 : ¬ ((1 : Int32) < (1 : Int32)) := by decide
  refine Goes.pre (U' := T2.setTop (mkF m 46 #[.val (.ref d), .val (.int (1 : Int32)), .val (.ref b), .val (.int (1 : Int32)), .val (.int (1 : Int32)), .val (.int (1 : Int32)), .val (.int c0)] [(.int (1 : Int32))])) (fun t k => XS.icmpYes X2.here hx rfl (pc0 := 7) (pc' := 44) rfl (hb hby d10_7) rfl (flt hc7).2.1 (by decide) (by decide) (XS.iload X2.here hx rfl (hb hby d10_44) rfl k)) ?_
  refine Goes.ret X2 (v := (some (.int (1 : Int32)))) (fun h => by rw [hret] at h; cases h) hlk (by decide) (by decide) e2 (fun fs hr => retI X2 hx hret (hb hby d10_46) hr) ?_
  exact ⟨rfl, N2, K2, V_b⟩
theorem ef_rm_cmp11 (m : MethodId) (x0 : Addr) (x1 : Int32) (x2 : Int32) : entryFrame m #[(.ref x0), (.int x1), (.int x2)] 6 = mkF m 0 #[.val (.ref x0), .val (.int x1), .val (.int x2), .unset, .unset, .unset] [] := by first | (simp [entryFrame, mkF, argsToLocals, Value.category]; done) | rfl
theorem d9_57 : decode jdk_52_method_16_code 57 = .ok (.aload_n 3, 1) := by decide +kernel
theorem d9_58 : decode jdk_52_method_16_code 58 = .ok (.areturn, 1) := by decide +kernel
def Q_rm_cmp11 (Z : State) (d : Addr) (kd : ClassId) (c0 : Int32) (h0 : Heap) (n0 : Nat) (v : Option Value) (h : Heap) (L : List Loc) : Prop := ∃ (r : Addr) (kr : ClassId), v = some (.ref r) ∧ Fr n0 L ∧ Keep h0 h [] ∧ Arv Z h r kr .byte (1 : Int32) [(.int c0.toInt8.toInt32)] (.int (0 : Int32)) ∧ n0 ≤ r ∧ h0.size ≤ r
set_option maxRecDepth 65536 in
set_option maxHeartbeats 40000000 in
theorem rm_cmp11 (l : Launch) (Z : State) (a0 : Array Value) (hw : ∀ d ∈ tables_1, d.before a0 Z = true) (ws : List Jvm.Cond) (d : Addr) (kd : ClassId) (c0 : Int32) (h0 : Heap) (n0 : Nat) (Z0 : n0 ≤ h0.size) (V_d : Arv Z h0 d kd .char (1 : Int32) [(.int c0)] (.int (0 : Int32))) (S__assertionsDisabled : Sta Z Z.heap "java/lang/StringUTF16" "$assertionsDisabled" "Z" (.int (1 : Int32))) (S_HI_BYTE_SHIFT : Sta Z Z.heap "java/lang/StringUTF16" "HI_BYTE_SHIFT" "I" (.int (0 : Int32))) (S_LO_BYTE_SHIFT : Sta Z Z.heap "java/lang/StringUTF16" "LO_BYTE_SHIFT" "I" (.int (8 : Int32))) (hle0 : ¬ ((255 : Int32) < c0)) (O : Old Z n0 h0) :
    Met l Z M9 jdk_52_method_16_code 6 (some (.array .byte)) ws (Rm 1 1 1 18) #[(.ref d), (.int (0 : Int32)), (.int (1 : Int32))] h0 (Q_rm_cmp11 Z d kd c0 h0 n0) := by
  refine met_of (plainFor_of_name pn_java_lang_StringUTF16) (own := "java/lang/StringUTF16") rfl (fun m => ef_rm_cmp11 m d (0 : Int32) (1 : Int32)) ?_
  intro p e s m below meth c s₁ hx hby hml hown hnm hZ X0 e0 hret hlk
  have N0 := Fr.nil n0
  have K0 := Keep.refl h0 []
  show Goes p e below s _ _ _ (s₁.setTop (mkF m 0 #[.val (.ref d), .val (.int (0 : Int32)), .val (.int (1 : Int32)), .unset, .unset, .unset] []))
  refine Goes.pre (U' := s₁.setTop (mkF m 1 #[.val (.ref d), .val (.int (0 : Int32)), .val (.int (1 : Int32)), .unset, .unset, .unset] [(.int (1 : Int32))])) (fun t k => XS.iloadN X0.here hx rfl (hb hby d9_0) rfl k) ?_
  obtain ⟨T1, h1, k1, X1, e1, E1, A1, B1, st1⟩ := newPE X0 hx hZ (wq hw 23 rfl) e0 (g := (mkF m 1 #[.val (.ref d), .val (.int (0 : Int32)), .val (.int (1 : Int32)), .unset, .unset, .unset] [(.int (1 : Int32))])) rfl (hb hby d9_1) rfl (by decide) (cap := 1) (by decide) (by decide) (by decide) (by decide) (ad := "[B") (by decide)
  obtain ⟨nb1, g1⟩ : ∃ z, z = h0.size := ⟨_, rfl⟩
  rw [← g1] at A1 B1 st1
  have ne_d_nb1 : d ≠ nb1 := Nat.ne_of_lt (Nat.lt_of_lt_of_le V_d.lt (Nat.le_of_eq g1.symm))
  have ne_nb1_d := ne_d_nb1.symm
  have g_nb1 : n0 ≤ nb1 := Nat.le_trans Z0 (Nat.le_of_eq g1.symm)
  have sz_nb1 : h0.size ≤ nb1 := Nat.le_trans K0.1 (Nat.le_of_eq g1.symm)
  have V_d := V_d.ext E1
  have O := O.ext E1
  have Z1 : n0 ≤ h1.size := Nat.le_trans Z0 E1.1
  have K1 := K0.ext E1
  have E_nb1 := B1
  have V_nb1 : Arv Z h1 nb1 k1 .byte (1 : Int32) [(.int (0 : Int32))] (.int (0 : Int32)) := (Arv.new A1 (by decide)).pad (pad_rep [] (.int (0 : Int32)) 1)
  refine Goes.pre (U' := T1.setTop (mkF m 9 #[.val (.ref d), .val (.int (0 : Int32)), .val (.int (1 : Int32)), .val (.ref nb1), .unset, .unset] [(.int (1 : Int32)), (.int (0 : Int32)), (.ref nb1), (.int (0 : Int32)), (.ref d)])) (fun t k => st1 t (XS.astoreN X1.here hx rfl (hb hby d9_3) rfl rfl (l' := #[.val (.ref d), .val (.int (0 : Int32)), .val (.int (1 : Int32)), .val (.ref nb1), .unset, .unset]) rfl (XS.aloadN X1.here hx rfl (hb hby d9_4) rfl rfl (XS.iloadN X1.here hx rfl (hb hby d9_5) rfl (XS.aloadN X1.here hx rfl (hb hby d9_6) rfl rfl (XS.iconst X1.here hx rfl (hb hby d9_7) (XS.iloadN X1.here hx rfl (hb hby d9_8) rfl k))))))) ?_
  obtain ⟨_, _, ⟨T2, L2, k2, n2⟩, -, X2, ⟨Lc2, hQ2, l2, y2, z2⟩, st2⟩ := Jvm.LawKit.callS X1 hx (y := (⟨"java/lang/StringUTF16", "compress", "([CI[BII)I"⟩ : MethodName)) hown (mvT hZ (wq hw 53 rfl)) (mvT hZ (wq hw 54 rfl)) (mvT hZ (wq hw 51 rfl)) (mvT hZ (wq hw 55 rfl)) (by decide) (backOf (W := 0) (rm_cmpI11 l Z a0 hw [] d kd c0 nb1 k1 h1 n0 Z1 V_d V_nb1 hle0 ne_d_nb1 g_nb1) hZ (wq hw 55 rfl) (wq hw 51 rfl) (by decide) (by decide)) (g := (mkF m 9 #[.val (.ref d), .val (.int (0 : Int32)), .val (.int (1 : Int32)), .val (.ref nb1), .unset, .unset] [(.int (1 : Int32)), (.int (0 : Int32)), (.ref nb1), (.int (0 : Int32)), (.ref d)])) rfl (by rw [hml]; rfl) (argsL := [(.ref d), (.int (0 : Int32)), (.ref nb1), (.int (0 : Int32)), (.int (1 : Int32))]) (rest := []) (lenOf pd__28_5bCI_5bBII_29I rfl) rfl (by show 2 * 0 + _ ≤ _; exact Nat.le_of_eq rfl) (hb hby d9_9) (fun _ _ => ⟨rfl, e1, (by decide : 1 + 0 ≤ _), (by decide : 1 + 0 ≤ _)⟩)
  dsimp only [Pt.U, Pt.locs, Pt.cells, Pt.slots] at X2 l2 y2 z2 st2 hQ2
  subst l2 y2 z2
  obtain ⟨rfl, N2q, KQ2, fo0_2⟩ := hQ2
  have N2 := Fr.app N0 N2q
  have V_d := V_d.keep KQ2 (ninS ne_d_nb1 nin0)
  have E_nb1 := E_nb1.keep KQ2
  have Z3 : n0 ≤ T2.heap.size := Nat.le_trans Z1 KQ2.1
  have O := O.keep KQ2 (allS (P := fun x => n0 ≤ x) g_nb1 all0)
  have K3 := K1.trans KQ2 (allS (P := fun x => x ∈ [] ∨ h0.size ≤ x) (Or.inr sz_nb1) all0)
  have V_nb1 := fo0_2
  refine Goes.pre (U' := T2.setTop (mkF m 17 #[.val (.ref d), .val (.int (0 : Int32)), .val (.int (1 : Int32)), .val (.ref nb1), .val (.int (1 : Int32)), .unset] [(.int (1 : Int32)), (.int (1 : Int32))])) (fun t k => st2 t (XS.istore X2.here hx rfl (hb hby d9_12) rfl (l' := #[.val (.ref d), .val (.int (0 : Int32)), .val (.int (1 : Int32)), .val (.ref nb1), .val (.int (1 : Int32)), .unset]) rfl (XS.iload X2.here hx rfl (hb hby d9_14) rfl (XS.iloadN X2.here hx rfl (hb hby d9_16) rfl k)))) ?_
  have hc17 : (1 : Int32) = (1 : Int32) := rfl
  refine Goes.pre (U' := T2.setTop (mkF m 58 #[.val (.ref d), .val (.int (0 : Int32)), .val (.int (1 : Int32)), .val (.ref nb1), .val (.int (1 : Int32)), .unset] [(.ref nb1)])) (fun t k => XS.icmpYes X2.here hx rfl (pc0 := 17) (pc' := 57) rfl (hb hby d9_17) rfl (teq hc17).1 (by decide) (by decide) (XS.aloadN X2.here hx rfl (hb hby d9_57) rfl rfl k)) ?_
  refine Goes.ret X2 (v := (some (.ref nb1))) (fun h => by rw [hret] at h; cases h) hlk (by decide) (by decide) rfl (fun fs hr => retOut X2 hx hret rfl (Or.inr (Or.inr (Or.inr (Or.inr ⟨rfl, rfl, rfl⟩)))) (hb hby d9_58) hr) ?_
  exact ⟨nb1, k1, rfl, N2, K3, V_nb1, g_nb1, sz_nb1⟩
theorem ef_rm_cfl10 (m : MethodId) (x0 : Addr) (x1 : Int32) : entryFrame m #[(.ref x0), (.int x1)] 2 = mkF m 0 #[.val (.ref x0), .val (.int x1)] [] := by first | (simp [entryFrame, mkF, argsToLocals, Value.category]; done) | rfl
abbrev M11 : MethodName := ⟨"java/lang/StringUTF16", "coderFromArrayLen", "([BI)B"⟩
theorem d11_0 : decode jdk_52_method_15_code 0 = .ok (.iload_n 1, 1) := by decide +kernel
theorem d11_1 : decode jdk_52_method_15_code 1 = .ok (.aload_n 0, 1) := by decide +kernel
theorem d11_2 : decode jdk_52_method_15_code 2 = .ok (.arraylength, 1) := by decide +kernel
theorem d11_3 : decode jdk_52_method_15_code 3 = .ok (.isub, 1) := by decide +kernel
theorem d11_4 : decode jdk_52_method_15_code 4 = .ok (.bipush 31, 2) := by decide +kernel
theorem d11_6 : decode jdk_52_method_15_code 6 = .ok (.iushr, 1) := by decide +kernel
theorem d11_7 : decode jdk_52_method_15_code 7 = .ok (.i2b, 1) := by decide +kernel
theorem d11_8 : decode jdk_52_method_15_code 8 = .ok (.ireturn, 1) := by decide +kernel
def Q_rm_cfl10 (Z : State) (b : Addr) (kb : ClassId) (c0 : Int32) (h0 : Heap) (n0 : Nat) (v : Option Value) (h : Heap) (L : List Loc) : Prop := v = some (.int (0 : Int32)) ∧ Fr n0 L ∧ h = h0
set_option maxRecDepth 65536 in
set_option maxHeartbeats 40000000 in
theorem rm_cfl10 (l : Launch) (Z : State) (a0 : Array Value) (hw : ∀ d ∈ tables_1, d.before a0 Z = true) (ws : List Jvm.Cond) (b : Addr) (kb : ClassId) (c0 : Int32) (h0 : Heap) (n0 : Nat) (Z0 : n0 ≤ h0.size) (V_b : Arv Z h0 b kb .byte (1 : Int32) [(.int c0.toInt8.toInt32)] (.int (0 : Int32))) :
    Met l Z M11 jdk_52_method_15_code 2 (some .byte) ws (Rm 0 0 0 0) #[(.ref b), (.int (1 : Int32))] h0 (Q_rm_cfl10 Z b kb c0 h0 n0) := by
  refine met_of (plainFor_of_name pn_java_lang_StringUTF16) (own := "java/lang/StringUTF16") rfl (fun m => ef_rm_cfl10 m b (1 : Int32)) ?_
  intro p e s m below meth c s₁ hx hby hml hown hnm hZ X0 e0 hret hlk
  have N0 := Fr.nil n0
  show Goes p e below s _ _ _ (s₁.setTop (mkF m 0 #[.val (.ref b), .val (.int (1 : Int32))] []))
  refine Goes.pre (U' := s₁.setTop (mkF m 2 #[.val (.ref b), .val (.int (1 : Int32))] [(.ref b), (.int (1 : Int32))])) (fun t k => XS.iloadN X0.here hx rfl (hb hby d11_0) rfl (XS.aloadN X0.here hx rfl (hb hby d11_1) rfl rfl k)) ?_
  obtain ⟨cl1, Ar1, q1, Sz1, Ng1, -, -⟩ := id V_b
  have ln1 := len_of Sz1 Ng1
  refine Goes.pre (U' := s₁.setTop (mkF m 4 #[.val (.ref b), .val (.int (1 : Int32))] [(.int ((1 : Int32) - (1 : Int32)))])) (fun t k => X0.arraylength hx (by rw [e0]; exact Ar1.1) (State.isArrayOf_alike hZ.alike Ar1.2.1) (g := (mkF m 2 #[.val (.ref b), .val (.int (1 : Int32))] [(.ref b), (.int (1 : Int32))])) rfl rfl (hb hby d11_2) _ (by rw [ln1]; exact (XS.isub X0.here hx rfl (hb hby d11_3) rfl k))) ?_
  rw [(by decide : ((1 : Int32) - (1 : Int32)) = (0 : Int32))]
  refine Goes.pre (U' := s₁.setTop (mkF m 7 #[.val (.ref b), .val (.int (1 : Int32))] [(.int (((0 : Int32).toUInt32 >>> ((31 : Int32) &&& 31).toUInt32).toInt32))])) (fun t k => XS.bipush X0.here hx rfl (hb hby d11_4) (XS.iushr X0.here hx rfl (hb hby d11_6) rfl k)) ?_
  rw [(by decide : (((0 : Int32).toUInt32 >>> ((31 : Int32) &&& 31).toUInt32).toInt32) = (0 : Int32))]
  refine Goes.pre (U' := s₁.setTop (mkF m 8 #[.val (.ref b), .val (.int (1 : Int32))] [(.int ((0 : Int32).toInt8.toInt32))])) (fun t k => XS.i2b X0.here hx rfl (hb hby d11_7) rfl k) ?_
  rw [(by decide : ((0 : Int32).toInt8.toInt32) = (0 : Int32))]
  refine Goes.ret X0 (v := (some (.int (0 : Int32)))) (fun h => by rw [hret] at h; cases h) hlk (by decide) (by decide) e0 (fun fs hr => retN X0 hx (t := .byte) hret (by simp) (hb hby d11_8) hr) ?_
  exact ⟨rfl, N0, rfl⟩
theorem ef_rm_cfl11 (m : MethodId) (x0 : Addr) (x1 : Int32) : entryFrame m #[(.ref x0), (.int x1)] 2 = mkF m 0 #[.val (.ref x0), .val (.int x1)] [] := by first | (simp [entryFrame, mkF, argsToLocals, Value.category]; done) | rfl
def Q_rm_cfl11 (Z : State) (b : Addr) (kb : ClassId) (c0 : Int32) (h0 : Heap) (n0 : Nat) (v : Option Value) (h : Heap) (L : List Loc) : Prop := v = some (.int (1 : Int32)) ∧ Fr n0 L ∧ h = h0
set_option maxRecDepth 65536 in
set_option maxHeartbeats 40000000 in
theorem rm_cfl11 (l : Launch) (Z : State) (a0 : Array Value) (hw : ∀ d ∈ tables_1, d.before a0 Z = true) (ws : List Jvm.Cond) (b : Addr) (kb : ClassId) (c0 : Int32) (h0 : Heap) (n0 : Nat) (Z0 : n0 ≤ h0.size) (V_b : Arv Z h0 b kb .byte (2 : Int32) [(.int (c0 >>> ((0 : Int32) &&& 31)).toInt8.toInt32), (.int (c0 >>> ((8 : Int32) &&& 31)).toInt8.toInt32)] (.int (0 : Int32))) :
    Met l Z M11 jdk_52_method_15_code 2 (some .byte) ws (Rm 0 0 0 0) #[(.ref b), (.int (1 : Int32))] h0 (Q_rm_cfl11 Z b kb c0 h0 n0) := by
  refine met_of (plainFor_of_name pn_java_lang_StringUTF16) (own := "java/lang/StringUTF16") rfl (fun m => ef_rm_cfl11 m b (1 : Int32)) ?_
  intro p e s m below meth c s₁ hx hby hml hown hnm hZ X0 e0 hret hlk
  have N0 := Fr.nil n0
  show Goes p e below s _ _ _ (s₁.setTop (mkF m 0 #[.val (.ref b), .val (.int (1 : Int32))] []))
  refine Goes.pre (U' := s₁.setTop (mkF m 2 #[.val (.ref b), .val (.int (1 : Int32))] [(.ref b), (.int (1 : Int32))])) (fun t k => XS.iloadN X0.here hx rfl (hb hby d11_0) rfl (XS.aloadN X0.here hx rfl (hb hby d11_1) rfl rfl k)) ?_
  obtain ⟨cl1, Ar1, q1, Sz1, Ng1, -, -⟩ := id V_b
  have ln1 := len_of Sz1 Ng1
  refine Goes.pre (U' := s₁.setTop (mkF m 4 #[.val (.ref b), .val (.int (1 : Int32))] [(.int ((1 : Int32) - (2 : Int32)))])) (fun t k => X0.arraylength hx (by rw [e0]; exact Ar1.1) (State.isArrayOf_alike hZ.alike Ar1.2.1) (g := (mkF m 2 #[.val (.ref b), .val (.int (1 : Int32))] [(.ref b), (.int (1 : Int32))])) rfl rfl (hb hby d11_2) _ (by rw [ln1]; exact (XS.isub X0.here hx rfl (hb hby d11_3) rfl k))) ?_
  rw [(by decide : ((1 : Int32) - (2 : Int32)) = (-1 : Int32))]
  refine Goes.pre (U' := s₁.setTop (mkF m 7 #[.val (.ref b), .val (.int (1 : Int32))] [(.int (((-1 : Int32).toUInt32 >>> ((31 : Int32) &&& 31).toUInt32).toInt32))])) (fun t k => XS.bipush X0.here hx rfl (hb hby d11_4) (XS.iushr X0.here hx rfl (hb hby d11_6) rfl k)) ?_
  rw [(by decide : (((-1 : Int32).toUInt32 >>> ((31 : Int32) &&& 31).toUInt32).toInt32) = (1 : Int32))]
  refine Goes.pre (U' := s₁.setTop (mkF m 8 #[.val (.ref b), .val (.int (1 : Int32))] [(.int ((1 : Int32).toInt8.toInt32))])) (fun t k => XS.i2b X0.here hx rfl (hb hby d11_7) rfl k) ?_
  rw [(by decide : ((1 : Int32).toInt8.toInt32) = (1 : Int32))]
  refine Goes.ret X0 (v := (some (.int (1 : Int32)))) (fun h => by rw [hret] at h; cases h) hlk (by decide) (by decide) e0 (fun fs hr => retN X0 hx (t := .byte) hret (by simp) (hb hby d11_8) hr) ?_
  exact ⟨rfl, N0, rfl⟩
theorem ef_rm_init4_1 (m : MethodId) (x0 : Addr) (x1 : Addr) (x2 : Int32) (x3 : Int32) : entryFrame m #[(.ref x0), (.ref x1), (.int x2), (.int x3), .null] 6 = mkF m 0 #[.val (.ref x0), .val (.ref x1), .val (.int x2), .val (.int x3), .val .null, .unset] [] := by first | (simp [entryFrame, mkF, argsToLocals, Value.category]; done) | rfl
abbrev M4 : MethodName := ⟨"java/lang/String", "<init>", "([CIILjava/lang/Void;)V"⟩
theorem d4_0 : decode jdk_42_method_149_code 0 = .ok (.aload_n 0, 1) := by decide +kernel
theorem d4_1 : decode jdk_42_method_149_code 1 = .ok (.invokespecial 1, 3) := by decide +kernel
theorem d4_4 : decode jdk_42_method_149_code 4 = .ok (.iload_n 3, 1) := by decide +kernel
theorem d4_5 : decode jdk_42_method_149_code 5 = .ok (.ifCond .ne 22, 3) := by decide +kernel
theorem d4_27 : decode jdk_42_method_149_code 27 = .ok (.getstatic 38, 3) := by decide +kernel
theorem d4_30 : decode jdk_42_method_149_code 30 = .ok (.ifCond .eq 28, 3) := by decide +kernel
theorem d4_33 : decode jdk_42_method_149_code 33 = .ok (.aload_n 1, 1) := by decide +kernel
theorem d4_34 : decode jdk_42_method_149_code 34 = .ok (.iload_n 2, 1) := by decide +kernel
theorem d4_35 : decode jdk_42_method_149_code 35 = .ok (.iload_n 3, 1) := by decide +kernel
theorem d4_36 : decode jdk_42_method_149_code 36 = .ok (.invokestatic 177, 3) := by decide +kernel
theorem d4_39 : decode jdk_42_method_149_code 39 = .ok (.astore 5, 2) := by decide +kernel
theorem d4_41 : decode jdk_42_method_149_code 41 = .ok (.aload_n 0, 1) := by decide +kernel
theorem d4_42 : decode jdk_42_method_149_code 42 = .ok (.aload 5, 2) := by decide +kernel
theorem d4_44 : decode jdk_42_method_149_code 44 = .ok (.iload_n 3, 1) := by decide +kernel
theorem d4_45 : decode jdk_42_method_149_code 45 = .ok (.invokestatic 47, 3) := by decide +kernel
theorem pd__28_5bBI_29B : parseMethodDescriptor "([BI)B" = some ⟨[(.array .byte), .int], some .byte⟩ := by decide +kernel
theorem d4_48 : decode jdk_42_method_149_code 48 = .ok (.putfield 15, 3) := by decide +kernel
theorem d4_51 : decode jdk_42_method_149_code 51 = .ok (.aload_n 0, 1) := by decide +kernel
theorem d4_52 : decode jdk_42_method_149_code 52 = .ok (.aload 5, 2) := by decide +kernel
theorem d4_54 : decode jdk_42_method_149_code 54 = .ok (.putfield 9, 3) := by decide +kernel
theorem d4_57 : decode jdk_42_method_149_code 57 = .ok (.return_, 1) := by decide +kernel
def Q_rm_init4_1 (Z : State) (a : Addr) (d : Addr) (kd : ClassId) (c0 : Int32) (cs : Int32) (h0 : Heap) (n0 : Nat) (v : Option Value) (h : Heap) (L : List Loc) : Prop := ∃ (b : Addr) (kb : ClassId), v = none ∧ Fr n0 L ∧ Keep h0 h [a] ∧ OwnStr Z h a b kb [c0] ∧ n0 ≤ b ∧ h0.size ≤ b
set_option maxRecDepth 65536 in
set_option maxHeartbeats 40000000 in
theorem rm_init4_1 (l : Launch) (Z : State) (a0 : Array Value) (hw : ∀ d ∈ tables_1, d.before a0 Z = true) (ws : List Jvm.Cond) (a : Addr) (d : Addr) (kd : ClassId) (c0 : Int32) (cs : Int32) (h0 : Heap) (n0 : Nat) (Z0 : n0 ≤ h0.size) (E_a : Exa Z h0 a "java/lang/String") (F_value_a : Fld Z h0 a "java/lang/String" "value" "[B" .null) (F_coder_a : Fld Z h0 a "java/lang/String" "coder" "B" (.int (0 : Int32))) (V_d : Arv Z h0 d kd .char (1 : Int32) [(.int c0)] (.int (0 : Int32))) (S_COMPACT_STRINGS : Sta Z Z.heap "java/lang/String" "COMPACT_STRINGS" "Z" (.int cs)) (S__assertionsDisabled : Sta Z Z.heap "java/lang/StringUTF16" "$assertionsDisabled" "Z" (.int (1 : Int32))) (S_HI_BYTE_SHIFT : Sta Z Z.heap "java/lang/StringUTF16" "HI_BYTE_SHIFT" "I" (.int (0 : Int32))) (S_LO_BYTE_SHIFT : Sta Z Z.heap "java/lang/StringUTF16" "LO_BYTE_SHIFT" "I" (.int (8 : Int32))) (hch0 : OwnCh c0) (hcs : ¬ (cs = (0 : Int32))) (ne_d_a : d ≠ a) (g_a : n0 ≤ a) (O : Old Z n0 h0) :
    Met l Z M4 jdk_42_method_149_code 6 none ws (Rm 4 2 3 57) #[(.ref a), (.ref d), (.int (0 : Int32)), (.int (1 : Int32)), .null] h0 (Q_rm_init4_1 Z a d kd c0 cs h0 n0) := by
  refine met_of (plainFor_of_name pn_java_lang_String) (own := "java/lang/String") rfl (fun m => ef_rm_init4_1 m a d (0 : Int32) (1 : Int32)) ?_
  intro p e s m below meth c s₁ hx hby hml hown hnm hZ X0 e0 hret hlk
  have N0 := Fr.nil n0
  have K0 := Keep.refl h0 [a]
  show Goes p e below s _ _ _ (s₁.setTop (mkF m 0 #[.val (.ref a), .val (.ref d), .val (.int (0 : Int32)), .val (.int (1 : Int32)), .val .null, .unset] []))
  refine Goes.pre (U' := s₁.setTop (mkF m 1 #[.val (.ref a), .val (.ref d), .val (.int (0 : Int32)), .val (.int (1 : Int32)), .val .null, .unset] [(.ref a)])) (fun t k => XS.aloadN X0.here hx rfl (hb hby d4_0) rfl rfl k) ?_
  obtain ⟨T1, X1, e1, st1⟩ := initO X0 hx hZ hown (wq hw 19 rfl) (wq hw 20 rfl) (wq hw 21 rfl) e0 (g := (mkF m 1 #[.val (.ref a), .val (.ref d), .val (.int (0 : Int32)), .val (.int (1 : Int32)), .val .null, .unset] [(.ref a)])) rfl (by rw [hml]; rfl) rfl (hb hby d4_1) (by decide) (W := 0) (by show 2 * 0 + _ ≤ _; exact Nat.le_of_eq rfl) (by decide)
  refine Goes.pre (U' := T1.setTop (mkF m 5 #[.val (.ref a), .val (.ref d), .val (.int (0 : Int32)), .val (.int (1 : Int32)), .val .null, .unset] [(.int (1 : Int32))])) (fun t k => st1 t (XS.iloadN X1.here hx rfl (hb hby d4_4) rfl k)) ?_
  have hc5 : ¬ ((1 : Int32) = (0 : Int32)) := by decide
  refine Goes.pre (U' := T1.setTop (mkF m 27 #[.val (.ref a), .val (.ref d), .val (.int (0 : Int32)), .val (.int (1 : Int32)), .val .null, .unset] [])) (fun t k => XS.ifYes X1.here hx rfl (pc0 := 5) (pc' := 27) rfl (hb hby d4_5) rfl ((if0 _ _).trans (feq hc5).2) (by decide) (by decide) k) ?_
  obtain ⟨T2, X2, e2, st2⟩ := getS2 X1 hx hZ hown (host := "") (Or.inl (wq hw 48 rfl)) Via.refl e1 (S_COMPACT_STRINGS.ext O.2) (g := (mkF m 27 #[.val (.ref a), .val (.ref d), .val (.int (0 : Int32)), .val (.int (1 : Int32)), .val .null, .unset] [])) rfl (hb hby d4_27)
  refine Goes.pre (U' := T2.setTop (mkF m 30 #[.val (.ref a), .val (.ref d), .val (.int (0 : Int32)), .val (.int (1 : Int32)), .val .null, .unset] [(.int cs)])) (fun t k => st2 t k) ?_
  have hc30 : ¬ (cs = (0 : Int32)) := hcs
  refine Goes.pre (U' := T2.setTop (mkF m 33 #[.val (.ref a), .val (.ref d), .val (.int (0 : Int32)), .val (.int (1 : Int32)), .val .null, .unset] [])) (fun t k => XS.ifNo X2.here hx rfl (hb hby d4_30) rfl ((if0 _ _).trans (feq hc30).1) k) ?_
  by_cases hgt : (255 : Int32) < c0
  ·
    refine Goes.pre (U' := T2.setTop (mkF m 36 #[.val (.ref a), .val (.ref d), .val (.int (0 : Int32)), .val (.int (1 : Int32)), .val .null, .unset] [(.int (1 : Int32)), (.int (0 : Int32)), (.ref d)])) (fun t k => XS.aloadN X2.here hx rfl (hb hby d4_33) rfl rfl (XS.iloadN X2.here hx rfl (hb hby d4_34) rfl (XS.iloadN X2.here hx rfl (hb hby d4_35) rfl k))) ?_
    have lt_a := E_a.lt
    have lt_d := V_d.lt
    obtain ⟨_, _, ⟨T3, L3, k3, n3⟩, -, X3, ⟨Lc3, hQ3, l3, y3, z3⟩, st3⟩ := Jvm.LawKit.callS X2 hx (y := (⟨"java/lang/StringUTF16", "compress", "([CII)[B"⟩ : MethodName)) hown (mvT hZ (wq hw 49 rfl)) (mvT hZ (wq hw 50 rfl)) (mvT hZ (wq hw 51 rfl)) (mvT hZ (wq hw 52 rfl)) (by decide) (backOf (W := 0) (rm_cmp10 l Z a0 hw [] d kd c0 h0 n0 Z0 V_d S__assertionsDisabled S_HI_BYTE_SHIFT S_LO_BYTE_SHIFT hgt hch0 O) hZ (wq hw 52 rfl) (wq hw 51 rfl) (by decide) (by decide)) (g := (mkF m 36 #[.val (.ref a), .val (.ref d), .val (.int (0 : Int32)), .val (.int (1 : Int32)), .val .null, .unset] [(.int (1 : Int32)), (.int (0 : Int32)), (.ref d)])) rfl (by rw [hml]; rfl) (argsL := [(.ref d), (.int (0 : Int32)), (.int (1 : Int32))]) (rest := []) (lenOf pd__28_5bCII_29_5bB rfl) rfl (by show 2 * 0 + _ ≤ _; exact Nat.le_of_eq rfl) (hb hby d4_36) (fun _ _ => ⟨rfl, e2, (by decide : 0 + 2 ≤ _), (by decide : 0 + 3 ≤ _)⟩)
    dsimp only [Pt.U, Pt.locs, Pt.cells, Pt.slots] at X3 l3 y3 z3 st3 hQ3
    subst l3 y3 z3
    obtain ⟨r3, kr3, rfl, N3q, KQ3, fo0_3, g_r3, sl_r3⟩ := hQ3
    have N3 := Fr.app N0 N3q
    have E_a := E_a.keep KQ3
    have F_value_a := F_value_a.keep KQ3 nin0
    have F_coder_a := F_coder_a.keep KQ3 nin0
    have V_d := V_d.keep KQ3 nin0
    have Z4 : n0 ≤ T3.heap.size := Nat.le_trans Z0 KQ3.1
    have O := O.keep KQ3 all0
    have K4 := K0.trans KQ3 all0
    have ne_a_r3 : a ≠ r3 := Nat.ne_of_lt (Nat.lt_of_lt_of_le lt_a sl_r3)
    have ne_r3_a := ne_a_r3.symm
    have ne_d_r3 : d ≠ r3 := Nat.ne_of_lt (Nat.lt_of_lt_of_le lt_d sl_r3)
    have ne_r3_d := ne_d_r3.symm
    have sz_r3 : h0.size ≤ r3 := Nat.le_trans K0.1 sl_r3
    have V_r3 := fo0_3
    refine Goes.pre (U' := T3.setTop (mkF m 45 #[.val (.ref a), .val (.ref d), .val (.int (0 : Int32)), .val (.int (1 : Int32)), .val .null, .val (.ref r3)] [(.int (1 : Int32)), (.ref r3), (.ref a)])) (fun t k => st3 t (XS.astore X3.here hx rfl (hb hby d4_39) rfl rfl (l' := #[.val (.ref a), .val (.ref d), .val (.int (0 : Int32)), .val (.int (1 : Int32)), .val .null, .val (.ref r3)]) rfl (XS.aloadN X3.here hx rfl (hb hby d4_41) rfl rfl (XS.aload X3.here hx rfl (hb hby d4_42) rfl rfl (XS.iloadN X3.here hx rfl (hb hby d4_44) rfl k))))) ?_
    obtain ⟨_, _, ⟨T5, L5, k5, n5⟩, -, X5, ⟨Lc5, hQ5, l5, y5, z5⟩, st5⟩ := Jvm.LawKit.callS X3 hx (y := (⟨"java/lang/StringUTF16", "coderFromArrayLen", "([BI)B"⟩ : MethodName)) hown (mvT hZ (wq hw 56 rfl)) (mvT hZ (wq hw 57 rfl)) (mvT hZ (wq hw 51 rfl)) (mvT hZ (wq hw 58 rfl)) (by decide) (backOf (W := 1) (rm_cfl11 l Z a0 hw [] r3 kr3 c0 T3.heap n0 Z4 V_r3) hZ (wq hw 58 rfl) (wq hw 51 rfl) (by decide) (by decide)) (g := (mkF m 45 #[.val (.ref a), .val (.ref d), .val (.int (0 : Int32)), .val (.int (1 : Int32)), .val .null, .val (.ref r3)] [(.int (1 : Int32)), (.ref r3), (.ref a)])) rfl (by rw [hml]; rfl) (argsL := [(.ref r3), (.int (1 : Int32))]) (rest := [(.ref a)]) (lenOf pd__28_5bBI_29B rfl) rfl (by show 2 * 0 + _ ≤ _; exact Nat.le_of_eq rfl) (hb hby d4_45) (fun _ _ => ⟨rfl, rfl, (by decide : 2 + 0 ≤ _), (by decide : 3 + 0 ≤ _)⟩)
    dsimp only [Pt.U, Pt.locs, Pt.cells, Pt.slots] at X5 l5 y5 z5 st5 hQ5
    subst l5 y5 z5
    obtain ⟨rfl, N5q, HQ5⟩ := hQ5
    have N5 := Fr.app N3 N5q
    refine Goes.pre (U' := T5.setTop (mkF m 48 #[.val (.ref a), .val (.ref d), .val (.int (0 : Int32)), .val (.int (1 : Int32)), .val .null, .val (.ref r3)] [(.int (1 : Int32)), (.ref a)])) (fun t k => st5 t k) ?_
    obtain ⟨T6, h6, X6, e6, W6, st6⟩ := putFN X5 hx hZ hown (wq hw 29 rfl) Via.refl HQ5 F_coder_a E_a (Or.inr ⟨(wq hw 25 rfl), rfl, hnm⟩) (wq hw 9 rfl) (ty := .byte) (v' := (.int (1 : Int32))) (by decide) rfl (by decide) (g := (mkF m 48 #[.val (.ref a), .val (.ref d), .val (.int (0 : Int32)), .val (.int (1 : Int32)), .val .null, .val (.ref r3)] [(.int (1 : Int32)), (.ref a)])) rfl rfl (hb hby d4_48)
    have E_a := E_a.wr W6
    have F_value_a := F_value_a.other W6 (Or.inr (slot_ne (Or.inr (wq hw 24 rfl)) (Or.inr (wq hw 25 rfl)) (by decide) (t := (.array .byte)) (t' := .byte) (by decide) (by decide)))
    have V_d := V_d.other W6 ne_d_a
    have V_r3 := V_r3.other W6 ne_r3_a
    have Z6 : n0 ≤ h6.size := Nat.le_trans Z4 (Keep.of_wr W6).1
    have O := O.wr W6 g_a
    have F_coder_a := F_coder_a.same W6
    have K6 := K4.wr W6 (Or.inl (List.mem_of_getElem? (i := 0) rfl))
    have N6 := Fr.snoc X6 N5 g_a
    refine Goes.pre (U' := T6.setTop (mkF m 54 #[.val (.ref a), .val (.ref d), .val (.int (0 : Int32)), .val (.int (1 : Int32)), .val .null, .val (.ref r3)] [(.ref r3), (.ref a)])) (fun t k => st6 t (XS.aloadN X6.here hx rfl (hb hby d4_51) rfl rfl (XS.aload X6.here hx rfl (hb hby d4_52) rfl rfl k))) ?_
    obtain ⟨T7, h7, X7, e7, W7, st7⟩ := putF X6 hx hZ hown (host := "") (Or.inl (wq hw 28 rfl)) Via.refl e6 F_value_a E_a (Or.inr ⟨(wq hw 24 rfl), rfl, hnm⟩) (wq hw 9 rfl) (ty := (.array .byte)) (by decide) rfl rfl (g := (mkF m 54 #[.val (.ref a), .val (.ref d), .val (.int (0 : Int32)), .val (.int (1 : Int32)), .val .null, .val (.ref r3)] [(.ref r3), (.ref a)])) rfl rfl (hb hby d4_54)
    have E_a := E_a.wr W7
    have F_coder_a := F_coder_a.other W7 (Or.inr (slot_ne (Or.inr (wq hw 25 rfl)) (Or.inr (wq hw 24 rfl)) (by decide) (t := .byte) (t' := (.array .byte)) (by decide) (by decide)))
    have V_d := V_d.other W7 ne_d_a
    have V_r3 := V_r3.other W7 ne_r3_a
    have Z7 : n0 ≤ h7.size := Nat.le_trans Z6 (Keep.of_wr W7).1
    have O := O.wr W7 g_a
    have F_value_a := F_value_a.same W7
    have K7 := K6.wr W7 (Or.inl (List.mem_of_getElem? (i := 0) rfl))
    have N7 := Fr.snoc X7 N6 g_a
    refine Goes.pre (U' := T7.setTop (mkF m 57 #[.val (.ref a), .val (.ref d), .val (.int (0 : Int32)), .val (.int (1 : Int32)), .val .null, .val (.ref r3)] [])) (fun t k => st7 t k) ?_
    refine Goes.ret X7 (v := none) (fun _ => rfl) hlk (by decide) (by decide) e7 (fun fs hr => X7.returnOut hx hret (hb hby d4_57) hr) ?_
    exact ⟨r3, kr3, rfl, N7, K7, ⟨E_a, F_value_a, (by intro c hc; simp only [List.mem_cons, List.not_mem_nil, or_false] at hc; rcases hc with rfl <;> assumption), Or.inr ⟨F_coder_a, V_r3, c0, List.mem_of_getElem? (i := 0) rfl, hgt⟩⟩, g_r3, sz_r3⟩
  ·
    have hle0 := hgt
    refine Goes.pre (U' := T2.setTop (mkF m 36 #[.val (.ref a), .val (.ref d), .val (.int (0 : Int32)), .val (.int (1 : Int32)), .val .null, .unset] [(.int (1 : Int32)), (.int (0 : Int32)), (.ref d)])) (fun t k => XS.aloadN X2.here hx rfl (hb hby d4_33) rfl rfl (XS.iloadN X2.here hx rfl (hb hby d4_34) rfl (XS.iloadN X2.here hx rfl (hb hby d4_35) rfl k))) ?_
    have lt_a := E_a.lt
    have lt_d := V_d.lt
    obtain ⟨_, _, ⟨T8, L8, k8, n8⟩, -, X8, ⟨Lc8, hQ8, l8, y8, z8⟩, st8⟩ := Jvm.LawKit.callS X2 hx (y := (⟨"java/lang/StringUTF16", "compress", "([CII)[B"⟩ : MethodName)) hown (mvT hZ (wq hw 49 rfl)) (mvT hZ (wq hw 50 rfl)) (mvT hZ (wq hw 51 rfl)) (mvT hZ (wq hw 52 rfl)) (by decide) (backOf (W := 0) (rm_cmp11 l Z a0 hw [] d kd c0 h0 n0 Z0 V_d S__assertionsDisabled S_HI_BYTE_SHIFT S_LO_BYTE_SHIFT hle0 O) hZ (wq hw 52 rfl) (wq hw 51 rfl) (by decide) (by decide)) (g := (mkF m 36 #[.val (.ref a), .val (.ref d), .val (.int (0 : Int32)), .val (.int (1 : Int32)), .val .null, .unset] [(.int (1 : Int32)), (.int (0 : Int32)), (.ref d)])) rfl (by rw [hml]; rfl) (argsL := [(.ref d), (.int (0 : Int32)), (.int (1 : Int32))]) (rest := []) (lenOf pd__28_5bCII_29_5bB rfl) rfl (by show 2 * 0 + _ ≤ _; exact Nat.le_of_eq rfl) (hb hby d4_36) (fun _ _ => ⟨rfl, e2, (by decide : 0 + 1 ≤ _), (by decide : 0 + 1 ≤ _)⟩)
    dsimp only [Pt.U, Pt.locs, Pt.cells, Pt.slots] at X8 l8 y8 z8 st8 hQ8
    subst l8 y8 z8
    obtain ⟨r8, kr8, rfl, N8q, KQ8, fo0_8, g_r8, sl_r8⟩ := hQ8
    have N8 := Fr.app N0 N8q
    have E_a := E_a.keep KQ8
    have F_value_a := F_value_a.keep KQ8 nin0
    have F_coder_a := F_coder_a.keep KQ8 nin0
    have V_d := V_d.keep KQ8 nin0
    have Z9 : n0 ≤ T8.heap.size := Nat.le_trans Z0 KQ8.1
    have O := O.keep KQ8 all0
    have K9 := K0.trans KQ8 all0
    have ne_a_r8 : a ≠ r8 := Nat.ne_of_lt (Nat.lt_of_lt_of_le lt_a sl_r8)
    have ne_r8_a := ne_a_r8.symm
    have ne_d_r8 : d ≠ r8 := Nat.ne_of_lt (Nat.lt_of_lt_of_le lt_d sl_r8)
    have ne_r8_d := ne_d_r8.symm
    have sz_r8 : h0.size ≤ r8 := Nat.le_trans K0.1 sl_r8
    have V_r8 := fo0_8
    refine Goes.pre (U' := T8.setTop (mkF m 45 #[.val (.ref a), .val (.ref d), .val (.int (0 : Int32)), .val (.int (1 : Int32)), .val .null, .val (.ref r8)] [(.int (1 : Int32)), (.ref r8), (.ref a)])) (fun t k => st8 t (XS.astore X8.here hx rfl (hb hby d4_39) rfl rfl (l' := #[.val (.ref a), .val (.ref d), .val (.int (0 : Int32)), .val (.int (1 : Int32)), .val .null, .val (.ref r8)]) rfl (XS.aloadN X8.here hx rfl (hb hby d4_41) rfl rfl (XS.aload X8.here hx rfl (hb hby d4_42) rfl rfl (XS.iloadN X8.here hx rfl (hb hby d4_44) rfl k))))) ?_
    obtain ⟨_, _, ⟨T10, L10, k10, n10⟩, -, X10, ⟨Lc10, hQ10, l10, y10, z10⟩, st10⟩ := Jvm.LawKit.callS X8 hx (y := (⟨"java/lang/StringUTF16", "coderFromArrayLen", "([BI)B"⟩ : MethodName)) hown (mvT hZ (wq hw 56 rfl)) (mvT hZ (wq hw 57 rfl)) (mvT hZ (wq hw 51 rfl)) (mvT hZ (wq hw 58 rfl)) (by decide) (backOf (W := 1) (rm_cfl10 l Z a0 hw [] r8 kr8 c0 T8.heap n0 Z9 V_r8) hZ (wq hw 58 rfl) (wq hw 51 rfl) (by decide) (by decide)) (g := (mkF m 45 #[.val (.ref a), .val (.ref d), .val (.int (0 : Int32)), .val (.int (1 : Int32)), .val .null, .val (.ref r8)] [(.int (1 : Int32)), (.ref r8), (.ref a)])) rfl (by rw [hml]; rfl) (argsL := [(.ref r8), (.int (1 : Int32))]) (rest := [(.ref a)]) (lenOf pd__28_5bBI_29B rfl) rfl (by show 2 * 0 + _ ≤ _; exact Nat.le_of_eq rfl) (hb hby d4_45) (fun _ _ => ⟨rfl, rfl, (by decide : 1 + 0 ≤ _), (by decide : 1 + 0 ≤ _)⟩)
    dsimp only [Pt.U, Pt.locs, Pt.cells, Pt.slots] at X10 l10 y10 z10 st10 hQ10
    subst l10 y10 z10
    obtain ⟨rfl, N10q, HQ10⟩ := hQ10
    have N10 := Fr.app N8 N10q
    refine Goes.pre (U' := T10.setTop (mkF m 48 #[.val (.ref a), .val (.ref d), .val (.int (0 : Int32)), .val (.int (1 : Int32)), .val .null, .val (.ref r8)] [(.int (0 : Int32)), (.ref a)])) (fun t k => st10 t k) ?_
    obtain ⟨T11, h11, X11, e11, W11, st11⟩ := putFN X10 hx hZ hown (wq hw 29 rfl) Via.refl HQ10 F_coder_a E_a (Or.inr ⟨(wq hw 25 rfl), rfl, hnm⟩) (wq hw 9 rfl) (ty := .byte) (v' := (.int (0 : Int32))) (by decide) rfl (by decide) (g := (mkF m 48 #[.val (.ref a), .val (.ref d), .val (.int (0 : Int32)), .val (.int (1 : Int32)), .val .null, .val (.ref r8)] [(.int (0 : Int32)), (.ref a)])) rfl rfl (hb hby d4_48)
    have E_a := E_a.wr W11
    have F_value_a := F_value_a.other W11 (Or.inr (slot_ne (Or.inr (wq hw 24 rfl)) (Or.inr (wq hw 25 rfl)) (by decide) (t := (.array .byte)) (t' := .byte) (by decide) (by decide)))
    have V_d := V_d.other W11 ne_d_a
    have V_r8 := V_r8.other W11 ne_r8_a
    have Z11 : n0 ≤ h11.size := Nat.le_trans Z9 (Keep.of_wr W11).1
    have O := O.wr W11 g_a
    have F_coder_a := F_coder_a.same W11
    have K11 := K9.wr W11 (Or.inl (List.mem_of_getElem? (i := 0) rfl))
    have N11 := Fr.snoc X11 N10 g_a
    refine Goes.pre (U' := T11.setTop (mkF m 54 #[.val (.ref a), .val (.ref d), .val (.int (0 : Int32)), .val (.int (1 : Int32)), .val .null, .val (.ref r8)] [(.ref r8), (.ref a)])) (fun t k => st11 t (XS.aloadN X11.here hx rfl (hb hby d4_51) rfl rfl (XS.aload X11.here hx rfl (hb hby d4_52) rfl rfl k))) ?_
    obtain ⟨T12, h12, X12, e12, W12, st12⟩ := putF X11 hx hZ hown (host := "") (Or.inl (wq hw 28 rfl)) Via.refl e11 F_value_a E_a (Or.inr ⟨(wq hw 24 rfl), rfl, hnm⟩) (wq hw 9 rfl) (ty := (.array .byte)) (by decide) rfl rfl (g := (mkF m 54 #[.val (.ref a), .val (.ref d), .val (.int (0 : Int32)), .val (.int (1 : Int32)), .val .null, .val (.ref r8)] [(.ref r8), (.ref a)])) rfl rfl (hb hby d4_54)
    have E_a := E_a.wr W12
    have F_coder_a := F_coder_a.other W12 (Or.inr (slot_ne (Or.inr (wq hw 25 rfl)) (Or.inr (wq hw 24 rfl)) (by decide) (t := .byte) (t' := (.array .byte)) (by decide) (by decide)))
    have V_d := V_d.other W12 ne_d_a
    have V_r8 := V_r8.other W12 ne_r8_a
    have Z12 : n0 ≤ h12.size := Nat.le_trans Z11 (Keep.of_wr W12).1
    have O := O.wr W12 g_a
    have F_value_a := F_value_a.same W12
    have K12 := K11.wr W12 (Or.inl (List.mem_of_getElem? (i := 0) rfl))
    have N12 := Fr.snoc X12 N11 g_a
    refine Goes.pre (U' := T12.setTop (mkF m 57 #[.val (.ref a), .val (.ref d), .val (.int (0 : Int32)), .val (.int (1 : Int32)), .val .null, .val (.ref r8)] [])) (fun t k => st12 t k) ?_
    refine Goes.ret X12 (v := none) (fun _ => rfl) hlk (by decide) (by decide) e12 (fun fs hr => X12.returnOut hx hret (hb hby d4_57) hr) ?_
    exact ⟨r8, kr8, rfl, N12, K12, ⟨E_a, F_value_a, (by intro c hc; simp only [List.mem_cons, List.not_mem_nil, or_false] at hc; rcases hc with rfl <;> assumption), Or.inl ⟨F_coder_a, V_r8, (by intro c hc; simp only [List.mem_cons, List.not_mem_nil, or_false] at hc; rcases hc with rfl <;> assumption)⟩⟩, g_r8, sz_r8⟩
theorem ef_rm_init1_1 (m : MethodId) (x0 : Addr) (x1 : Addr) : entryFrame m #[(.ref x0), (.ref x1)] 2 = mkF m 0 #[.val (.ref x0), .val (.ref x1)] [] := by first | (simp [entryFrame, mkF, argsToLocals, Value.category]; done) | rfl
abbrev M3 : MethodName := ⟨"java/lang/String", "<init>", "([C)V"⟩
theorem d3_0 : decode jdk_42_method_3_code 0 = .ok (.aload_n 0, 1) := by decide +kernel
theorem d3_1 : decode jdk_42_method_3_code 1 = .ok (.aload_n 1, 1) := by decide +kernel
theorem d3_2 : decode jdk_42_method_3_code 2 = .ok (.iconst 0, 1) := by decide +kernel
theorem d3_3 : decode jdk_42_method_3_code 3 = .ok (.aload_n 1, 1) := by decide +kernel
theorem d3_4 : decode jdk_42_method_3_code 4 = .ok (.arraylength, 1) := by decide +kernel
theorem d3_5 : decode jdk_42_method_3_code 5 = .ok (.aconst_null, 1) := by decide +kernel
theorem d3_6 : decode jdk_42_method_3_code 6 = .ok (.invokespecial 27, 3) := by decide +kernel
theorem pd__28_5bCIILjava_2flang_2fVoid_3b_29V : parseMethodDescriptor "([CIILjava/lang/Void;)V" = some ⟨[(.array .char), .int, .int, (.object "java/lang/Void")], none⟩ := by decide +kernel
theorem d3_9 : decode jdk_42_method_3_code 9 = .ok (.return_, 1) := by decide +kernel
def Q_rm_init1_1 (Z : State) (a : Addr) (d : Addr) (kd : ClassId) (c0 : Int32) (cs : Int32) (h0 : Heap) (n0 : Nat) (v : Option Value) (h : Heap) (L : List Loc) : Prop := ∃ (b : Addr) (kb : ClassId), v = none ∧ Fr n0 L ∧ Keep h0 h [a] ∧ OwnStr Z h a b kb [c0] ∧ n0 ≤ b ∧ h0.size ≤ b
set_option maxRecDepth 65536 in
set_option maxHeartbeats 40000000 in
theorem rm_init1_1 (l : Launch) (Z : State) (a0 : Array Value) (hw : ∀ d ∈ tables_1, d.before a0 Z = true) (ws : List Jvm.Cond) (a : Addr) (d : Addr) (kd : ClassId) (c0 : Int32) (cs : Int32) (h0 : Heap) (n0 : Nat) (Z0 : n0 ≤ h0.size) (E_a : Exa Z h0 a "java/lang/String") (F_value_a : Fld Z h0 a "java/lang/String" "value" "[B" .null) (F_coder_a : Fld Z h0 a "java/lang/String" "coder" "B" (.int (0 : Int32))) (V_d : Arv Z h0 d kd .char (1 : Int32) [(.int c0)] (.int (0 : Int32))) (S_COMPACT_STRINGS : Sta Z Z.heap "java/lang/String" "COMPACT_STRINGS" "Z" (.int cs)) (S__assertionsDisabled : Sta Z Z.heap "java/lang/StringUTF16" "$assertionsDisabled" "Z" (.int (1 : Int32))) (S_HI_BYTE_SHIFT : Sta Z Z.heap "java/lang/StringUTF16" "HI_BYTE_SHIFT" "I" (.int (0 : Int32))) (S_LO_BYTE_SHIFT : Sta Z Z.heap "java/lang/StringUTF16" "LO_BYTE_SHIFT" "I" (.int (8 : Int32))) (hch0 : OwnCh c0) (hcs : ¬ (cs = (0 : Int32))) (ne_d_a : d ≠ a) (g_a : n0 ≤ a) (O : Old Z n0 h0) :
    Met l Z M3 jdk_42_method_3_code 2 none ws (Rm 5 2 3 74) #[(.ref a), (.ref d)] h0 (Q_rm_init1_1 Z a d kd c0 cs h0 n0) := by
  refine met_of (plainFor_of_name pn_java_lang_String) (own := "java/lang/String") rfl (fun m => ef_rm_init1_1 m a d) ?_
  intro p e s m below meth c s₁ hx hby hml hown hnm hZ X0 e0 hret hlk
  have N0 := Fr.nil n0
  have K0 := Keep.refl h0 [a]
  show Goes p e below s _ _ _ (s₁.setTop (mkF m 0 #[.val (.ref a), .val (.ref d)] []))
  refine Goes.pre (U' := s₁.setTop (mkF m 4 #[.val (.ref a), .val (.ref d)] [(.ref d), (.int (0 : Int32)), (.ref d), (.ref a)])) (fun t k => XS.aloadN X0.here hx rfl (hb hby d3_0) rfl rfl (XS.aloadN X0.here hx rfl (hb hby d3_1) rfl rfl (XS.iconst X0.here hx rfl (hb hby d3_2) (XS.aloadN X0.here hx rfl (hb hby d3_3) rfl rfl k)))) ?_
  obtain ⟨cl1, Ar1, q1, Sz1, Ng1, -, -⟩ := id V_d
  have ln1 := len_of Sz1 Ng1
  refine Goes.pre (U' := s₁.setTop (mkF m 6 #[.val (.ref a), .val (.ref d)] [.null, (.int (1 : Int32)), (.int (0 : Int32)), (.ref d), (.ref a)])) (fun t k => X0.arraylength hx (by rw [e0]; exact Ar1.1) (State.isArrayOf_alike hZ.alike Ar1.2.1) (g := (mkF m 4 #[.val (.ref a), .val (.ref d)] [(.ref d), (.int (0 : Int32)), (.ref d), (.ref a)])) rfl rfl (hb hby d3_4) _ (by rw [ln1]; exact (XS.aconstNull X0.here hx rfl (hb hby d3_5) k))) ?_
  have lt_a := E_a.lt
  have lt_d := V_d.lt
  obtain ⟨_, _, ⟨T2, L2, k2, n2⟩, -, X2, ⟨Lc2, hQ2, l2, y2, z2⟩, st2⟩ := X0.specialBack hx (y := (⟨"java/lang/String", "<init>", "([CIILjava/lang/Void;)V"⟩ : MethodName)) rfl hown (mvT hZ (wq hw 15 rfl)) (mvT hZ (wq hw 16 rfl)) (mvT hZ (wq hw 18 rfl)) (by decide) (backOf (W := 0) (rm_init4_1 l Z a0 hw [] a d kd c0 cs h0 n0 Z0 E_a F_value_a F_coder_a V_d S_COMPACT_STRINGS S__assertionsDisabled S_HI_BYTE_SHIFT S_LO_BYTE_SHIFT hch0 hcs ne_d_a g_a O) hZ (wq hw 18 rfl) (wq hw 10 rfl) (by decide) (by decide)) (g := (mkF m 6 #[.val (.ref a), .val (.ref d)] [.null, (.int (1 : Int32)), (.int (0 : Int32)), (.ref d), (.ref a)])) rfl (by rw [hml]; rfl) (Steps.refl _) (a := a) (argsL := [(.ref d), (.int (0 : Int32)), (.int (1 : Int32)), .null]) (rest := []) (lenOf pd__28_5bCIILjava_2flang_2fVoid_3b_29V rfl) rfl (by show 2 * 0 + _ ≤ _; exact Nat.le_of_eq rfl) (hb hby d3_6) (fun _ _ => ⟨rfl, e0, (by decide : 0 + 2 ≤ _), (by decide : 0 + 3 ≤ _)⟩)
  dsimp only [Pt.U, Pt.locs, Pt.cells, Pt.slots] at X2 l2 y2 z2 st2 hQ2
  subst l2 y2 z2
  obtain ⟨b2, kb2, rfl, N2q, KQ2, fo0_2, g_b2, sl_b2⟩ := hQ2
  have N2 := Fr.app N0 N2q
  have E_a := E_a.keep KQ2
  have V_d := V_d.keep KQ2 (ninS ne_d_a nin0)
  have Z3 : n0 ≤ T2.heap.size := Nat.le_trans Z0 KQ2.1
  have O := O.keep KQ2 (allS (P := fun x => n0 ≤ x) g_a all0)
  have K3 := K0.trans KQ2 (allS (P := fun x => x ∈ [a] ∨ h0.size ≤ x) (Or.inl (List.mem_of_getElem? (i := 0) rfl)) all0)
  have ne_a_b2 : a ≠ b2 := Nat.ne_of_lt (Nat.lt_of_lt_of_le lt_a sl_b2)
  have ne_b2_a := ne_a_b2.symm
  have ne_d_b2 : d ≠ b2 := Nat.ne_of_lt (Nat.lt_of_lt_of_le lt_d sl_b2)
  have ne_b2_d := ne_d_b2.symm
  have sz_b2 : h0.size ≤ b2 := Nat.le_trans K0.1 sl_b2
  have S_a := fo0_2
  refine Goes.pre (U' := T2.setTop (mkF m 9 #[.val (.ref a), .val (.ref d)] [])) (fun t k => st2.trans k) ?_
  refine Goes.ret X2 (v := none) (fun _ => rfl) hlk (by decide) (by decide) rfl (fun fs hr => X2.returnOut hx hret (hb hby d3_9) hr) ?_
  exact ⟨b2, kb2, rfl, N2, K3, S_a, g_b2, sz_b2⟩
theorem ef_rm_putCh20 (m : MethodId) (x0 : Addr) (x1 : Int32) (x2 : Int32) : entryFrame m #[(.ref x0), (.int x1), (.int x2)] 3 = mkF m 0 #[.val (.ref x0), .val (.int x1), .val (.int x2)] [] := by first | (simp [entryFrame, mkF, argsToLocals, Value.category]; done) | rfl
def Q_rm_putCh20 (Z : State) (b : Addr) (kb : ClassId) (q : Int32) (o0 : Int32) (o1 : Int32) (o2 : Int32) (o3 : Int32) (h0 : Heap) (n0 : Nat) (v : Option Value) (h : Heap) (L : List Loc) : Prop := v = none ∧ Fr n0 L ∧ Keep h0 h [b] ∧ Arv Z h b kb .byte (4 : Int32) [(.int (q >>> ((0 : Int32) &&& 31)).toInt8.toInt32), (.int (q >>> ((8 : Int32) &&& 31)).toInt8.toInt32), (.int o2), (.int o3)] (.int (0 : Int32))
set_option maxRecDepth 65536 in
set_option maxHeartbeats 40000000 in
theorem rm_putCh20 (l : Launch) (Z : State) (a0 : Array Value) (hw : ∀ d ∈ tables_1, d.before a0 Z = true) (ws : List Jvm.Cond) (b : Addr) (kb : ClassId) (q : Int32) (o0 : Int32) (o1 : Int32) (o2 : Int32) (o3 : Int32) (h0 : Heap) (n0 : Nat) (Z0 : n0 ≤ h0.size) (V_b : Arv Z h0 b kb .byte (4 : Int32) [(.int o0), (.int o1), (.int o2), (.int o3)] (.int (0 : Int32))) (S__assertionsDisabled : Sta Z Z.heap "java/lang/StringUTF16" "$assertionsDisabled" "Z" (.int (1 : Int32))) (S_HI_BYTE_SHIFT : Sta Z Z.heap "java/lang/StringUTF16" "HI_BYTE_SHIFT" "I" (.int (0 : Int32))) (S_LO_BYTE_SHIFT : Sta Z Z.heap "java/lang/StringUTF16" "LO_BYTE_SHIFT" "I" (.int (8 : Int32))) (g_b : n0 ≤ b) (O : Old Z n0 h0) :
    Met l Z M22 jdk_52_method_4_code 3 none ws (Rm 0 0 0 0) #[(.ref b), (.int (0 : Int32)), (.int q)] h0 (Q_rm_putCh20 Z b kb q o0 o1 o2 o3 h0 n0) := by
  refine met_of (plainFor_of_name pn_java_lang_StringUTF16) (own := "java/lang/StringUTF16") rfl (fun m => ef_rm_putCh20 m b (0 : Int32) q) ?_
  intro p e s m below meth c s₁ hx hby hml hown hnm hZ X0 e0 hret hlk
  have N0 := Fr.nil n0
  have K0 := Keep.refl h0 [b]
  show Goes p e below s _ _ _ (s₁.setTop (mkF m 0 #[.val (.ref b), .val (.int (0 : Int32)), .val (.int q)] []))
  obtain ⟨T1, X1, e1, st1⟩ := getS2 X0 hx hZ hown (host := "") (Or.inl (wq hw 103 rfl)) Via.refl e0 (S__assertionsDisabled.ext O.2) (g := (mkF m 0 #[.val (.ref b), .val (.int (0 : Int32)), .val (.int q)] [])) rfl (hb hby d22_0)
  refine Goes.pre (U' := T1.setTop (mkF m 3 #[.val (.ref b), .val (.int (0 : Int32)), .val (.int q)] [(.int (1 : Int32))])) (fun t k => st1 t k) ?_
  have hc3 : ¬ ((1 : Int32) = (0 : Int32)) := by decide
  refine Goes.pre (U' := T1.setTop (mkF m 31 #[.val (.ref b), .val (.int (0 : Int32)), .val (.int q)] [(.int ((0 : Int32) <<< ((1 : Int32) &&& 31)))])) (fun t k => XS.ifYes X1.here hx rfl (pc0 := 3) (pc' := 28) rfl (hb hby d22_3) rfl ((if0 _ _).trans (feq hc3).2) (by decide) (by decide) (XS.iloadN X1.here hx rfl (hb hby d22_28) rfl (XS.iconst X1.here hx rfl (hb hby d22_29) (XS.ishl X1.here hx rfl (hb hby d22_30) rfl k)))) ?_
  rw [(by decide : ((0 : Int32) <<< ((1 : Int32) &&& 31)) = (0 : Int32))]
  refine Goes.pre (U' := T1.setTop (mkF m 37 #[.val (.ref b), .val (.int ((0 : Int32) + (1 : Int32))), .val (.int q)] [(.int (0 : Int32)), (.ref b)])) (fun t k => XS.istoreN X1.here hx rfl (hb hby d22_31) rfl (l' := #[.val (.ref b), .val (.int (0 : Int32)), .val (.int q)]) rfl (XS.aloadN X1.here hx rfl (hb hby d22_32) rfl rfl (XS.iloadN X1.here hx rfl (hb hby d22_33) rfl (XT.iincV X1.here hx rfl (1 : Int32) (hb hby d22_34) (by decide) rfl (l' := #[.val (.ref b), .val (.int ((0 : Int32) + (1 : Int32))), .val (.int q)]) rfl k)))) ?_
  rw [(by decide : ((0 : Int32) + (1 : Int32)) = (1 : Int32))]
  refine Goes.pre (U' := T1.setTop (mkF m 38 #[.val (.ref b), .val (.int (1 : Int32)), .val (.int q)] [(.int q), (.int (0 : Int32)), (.ref b)])) (fun t k => XS.iloadN X1.here hx rfl (hb hby d22_37) rfl k) ?_
  obtain ⟨T2, X2, e2, st2⟩ := getS2 X1 hx hZ hown (host := "") (Or.inl (wq hw 104 rfl)) Via.refl e1 (S_HI_BYTE_SHIFT.ext O.2) (g := (mkF m 38 #[.val (.ref b), .val (.int (1 : Int32)), .val (.int q)] [(.int q), (.int (0 : Int32)), (.ref b)])) rfl (hb hby d22_38)
  refine Goes.pre (U' := T2.setTop (mkF m 43 #[.val (.ref b), .val (.int (1 : Int32)), .val (.int q)] [(.int ((q >>> ((0 : Int32) &&& 31)).toInt8.toInt32)), (.int (0 : Int32)), (.ref b)])) (fun t k => st2 t (XS.ishr X2.here hx rfl (hb hby d22_41) rfl (XS.i2b X2.here hx rfl (hb hby d22_42) rfl k))) ?_
  obtain ⟨cl3, Ar3, q3, Sz3, Ng3, Hs3, Ft3⟩ := id V_b
  obtain ⟨T3, h3, X3, e3, W3, st3⟩ := stB X2 hx hZ e2 Ar3 (j := (0 : Int32)) (inb_of Sz3 ⟨by decide, by decide⟩) (g := (mkF m 43 #[.val (.ref b), .val (.int (1 : Int32)), .val (.int q)] [(.int ((q >>> ((0 : Int32) &&& 31)).toInt8.toInt32)), (.int (0 : Int32)), (.ref b)])) rfl rfl (hb hby d22_43)
  have nr3 : nar .byte ((q >>> ((0 : Int32) &&& 31)).toInt8.toInt32) = ((q >>> ((0 : Int32) &&& 31)).toInt8.toInt32) := own_bb _
  have ft3 : fits .byte (.int ((q >>> ((0 : Int32) &&& 31)).toInt8.toInt32)) = true := nr3 ▸ (fits_nar_byte ((q >>> ((0 : Int32) &&& 31)).toInt8.toInt32) : fits .byte (.int (nar .byte ((q >>> ((0 : Int32) &&& 31)).toInt8.toInt32))) = true)
  rw [nr3] at W3
  have Z3 : n0 ≤ h3.size := Nat.le_trans Z0 (Keep.of_wr W3).1
  have O := O.wr W3 g_b
  have V_b : Arv Z h3 b kb .byte (4 : Int32) [(.int ((q >>> ((0 : Int32) &&& 31)).toInt8.toInt32)), (.int o1), (.int o2), (.int o3)] (.int (0 : Int32)) := Arv.set Ar3 q3 Sz3 Ng3 Hs3 Ft3 ft3 W3 0 rfl (Nat.le_of_ble_eq_true rfl)
  have K3 := K0.wr W3 (Or.inl (List.mem_of_getElem? (i := 0) rfl))
  have N3 := Fr.snoc X3 N0 g_b
  refine Goes.pre (U' := T3.setTop (mkF m 47 #[.val (.ref b), .val (.int (1 : Int32)), .val (.int q)] [(.int q), (.int (1 : Int32)), (.ref b)])) (fun t k => st3 t (XS.aloadN X3.here hx rfl (hb hby d22_44) rfl rfl (XS.iloadN X3.here hx rfl (hb hby d22_45) rfl (XS.iloadN X3.here hx rfl (hb hby d22_46) rfl k)))) ?_
  obtain ⟨T4, X4, e4, st4⟩ := getS2 X3 hx hZ hown (host := "") (Or.inl (wq hw 105 rfl)) Via.refl e3 (S_LO_BYTE_SHIFT.ext O.2) (g := (mkF m 47 #[.val (.ref b), .val (.int (1 : Int32)), .val (.int q)] [(.int q), (.int (1 : Int32)), (.ref b)])) rfl (hb hby d22_47)
  refine Goes.pre (U' := T4.setTop (mkF m 52 #[.val (.ref b), .val (.int (1 : Int32)), .val (.int q)] [(.int ((q >>> ((8 : Int32) &&& 31)).toInt8.toInt32)), (.int (1 : Int32)), (.ref b)])) (fun t k => st4 t (XS.ishr X4.here hx rfl (hb hby d22_50) rfl (XS.i2b X4.here hx rfl (hb hby d22_51) rfl k))) ?_
  obtain ⟨cl5, Ar5, q5, Sz5, Ng5, Hs5, Ft5⟩ := id V_b
  obtain ⟨T5, h5, X5, e5, W5, st5⟩ := stB X4 hx hZ e4 Ar5 (j := (1 : Int32)) (inb_of Sz5 ⟨by decide, by decide⟩) (g := (mkF m 52 #[.val (.ref b), .val (.int (1 : Int32)), .val (.int q)] [(.int ((q >>> ((8 : Int32) &&& 31)).toInt8.toInt32)), (.int (1 : Int32)), (.ref b)])) rfl rfl (hb hby d22_52)
  have nr5 : nar .byte ((q >>> ((8 : Int32) &&& 31)).toInt8.toInt32) = ((q >>> ((8 : Int32) &&& 31)).toInt8.toInt32) := own_bb _
  have ft5 : fits .byte (.int ((q >>> ((8 : Int32) &&& 31)).toInt8.toInt32)) = true := nr5 ▸ (fits_nar_byte ((q >>> ((8 : Int32) &&& 31)).toInt8.toInt32) : fits .byte (.int (nar .byte ((q >>> ((8 : Int32) &&& 31)).toInt8.toInt32))) = true)
  rw [nr5] at W5
  have Z5 : n0 ≤ h5.size := Nat.le_trans Z3 (Keep.of_wr W5).1
  have O := O.wr W5 g_b
  have V_b : Arv Z h5 b kb .byte (4 : Int32) [(.int ((q >>> ((0 : Int32) &&& 31)).toInt8.toInt32)), (.int ((q >>> ((8 : Int32) &&& 31)).toInt8.toInt32)), (.int o2), (.int o3)] (.int (0 : Int32)) := Arv.set Ar5 q5 Sz5 Ng5 Hs5 Ft5 ft5 W5 1 rfl (Nat.le_of_ble_eq_true rfl)
  have K5 := K3.wr W5 (Or.inl (List.mem_of_getElem? (i := 0) rfl))
  have N5 := Fr.snoc X5 N3 g_b
  refine Goes.pre (U' := T5.setTop (mkF m 53 #[.val (.ref b), .val (.int (1 : Int32)), .val (.int q)] [])) (fun t k => st5 t k) ?_
  refine Goes.ret X5 (v := none) (fun _ => rfl) hlk (by decide) (by decide) e5 (fun fs hr => X5.returnOut hx hret (hb hby d22_53) hr) ?_
  exact ⟨rfl, N5, K5, V_b⟩
theorem ef_rm_putCh21 (m : MethodId) (x0 : Addr) (x1 : Int32) (x2 : Int32) : entryFrame m #[(.ref x0), (.int x1), (.int x2)] 3 = mkF m 0 #[.val (.ref x0), .val (.int x1), .val (.int x2)] [] := by first | (simp [entryFrame, mkF, argsToLocals, Value.category]; done) | rfl
def Q_rm_putCh21 (Z : State) (b : Addr) (kb : ClassId) (q : Int32) (o0 : Int32) (o1 : Int32) (o2 : Int32) (o3 : Int32) (h0 : Heap) (n0 : Nat) (v : Option Value) (h : Heap) (L : List Loc) : Prop := v = none ∧ Fr n0 L ∧ Keep h0 h [b] ∧ Arv Z h b kb .byte (4 : Int32) [(.int o0), (.int o1), (.int (q >>> ((0 : Int32) &&& 31)).toInt8.toInt32), (.int (q >>> ((8 : Int32) &&& 31)).toInt8.toInt32)] (.int (0 : Int32))
set_option maxRecDepth 65536 in
set_option maxHeartbeats 40000000 in
theorem rm_putCh21 (l : Launch) (Z : State) (a0 : Array Value) (hw : ∀ d ∈ tables_1, d.before a0 Z = true) (ws : List Jvm.Cond) (b : Addr) (kb : ClassId) (q : Int32) (o0 : Int32) (o1 : Int32) (o2 : Int32) (o3 : Int32) (h0 : Heap) (n0 : Nat) (Z0 : n0 ≤ h0.size) (V_b : Arv Z h0 b kb .byte (4 : Int32) [(.int o0), (.int o1), (.int o2), (.int o3)] (.int (0 : Int32))) (S__assertionsDisabled : Sta Z Z.heap "java/lang/StringUTF16" "$assertionsDisabled" "Z" (.int (1 : Int32))) (S_HI_BYTE_SHIFT : Sta Z Z.heap "java/lang/StringUTF16" "HI_BYTE_SHIFT" "I" (.int (0 : Int32))) (S_LO_BYTE_SHIFT : Sta Z Z.heap "java/lang/StringUTF16" "LO_BYTE_SHIFT" "I" (.int (8 : Int32))) (g_b : n0 ≤ b) (O : Old Z n0 h0) :
    Met l Z M22 jdk_52_method_4_code 3 none ws (Rm 0 0 0 0) #[(.ref b), (.int (1 : Int32)), (.int q)] h0 (Q_rm_putCh21 Z b kb q o0 o1 o2 o3 h0 n0) := by
  refine met_of (plainFor_of_name pn_java_lang_StringUTF16) (own := "java/lang/StringUTF16") rfl (fun m => ef_rm_putCh21 m b (1 : Int32) q) ?_
  intro p e s m below meth c s₁ hx hby hml hown hnm hZ X0 e0 hret hlk
  have N0 := Fr.nil n0
  have K0 := Keep.refl h0 [b]
  show Goes p e below s _ _ _ (s₁.setTop (mkF m 0 #[.val (.ref b), .val (.int (1 : Int32)), .val (.int q)] []))
  obtain ⟨T1, X1, e1, st1⟩ := getS2 X0 hx hZ hown (host := "") (Or.inl (wq hw 103 rfl)) Via.refl e0 (S__assertionsDisabled.ext O.2) (g := (mkF m 0 #[.val (.ref b), .val (.int (1 : Int32)), .val (.int q)] [])) rfl (hb hby d22_0)
  refine Goes.pre (U' := T1.setTop (mkF m 3 #[.val (.ref b), .val (.int (1 : Int32)), .val (.int q)] [(.int (1 : Int32))])) (fun t k => st1 t k) ?_
  have hc3 : ¬ ((1 : Int32) = (0 : Int32)) := by decide
  refine Goes.pre (U' := T1.setTop (mkF m 31 #[.val (.ref b), .val (.int (1 : Int32)), .val (.int q)] [(.int ((1 : Int32) <<< ((1 : Int32) &&& 31)))])) (fun t k => XS.ifYes X1.here hx rfl (pc0 := 3) (pc' := 28) rfl (hb hby d22_3) rfl ((if0 _ _).trans (feq hc3).2) (by decide) (by decide) (XS.iloadN X1.here hx rfl (hb hby d22_28) rfl (XS.iconst X1.here hx rfl (hb hby d22_29) (XS.ishl X1.here hx rfl (hb hby d22_30) rfl k)))) ?_
  rw [(by decide : ((1 : Int32) <<< ((1 : Int32) &&& 31)) = (2 : Int32))]
  refine Goes.pre (U' := T1.setTop (mkF m 37 #[.val (.ref b), .val (.int ((2 : Int32) + (1 : Int32))), .val (.int q)] [(.int (2 : Int32)), (.ref b)])) (fun t k => XS.istoreN X1.here hx rfl (hb hby d22_31) rfl (l' := #[.val (.ref b), .val (.int (2 : Int32)), .val (.int q)]) rfl (XS.aloadN X1.here hx rfl (hb hby d22_32) rfl rfl (XS.iloadN X1.here hx rfl (hb hby d22_33) rfl (XT.iincV X1.here hx rfl (1 : Int32) (hb hby d22_34) (by decide) rfl (l' := #[.val (.ref b), .val (.int ((2 : Int32) + (1 : Int32))), .val (.int q)]) rfl k)))) ?_
  rw [(by decide : ((2 : Int32) + (1 : Int32)) = (3 : Int32))]
  refine Goes.pre (U' := T1.setTop (mkF m 38 #[.val (.ref b), .val (.int (3 : Int32)), .val (.int q)] [(.int q), (.int (2 : Int32)), (.ref b)])) (fun t k => XS.iloadN X1.here hx rfl (hb hby d22_37) rfl k) ?_
  obtain ⟨T2, X2, e2, st2⟩ := getS2 X1 hx hZ hown (host := "") (Or.inl (wq hw 104 rfl)) Via.refl e1 (S_HI_BYTE_SHIFT.ext O.2) (g := (mkF m 38 #[.val (.ref b), .val (.int (3 : Int32)), .val (.int q)] [(.int q), (.int (2 : Int32)), (.ref b)])) rfl (hb hby d22_38)
  refine Goes.pre (U' := T2.setTop (mkF m 43 #[.val (.ref b), .val (.int (3 : Int32)), .val (.int q)] [(.int ((q >>> ((0 : Int32) &&& 31)).toInt8.toInt32)), (.int (2 : Int32)), (.ref b)])) (fun t k => st2 t (XS.ishr X2.here hx rfl (hb hby d22_41) rfl (XS.i2b X2.here hx rfl (hb hby d22_42) rfl k))) ?_
  obtain ⟨cl3, Ar3, q3, Sz3, Ng3, Hs3, Ft3⟩ := id V_b
  obtain ⟨T3, h3, X3, e3, W3, st3⟩ := stB X2 hx hZ e2 Ar3 (j := (2 : Int32)) (inb_of Sz3 ⟨by decide, by decide⟩) (g := (mkF m 43 #[.val (.ref b), .val (.int (3 : Int32)), .val (.int q)] [(.int ((q >>> ((0 : Int32) &&& 31)).toInt8.toInt32)), (.int (2 : Int32)), (.ref b)])) rfl rfl (hb hby d22_43)
  have nr3 : nar .byte ((q >>> ((0 : Int32) &&& 31)).toInt8.toInt32) = ((q >>> ((0 : Int32) &&& 31)).toInt8.toInt32) := own_bb _
  have ft3 : fits .byte (.int ((q >>> ((0 : Int32) &&& 31)).toInt8.toInt32)) = true := nr3 ▸ (fits_nar_byte ((q >>> ((0 : Int32) &&& 31)).toInt8.toInt32) : fits .byte (.int (nar .byte ((q >>> ((0 : Int32) &&& 31)).toInt8.toInt32))) = true)
  rw [nr3] at W3
  have Z3 : n0 ≤ h3.size := Nat.le_trans Z0 (Keep.of_wr W3).1
  have O := O.wr W3 g_b
  have V_b : Arv Z h3 b kb .byte (4 : Int32) [(.int o0), (.int o1), (.int ((q >>> ((0 : Int32) &&& 31)).toInt8.toInt32)), (.int o3)] (.int (0 : Int32)) := Arv.set Ar3 q3 Sz3 Ng3 Hs3 Ft3 ft3 W3 2 rfl (Nat.le_of_ble_eq_true rfl)
  have K3 := K0.wr W3 (Or.inl (List.mem_of_getElem? (i := 0) rfl))
  have N3 := Fr.snoc X3 N0 g_b
  refine Goes.pre (U' := T3.setTop (mkF m 47 #[.val (.ref b), .val (.int (3 : Int32)), .val (.int q)] [(.int q), (.int (3 : Int32)), (.ref b)])) (fun t k => st3 t (XS.aloadN X3.here hx rfl (hb hby d22_44) rfl rfl (XS.iloadN X3.here hx rfl (hb hby d22_45) rfl (XS.iloadN X3.here hx rfl (hb hby d22_46) rfl k)))) ?_
  obtain ⟨T4, X4, e4, st4⟩ := getS2 X3 hx hZ hown (host := "") (Or.inl (wq hw 105 rfl)) Via.refl e3 (S_LO_BYTE_SHIFT.ext O.2) (g := (mkF m 47 #[.val (.ref b), .val (.int (3 : Int32)), .val (.int q)] [(.int q), (.int (3 : Int32)), (.ref b)])) rfl (hb hby d22_47)
  refine Goes.pre (U' := T4.setTop (mkF m 52 #[.val (.ref b), .val (.int (3 : Int32)), .val (.int q)] [(.int ((q >>> ((8 : Int32) &&& 31)).toInt8.toInt32)), (.int (3 : Int32)), (.ref b)])) (fun t k => st4 t (XS.ishr X4.here hx rfl (hb hby d22_50) rfl (XS.i2b X4.here hx rfl (hb hby d22_51) rfl k))) ?_
  obtain ⟨cl5, Ar5, q5, Sz5, Ng5, Hs5, Ft5⟩ := id V_b
  obtain ⟨T5, h5, X5, e5, W5, st5⟩ := stB X4 hx hZ e4 Ar5 (j := (3 : Int32)) (inb_of Sz5 ⟨by decide, by decide⟩) (g := (mkF m 52 #[.val (.ref b), .val (.int (3 : Int32)), .val (.int q)] [(.int ((q >>> ((8 : Int32) &&& 31)).toInt8.toInt32)), (.int (3 : Int32)), (.ref b)])) rfl rfl (hb hby d22_52)
  have nr5 : nar .byte ((q >>> ((8 : Int32) &&& 31)).toInt8.toInt32) = ((q >>> ((8 : Int32) &&& 31)).toInt8.toInt32) := own_bb _
  have ft5 : fits .byte (.int ((q >>> ((8 : Int32) &&& 31)).toInt8.toInt32)) = true := nr5 ▸ (fits_nar_byte ((q >>> ((8 : Int32) &&& 31)).toInt8.toInt32) : fits .byte (.int (nar .byte ((q >>> ((8 : Int32) &&& 31)).toInt8.toInt32))) = true)
  rw [nr5] at W5
  have Z5 : n0 ≤ h5.size := Nat.le_trans Z3 (Keep.of_wr W5).1
  have O := O.wr W5 g_b
  have V_b : Arv Z h5 b kb .byte (4 : Int32) [(.int o0), (.int o1), (.int ((q >>> ((0 : Int32) &&& 31)).toInt8.toInt32)), (.int ((q >>> ((8 : Int32) &&& 31)).toInt8.toInt32))] (.int (0 : Int32)) := Arv.set Ar5 q5 Sz5 Ng5 Hs5 Ft5 ft5 W5 3 rfl (Nat.le_of_ble_eq_true rfl)
  have K5 := K3.wr W5 (Or.inl (List.mem_of_getElem? (i := 0) rfl))
  have N5 := Fr.snoc X5 N3 g_b
  refine Goes.pre (U' := T5.setTop (mkF m 53 #[.val (.ref b), .val (.int (3 : Int32)), .val (.int q)] [])) (fun t k => st5 t k) ?_
  refine Goes.ret X5 (v := none) (fun _ => rfl) hlk (by decide) (by decide) e5 (fun fs hr => X5.returnOut hx hret (hb hby d22_53) hr) ?_
  exact ⟨rfl, N5, K5, V_b⟩
theorem ef_rm_nbl2 (m : MethodId) (x0 : Int32) : entryFrame m #[(.int x0)] 1 = mkF m 0 #[.val (.int x0)] [] := by first | (simp [entryFrame, mkF, argsToLocals, Value.category]; done) | rfl
def Q_rm_nbl2 (Z : State)  (h0 : Heap) (n0 : Nat) (v : Option Value) (h : Heap) (L : List Loc) : Prop := v = some (.int (4 : Int32)) ∧ Fr n0 L ∧ h = h0
set_option maxRecDepth 65536 in
set_option maxHeartbeats 40000000 in
theorem rm_nbl2 (l : Launch) (Z : State) (a0 : Array Value) (hw : ∀ d ∈ tables_1, d.before a0 Z = true) (ws : List Jvm.Cond)  (h0 : Heap) (n0 : Nat) (Z0 : n0 ≤ h0.size)  :
    Met l Z M21 jdk_52_method_3_code 1 (some .int) ws (Rm 0 0 0 0) #[(.int (2 : Int32))] h0 (Q_rm_nbl2 Z  h0 n0) := by
  refine met_of (plainFor_of_name pn_java_lang_StringUTF16) (own := "java/lang/StringUTF16") rfl (fun m => ef_rm_nbl2 m (2 : Int32)) ?_
  intro p e s m below meth c s₁ hx hby hml hown hnm hZ X0 e0 hret hlk
  have N0 := Fr.nil n0
  show Goes p e below s _ _ _ (s₁.setTop (mkF m 0 #[.val (.int (2 : Int32))] []))
  refine Goes.pre (U' := s₁.setTop (mkF m 1 #[.val (.int (2 : Int32))] [(.int (2 : Int32))])) (fun t k => XS.iloadN X0.here hx rfl (hb hby d21_0) rfl k) ?_
  have hc1 : ¬ ((2 : Int32) < (0 : Int32)) := by decide
  refine Goes.pre (U' := s₁.setTop (mkF m 15 #[.val (.int (2 : Int32))] [(.int (1073741823 : Int32)), (.int (2 : Int32))])) (fun t k => XS.ifYes X0.here hx rfl (pc0 := 1) (pc' := 12) rfl (hb hby d21_1) rfl ((if0 _ _).trans (flt hc1).2.1) (by decide) (by decide) (XS.iloadN X0.here hx rfl (hb hby d21_12) rfl (X0.ldcInt hx hown (mvT hZ (wq hw 99 rfl)) (g := (mkF m 13 #[.val (.int (2 : Int32))] [(.int (2 : Int32))])) rfl (hb hby d21_13) _ k))) ?_
  have hc15 : (2 : Int32) < (1073741823 : Int32) := by decide
  refine Goes.pre (U' := s₁.setTop (mkF m 58 #[.val (.int (2 : Int32))] [(.int ((2 : Int32) <<< ((1 : Int32) &&& 31)))])) (fun t k => XS.icmpYes X0.here hx rfl (pc0 := 15) (pc' := 55) rfl (hb hby d21_15) rfl (tlt hc15).1 (by decide) (by decide) (XS.iloadN X0.here hx rfl (hb hby d21_55) rfl (XS.iconst X0.here hx rfl (hb hby d21_56) (XS.ishl X0.here hx rfl (hb hby d21_57) rfl k)))) ?_
  rw [(by decide : ((2 : Int32) <<< ((1 : Int32) &&& 31)) = (4 : Int32))]
  refine Goes.ret X0 (v := (some (.int (4 : Int32)))) (fun h => by rw [hret] at h; cases h) hlk (by decide) (by decide) e0 (fun fs hr => retI X0 hx hret (hb hby d21_58) hr) ?_
  exact ⟨rfl, N0, rfl⟩
theorem ef_rm_nbf2 (m : MethodId) (x0 : Int32) : entryFrame m #[(.int x0)] 1 = mkF m 0 #[.val (.int x0)] [] := by first | (simp [entryFrame, mkF, argsToLocals, Value.category]; done) | rfl
def Q_rm_nbf2 (Z : State)  (h0 : Heap) (n0 : Nat) (v : Option Value) (h : Heap) (L : List Loc) : Prop := ∃ (r : Addr) (kr : ClassId), v = some (.ref r) ∧ Fr n0 L ∧ Keep h0 h [] ∧ Arv Z h r kr .byte (4 : Int32) [(.int (0 : Int32)), (.int (0 : Int32)), (.int (0 : Int32)), (.int (0 : Int32))] (.int (0 : Int32)) ∧ n0 ≤ r ∧ h0.size ≤ r
set_option maxRecDepth 65536 in
set_option maxHeartbeats 40000000 in
theorem rm_nbf2 (l : Launch) (Z : State) (a0 : Array Value) (hw : ∀ d ∈ tables_1, d.before a0 Z = true) (ws : List Jvm.Cond)  (h0 : Heap) (n0 : Nat) (Z0 : n0 ≤ h0.size)  :
    Met l Z M20 jdk_52_method_2_code 1 (some (.array .byte)) ws (Rm 1 1 4 12) #[(.int (2 : Int32))] h0 (Q_rm_nbf2 Z  h0 n0) := by
  refine met_of (plainFor_of_name pn_java_lang_StringUTF16) (own := "java/lang/StringUTF16") rfl (fun m => ef_rm_nbf2 m (2 : Int32)) ?_
  intro p e s m below meth c s₁ hx hby hml hown hnm hZ X0 e0 hret hlk
  have N0 := Fr.nil n0
  have K0 := Keep.refl h0 []
  show Goes p e below s _ _ _ (s₁.setTop (mkF m 0 #[.val (.int (2 : Int32))] []))
  refine Goes.pre (U' := s₁.setTop (mkF m 1 #[.val (.int (2 : Int32))] [(.int (2 : Int32))])) (fun t k => XS.iloadN X0.here hx rfl (hb hby d20_0) rfl k) ?_
  obtain ⟨_, _, ⟨T1, L1, k1, n1⟩, -, X1, ⟨Lc1, hQ1, l1, y1, z1⟩, st1⟩ := Jvm.LawKit.callS X0 hx (y := (⟨"java/lang/StringUTF16", "newBytesLength", "(I)I"⟩ : MethodName)) hown (mvT hZ (wq hw 96 rfl)) (mvT hZ (wq hw 97 rfl)) (mvT hZ (wq hw 51 rfl)) (mvT hZ (wq hw 98 rfl)) (by decide) (backOf (W := 0) (rm_nbl2 l Z a0 hw []  h0 n0 Z0 ) hZ (wq hw 98 rfl) (wq hw 51 rfl) (by decide) (by decide)) (g := (mkF m 1 #[.val (.int (2 : Int32))] [(.int (2 : Int32))])) rfl (by rw [hml]; rfl) (argsL := [(.int (2 : Int32))]) (rest := []) (lenOf pd__28I_29I rfl) rfl (by show 2 * 0 + _ ≤ _; exact Nat.le_of_eq rfl) (hb hby d20_1) (fun _ _ => ⟨rfl, e0, (by decide : 0 + 0 ≤ _), (by decide : 0 + 0 ≤ _)⟩)
  dsimp only [Pt.U, Pt.locs, Pt.cells, Pt.slots] at X1 l1 y1 z1 st1 hQ1
  subst l1 y1 z1
  obtain ⟨rfl, N1q, HQ1⟩ := hQ1
  have N1 := Fr.app N0 N1q
  refine Goes.pre (U' := T1.setTop (mkF m 4 #[.val (.int (2 : Int32))] [(.int (4 : Int32))])) (fun t k => st1 t k) ?_
  obtain ⟨T2, h2, k2, X2, e2, E2, A2, B2, st2⟩ := newPE X1 hx hZ (wq hw 23 rfl) HQ1 (g := (mkF m 4 #[.val (.int (2 : Int32))] [(.int (4 : Int32))])) rfl (hb hby d20_4) rfl (by decide) (cap := 4) (by decide) (by decide) (by decide) (by decide) (ad := "[B") (by decide)
  obtain ⟨nb2, g2⟩ : ∃ z, z = h0.size := ⟨_, rfl⟩
  rw [← g2] at A2 B2 st2
  have g_nb2 : n0 ≤ nb2 := Nat.le_trans Z0 (Nat.le_of_eq g2.symm)
  have sz_nb2 : h0.size ≤ nb2 := Nat.le_trans K0.1 (Nat.le_of_eq g2.symm)
  have Z2 : n0 ≤ h2.size := Nat.le_trans Z0 E2.1
  have K2 := K0.ext E2
  have E_nb2 := B2
  have V_nb2 : Arv Z h2 nb2 k2 .byte (4 : Int32) [(.int (0 : Int32)), (.int (0 : Int32)), (.int (0 : Int32)), (.int (0 : Int32))] (.int (0 : Int32)) := (Arv.new A2 (by decide)).pad (pad_rep [] (.int (0 : Int32)) 4)
  refine Goes.pre (U' := T2.setTop (mkF m 6 #[.val (.int (2 : Int32))] [(.ref nb2)])) (fun t k => st2 t k) ?_
  refine Goes.ret X2 (v := (some (.ref nb2))) (fun h => by rw [hret] at h; cases h) hlk (by decide) (by decide) e2 (fun fs hr => retOut X2 hx hret rfl (Or.inr (Or.inr (Or.inr (Or.inr ⟨rfl, rfl, rfl⟩)))) (hb hby d20_6) hr) ?_
  exact ⟨nb2, k2, rfl, N1, K2, V_nb2, g_nb2, sz_nb2⟩
theorem ef_rm_toB2 (m : MethodId) (x0 : Addr) (x1 : Int32) (x2 : Int32) : entryFrame m #[(.ref x0), (.int x1), (.int x2)] 5 = mkF m 0 #[.val (.ref x0), .val (.int x1), .val (.int x2), .unset, .unset] [] := by first | (simp [entryFrame, mkF, argsToLocals, Value.category]; done) | rfl
def Q_rm_toB2 (Z : State) (d : Addr) (kd : ClassId) (c0 : Int32) (c1 : Int32) (h0 : Heap) (n0 : Nat) (v : Option Value) (h : Heap) (L : List Loc) : Prop := ∃ (r : Addr) (kr : ClassId), v = some (.ref r) ∧ Fr n0 L ∧ Keep h0 h [] ∧ Arv Z h r kr .byte (4 : Int32) [(.int (c0 >>> ((0 : Int32) &&& 31)).toInt8.toInt32), (.int (c0 >>> ((8 : Int32) &&& 31)).toInt8.toInt32), (.int (c1 >>> ((0 : Int32) &&& 31)).toInt8.toInt32), (.int (c1 >>> ((8 : Int32) &&& 31)).toInt8.toInt32)] (.int (0 : Int32)) ∧ n0 ≤ r ∧ h0.size ≤ r
set_option maxRecDepth 65536 in
set_option maxHeartbeats 40000000 in
theorem rm_toB2 (l : Launch) (Z : State) (a0 : Array Value) (hw : ∀ d ∈ tables_1, d.before a0 Z = true) (ws : List Jvm.Cond) (d : Addr) (kd : ClassId) (c0 : Int32) (c1 : Int32) (h0 : Heap) (n0 : Nat) (Z0 : n0 ≤ h0.size) (V_d : Arv Z h0 d kd .char (2 : Int32) [(.int c0), (.int c1)] (.int (0 : Int32))) (S__assertionsDisabled : Sta Z Z.heap "java/lang/StringUTF16" "$assertionsDisabled" "Z" (.int (1 : Int32))) (S_HI_BYTE_SHIFT : Sta Z Z.heap "java/lang/StringUTF16" "HI_BYTE_SHIFT" "I" (.int (0 : Int32))) (S_LO_BYTE_SHIFT : Sta Z Z.heap "java/lang/StringUTF16" "LO_BYTE_SHIFT" "I" (.int (8 : Int32))) (O : Old Z n0 h0) :
    Met l Z M19 jdk_52_method_14_code 5 (some (.array .byte)) ws (Rm 2 1 4 24) #[(.ref d), (.int (0 : Int32)), (.int (2 : Int32))] h0 (Q_rm_toB2 Z d kd c0 c1 h0 n0) := by
  refine met_of (plainFor_of_name pn_java_lang_StringUTF16) (own := "java/lang/StringUTF16") rfl (fun m => ef_rm_toB2 m d (0 : Int32) (2 : Int32)) ?_
  intro p e s m below meth c s₁ hx hby hml hown hnm hZ X0 e0 hret hlk
  have N0 := Fr.nil n0
  have K0 := Keep.refl h0 []
  show Goes p e below s _ _ _ (s₁.setTop (mkF m 0 #[.val (.ref d), .val (.int (0 : Int32)), .val (.int (2 : Int32)), .unset, .unset] []))
  refine Goes.pre (U' := s₁.setTop (mkF m 1 #[.val (.ref d), .val (.int (0 : Int32)), .val (.int (2 : Int32)), .unset, .unset] [(.int (2 : Int32))])) (fun t k => XS.iloadN X0.here hx rfl (hb hby d19_0) rfl k) ?_
  have lt_d := V_d.lt
  obtain ⟨_, _, ⟨T1, L1, k1, n1⟩, -, X1, ⟨Lc1, hQ1, l1, y1, z1⟩, st1⟩ := Jvm.LawKit.callS X0 hx (y := (⟨"java/lang/StringUTF16", "newBytesFor", "(I)[B"⟩ : MethodName)) hown (mvT hZ (wq hw 93 rfl)) (mvT hZ (wq hw 94 rfl)) (mvT hZ (wq hw 51 rfl)) (mvT hZ (wq hw 95 rfl)) (by decide) (backOf (W := 0) (rm_nbf2 l Z a0 hw []  h0 n0 Z0 ) hZ (wq hw 95 rfl) (wq hw 51 rfl) (by decide) (by decide)) (g := (mkF m 1 #[.val (.ref d), .val (.int (0 : Int32)), .val (.int (2 : Int32)), .unset, .unset] [(.int (2 : Int32))])) rfl (by rw [hml]; rfl) (argsL := [(.int (2 : Int32))]) (rest := []) (lenOf pd__28I_29_5bB rfl) rfl (by show 2 * 0 + _ ≤ _; exact Nat.le_of_eq rfl) (hb hby d19_1) (fun _ _ => ⟨rfl, e0, (by decide : 0 + 1 ≤ _), (by decide : 0 + 4 ≤ _)⟩)
  dsimp only [Pt.U, Pt.locs, Pt.cells, Pt.slots] at X1 l1 y1 z1 st1 hQ1
  subst l1 y1 z1
  obtain ⟨r1, kr1, rfl, N1q, KQ1, fo0_1, g_r1, sl_r1⟩ := hQ1
  have N1 := Fr.app N0 N1q
  have V_d := V_d.keep KQ1 nin0
  have Z2 : n0 ≤ T1.heap.size := Nat.le_trans Z0 KQ1.1
  have O := O.keep KQ1 all0
  have K2 := K0.trans KQ1 all0
  have ne_d_r1 : d ≠ r1 := Nat.ne_of_lt (Nat.lt_of_lt_of_le lt_d sl_r1)
  have ne_r1_d := ne_d_r1.symm
  have sz_r1 : h0.size ≤ r1 := Nat.le_trans K0.1 sl_r1
  have V_r1 := fo0_1
  refine Goes.pre (U' := T1.setTop (mkF m 11 #[.val (.ref d), .val (.int (0 : Int32)), .val (.int (2 : Int32)), .val (.ref r1), .val (.int (0 : Int32))] [(.int (2 : Int32)), (.int (0 : Int32))])) (fun t k => st1 t (XS.astoreN X1.here hx rfl (hb hby d19_4) rfl rfl (l' := #[.val (.ref d), .val (.int (0 : Int32)), .val (.int (2 : Int32)), .val (.ref r1), .unset]) rfl (XS.iconst X1.here hx rfl (hb hby d19_5) (XS.istore X1.here hx rfl (hb hby d19_6) rfl (l' := #[.val (.ref d), .val (.int (0 : Int32)), .val (.int (2 : Int32)), .val (.ref r1), .val (.int (0 : Int32))]) rfl (XS.iload X1.here hx rfl (hb hby d19_8) rfl (XS.iloadN X1.here hx rfl (hb hby d19_10) rfl k)))))) ?_
  have hc11 : (0 : Int32) < (2 : Int32) := by decide
  refine Goes.pre (U' := T1.setTop (mkF m 19 #[.val (.ref d), .val (.int (0 : Int32)), .val (.int (2 : Int32)), .val (.ref r1), .val (.int (0 : Int32))] [(.int (0 : Int32)), (.ref d), (.int (0 : Int32)), (.ref r1)])) (fun t k => XS.icmpNo X1.here hx rfl (hb hby d19_11) rfl (tlt hc11).2.1 (XS.aloadN X1.here hx rfl (hb hby d19_14) rfl rfl (XS.iload X1.here hx rfl (hb hby d19_15) rfl (XS.aloadN X1.here hx rfl (hb hby d19_17) rfl rfl (XS.iloadN X1.here hx rfl (hb hby d19_18) rfl k))))) ?_
  obtain ⟨cl3, Ar3, q3, Sz3, Ng3, Hs3, Ft3⟩ := id V_d
  have hin3 := inb_of (j := (0 : Int32)) Sz3 ⟨by decide, by decide⟩
  refine Goes.pre (U' := T1.setTop (mkF m 20 #[.val (.ref d), .val (.int (0 : Int32)), .val (.int (2 : Int32)), .val (.ref r1), .val (.int (0 : Int32))] [(.int c0), (.int (0 : Int32)), (.ref r1)])) (fun t k => X1.caload hx (j := (0 : Int32)) (v := (.int c0)) Ar3.1 (State.isArrayOf_alike hZ.alike Ar3.2.1) Ar3.2.2 hin3 (Has.at Hs3 hin3 rfl) (g := (mkF m 19 #[.val (.ref d), .val (.int (0 : Int32)), .val (.int (2 : Int32)), .val (.ref r1), .val (.int (0 : Int32))] [(.int (0 : Int32)), (.ref d), (.int (0 : Int32)), (.ref r1)])) rfl rfl (hb hby d19_19) _ k) ?_
  obtain ⟨_, _, ⟨T4, L4, k4, n4⟩, -, X4, ⟨Lc4, hQ4, l4, y4, z4⟩, st4⟩ := Jvm.LawKit.callS X1 hx (y := (⟨"java/lang/StringUTF16", "putChar", "([BII)V"⟩ : MethodName)) hown (mvT hZ (wq hw 100 rfl)) (mvT hZ (wq hw 101 rfl)) (mvT hZ (wq hw 51 rfl)) (mvT hZ (wq hw 102 rfl)) (by decide) (backOf (W := 0) (rm_putCh20 l Z a0 hw [] r1 kr1 c0 (0 : Int32) (0 : Int32) (0 : Int32) (0 : Int32) T1.heap n0 Z2 V_r1 S__assertionsDisabled S_HI_BYTE_SHIFT S_LO_BYTE_SHIFT g_r1 O) hZ (wq hw 102 rfl) (wq hw 51 rfl) (by decide) (by decide)) (g := (mkF m 20 #[.val (.ref d), .val (.int (0 : Int32)), .val (.int (2 : Int32)), .val (.ref r1), .val (.int (0 : Int32))] [(.int c0), (.int (0 : Int32)), (.ref r1)])) rfl (by rw [hml]; rfl) (argsL := [(.ref r1), (.int (0 : Int32)), (.int c0)]) (rest := []) (lenOf pd__28_5bBII_29V rfl) rfl (by show 2 * 0 + _ ≤ _; exact Nat.le_of_eq rfl) (hb hby d19_20) (fun _ _ => ⟨rfl, rfl, (by decide : 1 + 0 ≤ _), (by decide : 4 + 0 ≤ _)⟩)
  dsimp only [Pt.U, Pt.locs, Pt.cells, Pt.slots] at X4 l4 y4 z4 st4 hQ4
  subst l4 y4 z4
  obtain ⟨rfl, N4q, KQ4, fo0_4⟩ := hQ4
  have N4 := Fr.app N1 N4q
  have V_d := V_d.keep KQ4 (ninS ne_d_r1 nin0)
  have Z5 : n0 ≤ T4.heap.size := Nat.le_trans Z2 KQ4.1
  have O := O.keep KQ4 (allS (P := fun x => n0 ≤ x) g_r1 all0)
  have K5 := K2.trans KQ4 (allS (P := fun x => x ∈ [] ∨ h0.size ≤ x) (Or.inr sz_r1) all0)
  have V_r1 := fo0_4
  refine Goes.pre (U' := T4.setTop (mkF m 26 #[.val (.ref d), .val (.int ((0 : Int32) + (1 : Int32))), .val (.int (2 : Int32)), .val (.ref r1), .val (.int (0 : Int32))] [])) (fun t k => st4 t (XT.iincV X4.here hx rfl (1 : Int32) (hb hby d19_23) (by decide) rfl (l' := #[.val (.ref d), .val (.int ((0 : Int32) + (1 : Int32))), .val (.int (2 : Int32)), .val (.ref r1), .val (.int (0 : Int32))]) rfl k)) ?_
  rw [(by decide : ((0 : Int32) + (1 : Int32)) = (1 : Int32))]
  refine Goes.pre (U' := T4.setTop (mkF m 29 #[.val (.ref d), .val (.int (1 : Int32)), .val (.int (2 : Int32)), .val (.ref r1), .val (.int ((0 : Int32) + (1 : Int32)))] [])) (fun t k => XT.iincV X4.here hx rfl (1 : Int32) (hb hby d19_26) (by decide) rfl (l' := #[.val (.ref d), .val (.int (1 : Int32)), .val (.int (2 : Int32)), .val (.ref r1), .val (.int ((0 : Int32) + (1 : Int32)))]) rfl k) ?_
  rw [(by decide : ((0 : Int32) + (1 : Int32)) = (1 : Int32))]
  refine Goes.pre (U' := T4.setTop (mkF m 11 #[.val (.ref d), .val (.int (1 : Int32)), .val (.int (2 : Int32)), .val (.ref r1), .val (.int (1 : Int32))] [(.int (2 : Int32)), (.int (1 : Int32))])) (fun t k => XS.goto X4.here hx rfl (pc0 := 29) (pc' := 8) rfl (hb hby d19_29) (by decide) (by decide) (XS.iload X4.here hx rfl (hb hby d19_8) rfl (XS.iloadN X4.here hx rfl (hb hby d19_10) rfl k))) ?_
  have hc11 : (1 : Int32) < (2 : Int32) := by decide
  refine Goes.pre (U' := T4.setTop (mkF m 19 #[.val (.ref d), .val (.int (1 : Int32)), .val (.int (2 : Int32)), .val (.ref r1), .val (.int (1 : Int32))] [(.int (1 : Int32)), (.ref d), (.int (1 : Int32)), (.ref r1)])) (fun t k => XS.icmpNo X4.here hx rfl (hb hby d19_11) rfl (tlt hc11).2.1 (XS.aloadN X4.here hx rfl (hb hby d19_14) rfl rfl (XS.iload X4.here hx rfl (hb hby d19_15) rfl (XS.aloadN X4.here hx rfl (hb hby d19_17) rfl rfl (XS.iloadN X4.here hx rfl (hb hby d19_18) rfl k))))) ?_
  obtain ⟨cl6, Ar6, q6, Sz6, Ng6, Hs6, Ft6⟩ := id V_d
  have hin6 := inb_of (j := (1 : Int32)) Sz6 ⟨by decide, by decide⟩
  refine Goes.pre (U' := T4.setTop (mkF m 20 #[.val (.ref d), .val (.int (1 : Int32)), .val (.int (2 : Int32)), .val (.ref r1), .val (.int (1 : Int32))] [(.int c1), (.int (1 : Int32)), (.ref r1)])) (fun t k => X4.caload hx (j := (1 : Int32)) (v := (.int c1)) Ar6.1 (State.isArrayOf_alike hZ.alike Ar6.2.1) Ar6.2.2 hin6 (Has.at Hs6 hin6 rfl) (g := (mkF m 19 #[.val (.ref d), .val (.int (1 : Int32)), .val (.int (2 : Int32)), .val (.ref r1), .val (.int (1 : Int32))] [(.int (1 : Int32)), (.ref d), (.int (1 : Int32)), (.ref r1)])) rfl rfl (hb hby d19_19) _ k) ?_
  obtain ⟨_, _, ⟨T7, L7, k7, n7⟩, -, X7, ⟨Lc7, hQ7, l7, y7, z7⟩, st7⟩ := Jvm.LawKit.callS X4 hx (y := (⟨"java/lang/StringUTF16", "putChar", "([BII)V"⟩ : MethodName)) hown (mvT hZ (wq hw 100 rfl)) (mvT hZ (wq hw 101 rfl)) (mvT hZ (wq hw 51 rfl)) (mvT hZ (wq hw 102 rfl)) (by decide) (backOf (W := 0) (rm_putCh21 l Z a0 hw [] r1 kr1 c1 (c0 >>> ((0 : Int32) &&& 31)).toInt8.toInt32 (c0 >>> ((8 : Int32) &&& 31)).toInt8.toInt32 (0 : Int32) (0 : Int32) T4.heap n0 Z5 V_r1 S__assertionsDisabled S_HI_BYTE_SHIFT S_LO_BYTE_SHIFT g_r1 O) hZ (wq hw 102 rfl) (wq hw 51 rfl) (by decide) (by decide)) (g := (mkF m 20 #[.val (.ref d), .val (.int (1 : Int32)), .val (.int (2 : Int32)), .val (.ref r1), .val (.int (1 : Int32))] [(.int c1), (.int (1 : Int32)), (.ref r1)])) rfl (by rw [hml]; rfl) (argsL := [(.ref r1), (.int (1 : Int32)), (.int c1)]) (rest := []) (lenOf pd__28_5bBII_29V rfl) rfl (by show 2 * 0 + _ ≤ _; exact Nat.le_of_eq rfl) (hb hby d19_20) (fun _ _ => ⟨rfl, rfl, (by decide : 1 + 0 ≤ _), (by decide : 4 + 0 ≤ _)⟩)
  dsimp only [Pt.U, Pt.locs, Pt.cells, Pt.slots] at X7 l7 y7 z7 st7 hQ7
  subst l7 y7 z7
  obtain ⟨rfl, N7q, KQ7, fo0_7⟩ := hQ7
  have N7 := Fr.app N4 N7q
  have V_d := V_d.keep KQ7 (ninS ne_d_r1 nin0)
  have Z8 : n0 ≤ T7.heap.size := Nat.le_trans Z5 KQ7.1
  have O := O.keep KQ7 (allS (P := fun x => n0 ≤ x) g_r1 all0)
  have K8 := K5.trans KQ7 (allS (P := fun x => x ∈ [] ∨ h0.size ≤ x) (Or.inr sz_r1) all0)
  have V_r1 := fo0_7
  refine Goes.pre (U' := T7.setTop (mkF m 26 #[.val (.ref d), .val (.int ((1 : Int32) + (1 : Int32))), .val (.int (2 : Int32)), .val (.ref r1), .val (.int (1 : Int32))] [])) (fun t k => st7 t (XT.iincV X7.here hx rfl (1 : Int32) (hb hby d19_23) (by decide) rfl (l' := #[.val (.ref d), .val (.int ((1 : Int32) + (1 : Int32))), .val (.int (2 : Int32)), .val (.ref r1), .val (.int (1 : Int32))]) rfl k)) ?_
  rw [(by decide : ((1 : Int32) + (1 : Int32)) = (2 : Int32))]
  refine Goes.pre (U' := T7.setTop (mkF m 29 #[.val (.ref d), .val (.int (2 : Int32)), .val (.int (2 : Int32)), .val (.ref r1), .val (.int ((1 : Int32) + (1 : Int32)))] [])) (fun t k => XT.iincV X7.here hx rfl (1 : Int32) (hb hby d19_26) (by decide) rfl (l' := #[.val (.ref d), .val (.int (2 : Int32)), .val (.int (2 : Int32)), .val (.ref r1), .val (.int ((1 : Int32) + (1 : Int32)))]) rfl k) ?_
  rw [(by decide : ((1 : Int32) + (1 : Int32)) = (2 : Int32))]
  refine Goes.pre (U' := T7.setTop (mkF m 11 #[.val (.ref d), .val (.int (2 : Int32)), .val (.int (2 : Int32)), .val (.ref r1), .val (.int (2 : Int32))] [(.int (2 : Int32)), (.int (2 : Int32))])) (fun t k => XS.goto X7.here hx rfl (pc0 := 29) (pc' := 8) rfl (hb hby d19_29) (by decide) (by decide) (XS.iload X7.here hx rfl (hb hby d19_8) rfl (XS.iloadN X7.here hx rfl (hb hby d19_10) rfl k))) ?_
  have hc11 : ¬ ((2 : Int32) < (2 : Int32)) := by decide
  refine Goes.pre (U' := T7.setTop (mkF m 33 #[.val (.ref d), .val (.int (2 : Int32)), .val (.int (2 : Int32)), .val (.ref r1), .val (.int (2 : Int32))] [(.ref r1)])) (fun t k => XS.icmpYes X7.here hx rfl (pc0 := 11) (pc' := 32) rfl (hb hby d19_11) rfl (flt hc11).2.1 (by decide) (by decide) (XS.aloadN X7.here hx rfl (hb hby d19_32) rfl rfl k)) ?_
  refine Goes.ret X7 (v := (some (.ref r1))) (fun h => by rw [hret] at h; cases h) hlk (by decide) (by decide) rfl (fun fs hr => retOut X7 hx hret rfl (Or.inr (Or.inr (Or.inr (Or.inr ⟨rfl, rfl, rfl⟩)))) (hb hby d19_33) hr) ?_
  exact ⟨r1, kr1, rfl, N7, K8, V_r1, g_r1, sz_r1⟩
theorem ef_rm_cmpI20 (m : MethodId) (x0 : Addr) (x1 : Int32) (x2 : Addr) (x3 : Int32) (x4 : Int32) : entryFrame m #[(.ref x0), (.int x1), (.ref x2), (.int x3), (.int x4)] 7 = mkF m 0 #[.val (.ref x0), .val (.int x1), .val (.ref x2), .val (.int x3), .val (.int x4), .unset, .unset] [] := by first | (simp [entryFrame, mkF, argsToLocals, Value.category]; done) | rfl
def Q_rm_cmpI20 (Z : State) (d : Addr) (kd : ClassId) (c0 : Int32) (c1 : Int32) (b : Addr) (kb : ClassId) (h0 : Heap) (n0 : Nat) (v : Option Value) (h : Heap) (L : List Loc) : Prop := v = some (.int (0 : Int32)) ∧ Fr n0 L ∧ Keep h0 h [b] ∧ Arv Z h b kb .byte (2 : Int32) [(.int (0 : Int32)), (.int (0 : Int32))] (.int (0 : Int32))
set_option maxRecDepth 65536 in
set_option maxHeartbeats 40000000 in
theorem rm_cmpI20 (l : Launch) (Z : State) (a0 : Array Value) (hw : ∀ d ∈ tables_1, d.before a0 Z = true) (ws : List Jvm.Cond) (d : Addr) (kd : ClassId) (c0 : Int32) (c1 : Int32) (b : Addr) (kb : ClassId) (h0 : Heap) (n0 : Nat) (Z0 : n0 ≤ h0.size) (V_d : Arv Z h0 d kd .char (2 : Int32) [(.int c0), (.int c1)] (.int (0 : Int32))) (V_b : Arv Z h0 b kb .byte (2 : Int32) [(.int (0 : Int32)), (.int (0 : Int32))] (.int (0 : Int32))) (hgt : (255 : Int32) < c0) (ne_d_b : d ≠ b) (g_b : n0 ≤ b) :
    Met l Z M10 jdk_52_method_21_code 7 (some .int) ws (Rm 0 0 0 0) #[(.ref d), (.int (0 : Int32)), (.ref b), (.int (0 : Int32)), (.int (2 : Int32))] h0 (Q_rm_cmpI20 Z d kd c0 c1 b kb h0 n0) := by
  refine met_of (plainFor_of_name pn_java_lang_StringUTF16) (own := "java/lang/StringUTF16") rfl (fun m => ef_rm_cmpI20 m d (0 : Int32) b (0 : Int32) (2 : Int32)) ?_
  intro p e s m below meth c s₁ hx hby hml hown hnm hZ X0 e0 hret hlk
  have N0 := Fr.nil n0
  have K0 := Keep.refl h0 [b]
  show Goes p e below s _ _ _ (s₁.setTop (mkF m 0 #[.val (.ref d), .val (.int (0 : Int32)), .val (.ref b), .val (.int (0 : Int32)), .val (.int (2 : Int32)), .unset, .unset] []))
  refine Goes.pre (U' := s₁.setTop (mkF m 7 #[.val (.ref d), .val (.int (0 : Int32)), .val (.ref b), .val (.int (0 : Int32)), .val (.int (2 : Int32)), .val (.int (0 : Int32)), .unset] [(.int (2 : Int32)), (.int (0 : Int32))])) (fun t k => XS.iconst X0.here hx rfl (hb hby d10_0) (XS.istore X0.here hx rfl (hb hby d10_1) rfl (l' := #[.val (.ref d), .val (.int (0 : Int32)), .val (.ref b), .val (.int (0 : Int32)), .val (.int (2 : Int32)), .val (.int (0 : Int32)), .unset]) rfl (XS.iload X0.here hx rfl (hb hby d10_3) rfl (XS.iload X0.here hx rfl (hb hby d10_5) rfl k)))) ?_
  have hc7 : (0 : Int32) < (2 : Int32) := by decide
  refine Goes.pre (U' := s₁.setTop (mkF m 12 #[.val (.ref d), .val (.int (0 : Int32)), .val (.ref b), .val (.int (0 : Int32)), .val (.int (2 : Int32)), .val (.int (0 : Int32)), .unset] [(.int (0 : Int32)), (.ref d)])) (fun t k => XS.icmpNo X0.here hx rfl (hb hby d10_7) rfl (tlt hc7).2.1 (XS.aloadN X0.here hx rfl (hb hby d10_10) rfl rfl (XS.iloadN X0.here hx rfl (hb hby d10_11) rfl k))) ?_
  obtain ⟨cl1, Ar1, q1, Sz1, Ng1, Hs1, Ft1⟩ := id V_d
  have hin1 := inb_of (j := (0 : Int32)) Sz1 ⟨by decide, by decide⟩
  refine Goes.pre (U' := s₁.setTop (mkF m 20 #[.val (.ref d), .val (.int (0 : Int32)), .val (.ref b), .val (.int (0 : Int32)), .val (.int (2 : Int32)), .val (.int (0 : Int32)), .val (.int c0)] [(.int (255 : Int32)), (.int c0)])) (fun t k => X0.caload hx (j := (0 : Int32)) (v := (.int c0)) (by rw [e0]; exact Ar1.1) (State.isArrayOf_alike hZ.alike Ar1.2.1) Ar1.2.2 hin1 (Has.at Hs1 hin1 rfl) (g := (mkF m 12 #[.val (.ref d), .val (.int (0 : Int32)), .val (.ref b), .val (.int (0 : Int32)), .val (.int (2 : Int32)), .val (.int (0 : Int32)), .unset] [(.int (0 : Int32)), (.ref d)])) rfl rfl (hb hby d10_12) _ (XS.istore X0.here hx rfl (hb hby d10_13) rfl (l' := #[.val (.ref d), .val (.int (0 : Int32)), .val (.ref b), .val (.int (0 : Int32)), .val (.int (2 : Int32)), .val (.int (0 : Int32)), .val (.int c0)]) rfl (XS.iload X0.here hx rfl (hb hby d10_15) rfl (XS.sipush X0.here hx rfl (hb hby d10_17) k)))) ?_
  have hc20 : (255 : Int32) < c0 := hgt
  refine Goes.pre (U' := s₁.setTop (mkF m 25 #[.val (.ref d), .val (.int (0 : Int32)), .val (.ref b), .val (.int (0 : Int32)), .val (.int (2 : Int32)), .val (.int (0 : Int32)), .val (.int c0)] [(.int (0 : Int32))])) (fun t k => XS.icmpNo X0.here hx rfl (hb hby d10_20) rfl (tlt hc20).2.2.2 (XS.iload X0.here hx rfl (hb hby d10_23) rfl k)) ?_
  refine Goes.ret X0 (v := (some (.int (0 : Int32)))) (fun h => by rw [hret] at h; cases h) hlk (by decide) (by decide) e0 (fun fs hr => retI X0 hx hret (hb hby d10_25) hr) ?_
  exact ⟨rfl, N0, K0, V_b⟩
theorem ef_rm_cmp20 (m : MethodId) (x0 : Addr) (x1 : Int32) (x2 : Int32) : entryFrame m #[(.ref x0), (.int x1), (.int x2)] 6 = mkF m 0 #[.val (.ref x0), .val (.int x1), .val (.int x2), .unset, .unset, .unset] [] := by first | (simp [entryFrame, mkF, argsToLocals, Value.category]; done) | rfl
def Q_rm_cmp20 (Z : State) (d : Addr) (kd : ClassId) (c0 : Int32) (c1 : Int32) (h0 : Heap) (n0 : Nat) (v : Option Value) (h : Heap) (L : List Loc) : Prop := ∃ (r : Addr) (kr : ClassId), v = some (.ref r) ∧ Fr n0 L ∧ Keep h0 h [] ∧ Arv Z h r kr .byte (4 : Int32) [(.int (c0 >>> ((0 : Int32) &&& 31)).toInt8.toInt32), (.int (c0 >>> ((8 : Int32) &&& 31)).toInt8.toInt32), (.int (c1 >>> ((0 : Int32) &&& 31)).toInt8.toInt32), (.int (c1 >>> ((8 : Int32) &&& 31)).toInt8.toInt32)] (.int (0 : Int32)) ∧ n0 ≤ r ∧ h0.size ≤ r
set_option maxRecDepth 65536 in
set_option maxHeartbeats 40000000 in
theorem rm_cmp20 (l : Launch) (Z : State) (a0 : Array Value) (hw : ∀ d ∈ tables_1, d.before a0 Z = true) (ws : List Jvm.Cond) (d : Addr) (kd : ClassId) (c0 : Int32) (c1 : Int32) (h0 : Heap) (n0 : Nat) (Z0 : n0 ≤ h0.size) (V_d : Arv Z h0 d kd .char (2 : Int32) [(.int c0), (.int c1)] (.int (0 : Int32))) (S__assertionsDisabled : Sta Z Z.heap "java/lang/StringUTF16" "$assertionsDisabled" "Z" (.int (1 : Int32))) (S_HI_BYTE_SHIFT : Sta Z Z.heap "java/lang/StringUTF16" "HI_BYTE_SHIFT" "I" (.int (0 : Int32))) (S_LO_BYTE_SHIFT : Sta Z Z.heap "java/lang/StringUTF16" "LO_BYTE_SHIFT" "I" (.int (8 : Int32))) (hgt : (255 : Int32) < c0) (hch : OwnCh c0) (O : Old Z n0 h0) :
    Met l Z M9 jdk_52_method_16_code 6 (some (.array .byte)) ws (Rm 3 2 6 40) #[(.ref d), (.int (0 : Int32)), (.int (2 : Int32))] h0 (Q_rm_cmp20 Z d kd c0 c1 h0 n0) := by
  refine met_of (plainFor_of_name pn_java_lang_StringUTF16) (own := "java/lang/StringUTF16") rfl (fun m => ef_rm_cmp20 m d (0 : Int32) (2 : Int32)) ?_
  intro p e s m below meth c s₁ hx hby hml hown hnm hZ X0 e0 hret hlk
  have N0 := Fr.nil n0
  have K0 := Keep.refl h0 []
  show Goes p e below s _ _ _ (s₁.setTop (mkF m 0 #[.val (.ref d), .val (.int (0 : Int32)), .val (.int (2 : Int32)), .unset, .unset, .unset] []))
  refine Goes.pre (U' := s₁.setTop (mkF m 1 #[.val (.ref d), .val (.int (0 : Int32)), .val (.int (2 : Int32)), .unset, .unset, .unset] [(.int (2 : Int32))])) (fun t k => XS.iloadN X0.here hx rfl (hb hby d9_0) rfl k) ?_
  obtain ⟨T1, h1, k1, X1, e1, E1, A1, B1, st1⟩ := newPE X0 hx hZ (wq hw 23 rfl) e0 (g := (mkF m 1 #[.val (.ref d), .val (.int (0 : Int32)), .val (.int (2 : Int32)), .unset, .unset, .unset] [(.int (2 : Int32))])) rfl (hb hby d9_1) rfl (by decide) (cap := 2) (by decide) (by decide) (by decide) (by decide) (ad := "[B") (by decide)
  obtain ⟨nb1, g1⟩ : ∃ z, z = h0.size := ⟨_, rfl⟩
  rw [← g1] at A1 B1 st1
  have ne_d_nb1 : d ≠ nb1 := Nat.ne_of_lt (Nat.lt_of_lt_of_le V_d.lt (Nat.le_of_eq g1.symm))
  have ne_nb1_d := ne_d_nb1.symm
  have g_nb1 : n0 ≤ nb1 := Nat.le_trans Z0 (Nat.le_of_eq g1.symm)
  have sz_nb1 : h0.size ≤ nb1 := Nat.le_trans K0.1 (Nat.le_of_eq g1.symm)
  have V_d := V_d.ext E1
  have O := O.ext E1
  have Z1 : n0 ≤ h1.size := Nat.le_trans Z0 E1.1
  have K1 := K0.ext E1
  have E_nb1 := B1
  have V_nb1 : Arv Z h1 nb1 k1 .byte (2 : Int32) [(.int (0 : Int32)), (.int (0 : Int32))] (.int (0 : Int32)) := (Arv.new A1 (by decide)).pad (pad_rep [] (.int (0 : Int32)) 2)
  refine Goes.pre (U' := T1.setTop (mkF m 9 #[.val (.ref d), .val (.int (0 : Int32)), .val (.int (2 : Int32)), .val (.ref nb1), .unset, .unset] [(.int (2 : Int32)), (.int (0 : Int32)), (.ref nb1), (.int (0 : Int32)), (.ref d)])) (fun t k => st1 t (XS.astoreN X1.here hx rfl (hb hby d9_3) rfl rfl (l' := #[.val (.ref d), .val (.int (0 : Int32)), .val (.int (2 : Int32)), .val (.ref nb1), .unset, .unset]) rfl (XS.aloadN X1.here hx rfl (hb hby d9_4) rfl rfl (XS.iloadN X1.here hx rfl (hb hby d9_5) rfl (XS.aloadN X1.here hx rfl (hb hby d9_6) rfl rfl (XS.iconst X1.here hx rfl (hb hby d9_7) (XS.iloadN X1.here hx rfl (hb hby d9_8) rfl k))))))) ?_
  obtain ⟨_, _, ⟨T2, L2, k2, n2⟩, -, X2, ⟨Lc2, hQ2, l2, y2, z2⟩, st2⟩ := Jvm.LawKit.callS X1 hx (y := (⟨"java/lang/StringUTF16", "compress", "([CI[BII)I"⟩ : MethodName)) hown (mvT hZ (wq hw 53 rfl)) (mvT hZ (wq hw 54 rfl)) (mvT hZ (wq hw 51 rfl)) (mvT hZ (wq hw 55 rfl)) (by decide) (backOf (W := 0) (rm_cmpI20 l Z a0 hw [] d kd c0 c1 nb1 k1 h1 n0 Z1 V_d V_nb1 hgt ne_d_nb1 g_nb1) hZ (wq hw 55 rfl) (wq hw 51 rfl) (by decide) (by decide)) (g := (mkF m 9 #[.val (.ref d), .val (.int (0 : Int32)), .val (.int (2 : Int32)), .val (.ref nb1), .unset, .unset] [(.int (2 : Int32)), (.int (0 : Int32)), (.ref nb1), (.int (0 : Int32)), (.ref d)])) rfl (by rw [hml]; rfl) (argsL := [(.ref d), (.int (0 : Int32)), (.ref nb1), (.int (0 : Int32)), (.int (2 : Int32))]) (rest := []) (lenOf pd__28_5bCI_5bBII_29I rfl) rfl (by show 2 * 0 + _ ≤ _; exact Nat.le_of_eq rfl) (hb hby d9_9) (fun _ _ => ⟨rfl, e1, (by decide : 1 + 0 ≤ _), (by decide : 2 + 0 ≤ _)⟩)
  dsimp only [Pt.U, Pt.locs, Pt.cells, Pt.slots] at X2 l2 y2 z2 st2 hQ2
  subst l2 y2 z2
  obtain ⟨rfl, N2q, KQ2, fo0_2⟩ := hQ2
  have N2 := Fr.app N0 N2q
  have V_d := V_d.keep KQ2 (ninS ne_d_nb1 nin0)
  have E_nb1 := E_nb1.keep KQ2
  have Z3 : n0 ≤ T2.heap.size := Nat.le_trans Z1 KQ2.1
  have O := O.keep KQ2 (allS (P := fun x => n0 ≤ x) g_nb1 all0)
  have K3 := K1.trans KQ2 (allS (P := fun x => x ∈ [] ∨ h0.size ≤ x) (Or.inr sz_nb1) all0)
  have V_nb1 := fo0_2
  refine Goes.pre (U' := T2.setTop (mkF m 17 #[.val (.ref d), .val (.int (0 : Int32)), .val (.int (2 : Int32)), .val (.ref nb1), .val (.int (0 : Int32)), .unset] [(.int (2 : Int32)), (.int (0 : Int32))])) (fun t k => st2 t (XS.istore X2.here hx rfl (hb hby d9_12) rfl (l' := #[.val (.ref d), .val (.int (0 : Int32)), .val (.int (2 : Int32)), .val (.ref nb1), .val (.int (0 : Int32)), .unset]) rfl (XS.iload X2.here hx rfl (hb hby d9_14) rfl (XS.iloadN X2.here hx rfl (hb hby d9_16) rfl k)))) ?_
  have hc17 : ¬ ((0 : Int32) = (2 : Int32)) := by decide
  refine Goes.pre (U' := T2.setTop (mkF m 23 #[.val (.ref d), .val (.int (0 : Int32)), .val (.int (2 : Int32)), .val (.ref nb1), .val (.int (0 : Int32)), .unset] [(.int (2 : Int32)), (.int (0 : Int32)), (.ref d)])) (fun t k => XS.icmpNo X2.here hx rfl (hb hby d9_17) rfl (feq hc17).1 (XS.aloadN X2.here hx rfl (hb hby d9_20) rfl rfl (XS.iloadN X2.here hx rfl (hb hby d9_21) rfl (XS.iloadN X2.here hx rfl (hb hby d9_22) rfl k)))) ?_
  have lt_d := V_d.lt
  have lt_nb1 := E_nb1.lt
  obtain ⟨_, _, ⟨T4, L4, k4, n4⟩, -, X4, ⟨Lc4, hQ4, l4, y4, z4⟩, st4⟩ := Jvm.LawKit.callS X2 hx (y := (⟨"java/lang/StringUTF16", "toBytes", "([CII)[B"⟩ : MethodName)) hown (mvT hZ (wq hw 90 rfl)) (mvT hZ (wq hw 91 rfl)) (mvT hZ (wq hw 51 rfl)) (mvT hZ (wq hw 92 rfl)) (by decide) (backOf (W := 0) (rm_toB2 l Z a0 hw [] d kd c0 c1 T2.heap n0 Z3 V_d S__assertionsDisabled S_HI_BYTE_SHIFT S_LO_BYTE_SHIFT O) hZ (wq hw 92 rfl) (wq hw 51 rfl) (by decide) (by decide)) (g := (mkF m 23 #[.val (.ref d), .val (.int (0 : Int32)), .val (.int (2 : Int32)), .val (.ref nb1), .val (.int (0 : Int32)), .unset] [(.int (2 : Int32)), (.int (0 : Int32)), (.ref d)])) rfl (by rw [hml]; rfl) (argsL := [(.ref d), (.int (0 : Int32)), (.int (2 : Int32))]) (rest := []) (lenOf pd__28_5bCII_29_5bB rfl) rfl (by show 2 * 0 + _ ≤ _; exact Nat.le_of_eq rfl) (hb hby d9_23) (fun _ _ => ⟨rfl, rfl, (by decide : 1 + 1 ≤ _), (by decide : 2 + 4 ≤ _)⟩)
  dsimp only [Pt.U, Pt.locs, Pt.cells, Pt.slots] at X4 l4 y4 z4 st4 hQ4
  subst l4 y4 z4
  obtain ⟨r4, kr4, rfl, N4q, KQ4, fo0_4, g_r4, sl_r4⟩ := hQ4
  have N4 := Fr.app N2 N4q
  have V_d := V_d.keep KQ4 nin0
  have E_nb1 := E_nb1.keep KQ4
  have V_nb1 := V_nb1.keep KQ4 nin0
  have Z5 : n0 ≤ T4.heap.size := Nat.le_trans Z3 KQ4.1
  have O := O.keep KQ4 all0
  have K5 := K3.trans KQ4 all0
  have ne_d_r4 : d ≠ r4 := Nat.ne_of_lt (Nat.lt_of_lt_of_le lt_d sl_r4)
  have ne_r4_d := ne_d_r4.symm
  have ne_nb1_r4 : nb1 ≠ r4 := Nat.ne_of_lt (Nat.lt_of_lt_of_le lt_nb1 sl_r4)
  have ne_r4_nb1 := ne_nb1_r4.symm
  have sz_r4 : h0.size ≤ r4 := Nat.le_trans K3.1 sl_r4
  have V_r4 := fo0_4
  refine Goes.pre (U' := T4.setTop (mkF m 32 #[.val (.ref d), .val (.int (0 : Int32)), .val (.int (2 : Int32)), .val (.ref nb1), .val (.int (0 : Int32)), .val (.ref r4)] [(.int (0 : Int32)), (.ref r4)])) (fun t k => st4 t (XS.astore X4.here hx rfl (hb hby d9_26) rfl rfl (l' := #[.val (.ref d), .val (.int (0 : Int32)), .val (.int (2 : Int32)), .val (.ref nb1), .val (.int (0 : Int32)), .val (.ref r4)]) rfl (XS.aload X4.here hx rfl (hb hby d9_28) rfl rfl (XS.iload X4.here hx rfl (hb hby d9_30) rfl k)))) ?_
  obtain ⟨_, _, ⟨T6, L6, k6, n6⟩, -, X6, ⟨Lc6, hQ6, l6, y6, z6⟩, st6⟩ := Jvm.LawKit.callS X4 hx (y := (⟨"java/lang/StringUTF16", "getChar", "([BI)C"⟩ : MethodName)) hown (mvT hZ (wq hw 106 rfl)) (mvT hZ (wq hw 107 rfl)) (mvT hZ (wq hw 51 rfl)) (mvT hZ (wq hw 108 rfl)) (by decide) (backOf (W := 0) (rm_getCh20 l Z a0 hw [] r4 kr4 c0 c1 T4.heap n0 Z5 V_r4 S__assertionsDisabled S_HI_BYTE_SHIFT S_LO_BYTE_SHIFT hch O) hZ (wq hw 108 rfl) (wq hw 51 rfl) (by decide) (by decide)) (g := (mkF m 32 #[.val (.ref d), .val (.int (0 : Int32)), .val (.int (2 : Int32)), .val (.ref nb1), .val (.int (0 : Int32)), .val (.ref r4)] [(.int (0 : Int32)), (.ref r4)])) rfl (by rw [hml]; rfl) (argsL := [(.ref r4), (.int (0 : Int32))]) (rest := []) (lenOf pd__28_5bBI_29C rfl) rfl (by show 2 * 0 + _ ≤ _; exact Nat.le_of_eq rfl) (hb hby d9_32) (fun _ _ => ⟨rfl, rfl, (by decide : 2 + 0 ≤ _), (by decide : 6 + 0 ≤ _)⟩)
  dsimp only [Pt.U, Pt.locs, Pt.cells, Pt.slots] at X6 l6 y6 z6 st6 hQ6
  subst l6 y6 z6
  obtain ⟨rfl, N6q, HQ6⟩ := hQ6
  have N6 := Fr.app N4 N6q
  refine Goes.pre (U' := T6.setTop (mkF m 38 #[.val (.ref d), .val (.int (0 : Int32)), .val (.int (2 : Int32)), .val (.ref nb1), .val (.int (0 : Int32)), .val (.ref r4)] [(.int (255 : Int32)), (.int c0)])) (fun t k => st6 t (XS.sipush X6.here hx rfl (hb hby d9_35) k)) ?_
  have hc38 : (255 : Int32) < c0 := hgt
  refine Goes.pre (U' := T6.setTop (mkF m 56 #[.val (.ref d), .val (.int (0 : Int32)), .val (.int (2 : Int32)), .val (.ref nb1), .val (.int (0 : Int32)), .val (.ref r4)] [(.ref r4)])) (fun t k => XS.icmpYes X6.here hx rfl (pc0 := 38) (pc' := 54) rfl (hb hby d9_38) rfl (tlt hc38).2.2.1 (by decide) (by decide) (XS.aload X6.here hx rfl (hb hby d9_54) rfl rfl k)) ?_
  refine Goes.ret X6 (v := (some (.ref r4))) (fun h => by rw [hret] at h; cases h) hlk (by decide) (by decide) HQ6 (fun fs hr => retOut X6 hx hret rfl (Or.inr (Or.inr (Or.inr (Or.inr ⟨rfl, rfl, rfl⟩)))) (hb hby d9_56) hr) ?_
  exact ⟨r4, kr4, rfl, N6, K5, V_r4, g_r4, sz_r4⟩
theorem ef_rm_cmpI21 (m : MethodId) (x0 : Addr) (x1 : Int32) (x2 : Addr) (x3 : Int32) (x4 : Int32) : entryFrame m #[(.ref x0), (.int x1), (.ref x2), (.int x3), (.int x4)] 7 = mkF m 0 #[.val (.ref x0), .val (.int x1), .val (.ref x2), .val (.int x3), .val (.int x4), .unset, .unset] [] := by first | (simp [entryFrame, mkF, argsToLocals, Value.category]; done) | rfl
def Q_rm_cmpI21 (Z : State) (d : Addr) (kd : ClassId) (c0 : Int32) (c1 : Int32) (b : Addr) (kb : ClassId) (h0 : Heap) (n0 : Nat) (v : Option Value) (h : Heap) (L : List Loc) : Prop := v = some (.int (1 : Int32)) ∧ Fr n0 L ∧ Keep h0 h [b] ∧ Arv Z h b kb .byte (2 : Int32) [(.int c0.toInt8.toInt32), (.int (0 : Int32))] (.int (0 : Int32))
set_option maxRecDepth 65536 in
set_option maxHeartbeats 40000000 in
theorem rm_cmpI21 (l : Launch) (Z : State) (a0 : Array Value) (hw : ∀ d ∈ tables_1, d.before a0 Z = true) (ws : List Jvm.Cond) (d : Addr) (kd : ClassId) (c0 : Int32) (c1 : Int32) (b : Addr) (kb : ClassId) (h0 : Heap) (n0 : Nat) (Z0 : n0 ≤ h0.size) (V_d : Arv Z h0 d kd .char (2 : Int32) [(.int c0), (.int c1)] (.int (0 : Int32))) (V_b : Arv Z h0 b kb .byte (2 : Int32) [(.int (0 : Int32)), (.int (0 : Int32))] (.int (0 : Int32))) (hle0 : ¬ ((255 : Int32) < c0)) (hgt : (255 : Int32) < c1) (ne_d_b : d ≠ b) (g_b : n0 ≤ b) :
    Met l Z M10 jdk_52_method_21_code 7 (some .int) ws (Rm 0 0 0 0) #[(.ref d), (.int (0 : Int32)), (.ref b), (.int (0 : Int32)), (.int (2 : Int32))] h0 (Q_rm_cmpI21 Z d kd c0 c1 b kb h0 n0) := by
  refine met_of (plainFor_of_name pn_java_lang_StringUTF16) (own := "java/lang/StringUTF16") rfl (fun m => ef_rm_cmpI21 m d (0 : Int32) b (0 : Int32) (2 : Int32)) ?_
  intro p e s m below meth c s₁ hx hby hml hown hnm hZ X0 e0 hret hlk
  have N0 := Fr.nil n0
  have K0 := Keep.refl h0 [b]
  show Goes p e below s _ _ _ (s₁.setTop (mkF m 0 #[.val (.ref d), .val (.int (0 : Int32)), .val (.ref b), .val (.int (0 : Int32)), .val (.int (2 : Int32)), .unset, .unset] []))
  refine Goes.pre (U' := s₁.setTop (mkF m 7 #[.val (.ref d), .val (.int (0 : Int32)), .val (.ref b), .val (.int (0 : Int32)), .val (.int (2 : Int32)), .val (.int (0 : Int32)), .unset] [(.int (2 : Int32)), (.int (0 : Int32))])) (fun t k => XS.iconst X0.here hx rfl (hb hby d10_0) (XS.istore X0.here hx rfl (hb hby d10_1) rfl (l' := #[.val (.ref d), .val (.int (0 : Int32)), .val (.ref b), .val (.int (0 : Int32)), .val (.int (2 : Int32)), .val (.int (0 : Int32)), .unset]) rfl (XS.iload X0.here hx rfl (hb hby d10_3) rfl (XS.iload X0.here hx rfl (hb hby d10_5) rfl k)))) ?_
  have hc7 : (0 : Int32) < (2 : Int32) := by decide
  refine Goes.pre (U' := s₁.setTop (mkF m 12 #[.val (.ref d), .val (.int (0 : Int32)), .val (.ref b), .val (.int (0 : Int32)), .val (.int (2 : Int32)), .val (.int (0 : Int32)), .unset] [(.int (0 : Int32)), (.ref d)])) (fun t k => XS.icmpNo X0.here hx rfl (hb hby d10_7) rfl (tlt hc7).2.1 (XS.aloadN X0.here hx rfl (hb hby d10_10) rfl rfl (XS.iloadN X0.here hx rfl (hb hby d10_11) rfl k))) ?_
  obtain ⟨cl1, Ar1, q1, Sz1, Ng1, Hs1, Ft1⟩ := id V_d
  have hin1 := inb_of (j := (0 : Int32)) Sz1 ⟨by decide, by decide⟩
  refine Goes.pre (U' := s₁.setTop (mkF m 20 #[.val (.ref d), .val (.int (0 : Int32)), .val (.ref b), .val (.int (0 : Int32)), .val (.int (2 : Int32)), .val (.int (0 : Int32)), .val (.int c0)] [(.int (255 : Int32)), (.int c0)])) (fun t k => X0.caload hx (j := (0 : Int32)) (v := (.int c0)) (by rw [e0]; exact Ar1.1) (State.isArrayOf_alike hZ.alike Ar1.2.1) Ar1.2.2 hin1 (Has.at Hs1 hin1 rfl) (g := (mkF m 12 #[.val (.ref d), .val (.int (0 : Int32)), .val (.ref b), .val (.int (0 : Int32)), .val (.int (2 : Int32)), .val (.int (0 : Int32)), .unset] [(.int (0 : Int32)), (.ref d)])) rfl rfl (hb hby d10_12) _ (XS.istore X0.here hx rfl (hb hby d10_13) rfl (l' := #[.val (.ref d), .val (.int (0 : Int32)), .val (.ref b), .val (.int (0 : Int32)), .val (.int (2 : Int32)), .val (.int (0 : Int32)), .val (.int c0)]) rfl (XS.iload X0.here hx rfl (hb hby d10_15) rfl (XS.sipush X0.here hx rfl (hb hby d10_17) k)))) ?_
  have hc20 : ¬ ((255 : Int32) < c0) := hle0
  refine Goes.pre (U' := s₁.setTop (mkF m 31 #[.val (.ref d), .val (.int (0 : Int32)), .val (.ref b), .val (.int (0 : Int32)), .val (.int (2 : Int32)), .val (.int (0 : Int32)), .val (.int c0)] [(.int (c0.toInt8.toInt32)), (.int (0 : Int32)), (.ref b)])) (fun t k => XS.icmpYes X0.here hx rfl (pc0 := 20) (pc' := 26) rfl (hb hby d10_20) rfl (flt hc20).2.2.2 (by decide) (by decide) (XS.aloadN X0.here hx rfl (hb hby d10_26) rfl rfl (XS.iloadN X0.here hx rfl (hb hby d10_27) rfl (XS.iload X0.here hx rfl (hb hby d10_28) rfl (XS.i2b X0.here hx rfl (hb hby d10_30) rfl k))))) ?_
  obtain ⟨cl2, Ar2, q2, Sz2, Ng2, Hs2, Ft2⟩ := id V_b
  obtain ⟨T2, h2, X2, e2, W2, st2⟩ := stB X0 hx hZ e0 Ar2 (j := (0 : Int32)) (inb_of Sz2 ⟨by decide, by decide⟩) (g := (mkF m 31 #[.val (.ref d), .val (.int (0 : Int32)), .val (.ref b), .val (.int (0 : Int32)), .val (.int (2 : Int32)), .val (.int (0 : Int32)), .val (.int c0)] [(.int (c0.toInt8.toInt32)), (.int (0 : Int32)), (.ref b)])) rfl rfl (hb hby d10_31)
  have nr2 : nar .byte (c0.toInt8.toInt32) = (c0.toInt8.toInt32) := own_bb _
  have ft2 : fits .byte (.int (c0.toInt8.toInt32)) = true := nr2 ▸ (fits_nar_byte (c0.toInt8.toInt32) : fits .byte (.int (nar .byte (c0.toInt8.toInt32))) = true)
  rw [nr2] at W2
  have V_d := V_d.other W2 ne_d_b
  have Z2 : n0 ≤ h2.size := Nat.le_trans Z0 (Keep.of_wr W2).1
  have V_b : Arv Z h2 b kb .byte (2 : Int32) [(.int (c0.toInt8.toInt32)), (.int (0 : Int32))] (.int (0 : Int32)) := Arv.set Ar2 q2 Sz2 Ng2 Hs2 Ft2 ft2 W2 0 rfl (Nat.le_of_ble_eq_true rfl)
  have K2 := K0.wr W2 (Or.inl (List.mem_of_getElem? (i := 0) rfl))
  have N2 := Fr.snoc X2 N0 g_b
  refine Goes.pre (U' := T2.setTop (mkF m 35 #[.val (.ref d), .val (.int ((0 : Int32) + (1 : Int32))), .val (.ref b), .val (.int (0 : Int32)), .val (.int (2 : Int32)), .val (.int (0 : Int32)), .val (.int c0)] [])) (fun t k => st2 t (XT.iincV X2.here hx rfl (1 : Int32) (hb hby d10_32) (by decide) rfl (l' := #[.val (.ref d), .val (.int ((0 : Int32) + (1 : Int32))), .val (.ref b), .val (.int (0 : Int32)), .val (.int (2 : Int32)), .val (.int (0 : Int32)), .val (.int c0)]) rfl k)) ?_
  rw [(by decide : ((0 : Int32) + (1 : Int32)) = (1 : Int32))]
  refine Goes.pre (U' := T2.setTop (mkF m 38 #[.val (.ref d), .val (.int (1 : Int32)), .val (.ref b), .val (.int ((0 : Int32) + (1 : Int32))), .val (.int (2 : Int32)), .val (.int (0 : Int32)), .val (.int c0)] [])) (fun t k => XT.iincV X2.here hx rfl (1 : Int32) (hb hby d10_35) (by decide) rfl (l' := #[.val (.ref d), .val (.int (1 : Int32)), .val (.ref b), .val (.int ((0 : Int32) + (1 : Int32))), .val (.int (2 : Int32)), .val (.int (0 : Int32)), .val (.int c0)]) rfl k) ?_
  rw [(by decide : ((0 : Int32) + (1 : Int32)) = (1 : Int32))]
  refine Goes.pre (U' := T2.setTop (mkF m 41 #[.val (.ref d), .val (.int (1 : Int32)), .val (.ref b), .val (.int (1 : Int32)), .val (.int (2 : Int32)), .val (.int ((0 : Int32) + (1 : Int32))), .val (.int c0)] [])) (fun t k => XT.iincV X2.here hx rfl (1 : Int32) (hb hby d10_38) (by decide) rfl (l' := #[.val (.ref d), .val (.int (1 : Int32)), .val (.ref b), .val (.int (1 : Int32)), .val (.int (2 : Int32)), .val (.int ((0 : Int32) + (1 : Int32))), .val (.int c0)]) rfl k) ?_
  rw [(by decide : ((0 : Int32) + (1 : Int32)) = (1 : Int32))]
  refine Goes.pre (U' := T2.setTop (mkF m 7 #[.val (.ref d), .val (.int (1 : Int32)), .val (.ref b), .val (.int (1 : Int32)), .val (.int (2 : Int32)), .val (.int (1 : Int32)), .val (.int c0)] [(.int (2 : Int32)), (.int (1 : Int32))])) (fun t k => XS.goto X2.here hx rfl (pc0 := 41) (pc' := 3) rfl (hb hby d10_41) (by decide) (by decide) (XS.iload X2.here hx rfl (hb hby d10_3) rfl (XS.iload X2.here hx rfl (hb hby d10_5) rfl k))) ?_
  have hc7 : (1 : Int32) < (2 : Int32) := by decide
  refine Goes.pre (U' := T2.setTop (mkF m 12 #[.val (.ref d), .val (.int (1 : Int32)), .val (.ref b), .val (.int (1 : Int32)), .val (.int (2 : Int32)), .val (.int (1 : Int32)), .val (.int c0)] [(.int (1 : Int32)), (.ref d)])) (fun t k => XS.icmpNo X2.here hx rfl (hb hby d10_7) rfl (tlt hc7).2.1 (XS.aloadN X2.here hx rfl (hb hby d10_10) rfl rfl (XS.iloadN X2.here hx rfl (hb hby d10_11) rfl k))) ?_
  obtain ⟨cl3, Ar3, q3, Sz3, Ng3, Hs3, Ft3⟩ := id V_d
  have hin3 := inb_of (j := (1 : Int32)) Sz3 ⟨by decide, by decide⟩
  refine Goes.pre (U' := T2.setTop (mkF m 20 #[.val (.ref d), .val (.int (1 : Int32)), .val (.ref b), .val (.int (1 : Int32)), .val (.int (2 : Int32)), .val (.int (1 : Int32)), .val (.int c1)] [(.int (255 : Int32)), (.int c1)])) (fun t k => X2.caload hx (j := (1 : Int32)) (v := (.int c1)) (by rw [e2]; exact Ar3.1) (State.isArrayOf_alike hZ.alike Ar3.2.1) Ar3.2.2 hin3 (Has.at Hs3 hin3 rfl) (g := (mkF m 12 #[.val (.ref d), .val (.int (1 : Int32)), .val (.ref b), .val (.int (1 : Int32)), .val (.int (2 : Int32)), .val (.int (1 : Int32)), .val (.int c0)] [(.int (1 : Int32)), (.ref d)])) rfl rfl (hb hby d10_12) _ (XS.istore X2.here hx rfl (hb hby d10_13) rfl (l' := #[.val (.ref d), .val (.int (1 : Int32)), .val (.ref b), .val (.int (1 : Int32)), .val (.int (2 : Int32)), .val (.int (1 : Int32)), .val (.int c1)]) rfl (XS.iload X2.here hx rfl (hb hby d10_15) rfl (XS.sipush X2.here hx rfl (hb hby d10_17) k)))) ?_
  have hc20 : (255 : Int32) < c1 := hgt
  refine Goes.pre (U' := T2.setTop (mkF m 25 #[.val (.ref d), .val (.int (1 : Int32)), .val (.ref b), .val (.int (1 : Int32)), .val (.int (2 : Int32)), .val (.int (1 : Int32)), .val (.int c1)] [(.int (1 : Int32))])) (fun t k => XS.icmpNo X2.here hx rfl (hb hby d10_20) rfl (tlt hc20).2.2.2 (XS.iload X2.here hx rfl (hb hby d10_23) rfl k)) ?_
  refine Goes.ret X2 (v := (some (.int (1 : Int32)))) (fun h => by rw [hret] at h; cases h) hlk (by decide) (by decide) e2 (fun fs hr => retI X2 hx hret (hb hby d10_25) hr) ?_
  exact ⟨rfl, N2, K2, V_b⟩
theorem ef_rm_cmp21 (m : MethodId) (x0 : Addr) (x1 : Int32) (x2 : Int32) : entryFrame m #[(.ref x0), (.int x1), (.int x2)] 6 = mkF m 0 #[.val (.ref x0), .val (.int x1), .val (.int x2), .unset, .unset, .unset] [] := by first | (simp [entryFrame, mkF, argsToLocals, Value.category]; done) | rfl
def Q_rm_cmp21 (Z : State) (d : Addr) (kd : ClassId) (c0 : Int32) (c1 : Int32) (h0 : Heap) (n0 : Nat) (v : Option Value) (h : Heap) (L : List Loc) : Prop := ∃ (r : Addr) (kr : ClassId), v = some (.ref r) ∧ Fr n0 L ∧ Keep h0 h [] ∧ Arv Z h r kr .byte (4 : Int32) [(.int (c0 >>> ((0 : Int32) &&& 31)).toInt8.toInt32), (.int (c0 >>> ((8 : Int32) &&& 31)).toInt8.toInt32), (.int (c1 >>> ((0 : Int32) &&& 31)).toInt8.toInt32), (.int (c1 >>> ((8 : Int32) &&& 31)).toInt8.toInt32)] (.int (0 : Int32)) ∧ n0 ≤ r ∧ h0.size ≤ r
set_option maxRecDepth 65536 in
set_option maxHeartbeats 40000000 in
theorem rm_cmp21 (l : Launch) (Z : State) (a0 : Array Value) (hw : ∀ d ∈ tables_1, d.before a0 Z = true) (ws : List Jvm.Cond) (d : Addr) (kd : ClassId) (c0 : Int32) (c1 : Int32) (h0 : Heap) (n0 : Nat) (Z0 : n0 ≤ h0.size) (V_d : Arv Z h0 d kd .char (2 : Int32) [(.int c0), (.int c1)] (.int (0 : Int32))) (S__assertionsDisabled : Sta Z Z.heap "java/lang/StringUTF16" "$assertionsDisabled" "Z" (.int (1 : Int32))) (S_HI_BYTE_SHIFT : Sta Z Z.heap "java/lang/StringUTF16" "HI_BYTE_SHIFT" "I" (.int (0 : Int32))) (S_LO_BYTE_SHIFT : Sta Z Z.heap "java/lang/StringUTF16" "LO_BYTE_SHIFT" "I" (.int (8 : Int32))) (hle0 : ¬ ((255 : Int32) < c0)) (hgt : (255 : Int32) < c1) (hch : OwnCh c1) (O : Old Z n0 h0) :
    Met l Z M9 jdk_52_method_16_code 6 (some (.array .byte)) ws (Rm 3 2 6 40) #[(.ref d), (.int (0 : Int32)), (.int (2 : Int32))] h0 (Q_rm_cmp21 Z d kd c0 c1 h0 n0) := by
  refine met_of (plainFor_of_name pn_java_lang_StringUTF16) (own := "java/lang/StringUTF16") rfl (fun m => ef_rm_cmp21 m d (0 : Int32) (2 : Int32)) ?_
  intro p e s m below meth c s₁ hx hby hml hown hnm hZ X0 e0 hret hlk
  have N0 := Fr.nil n0
  have K0 := Keep.refl h0 []
  show Goes p e below s _ _ _ (s₁.setTop (mkF m 0 #[.val (.ref d), .val (.int (0 : Int32)), .val (.int (2 : Int32)), .unset, .unset, .unset] []))
  refine Goes.pre (U' := s₁.setTop (mkF m 1 #[.val (.ref d), .val (.int (0 : Int32)), .val (.int (2 : Int32)), .unset, .unset, .unset] [(.int (2 : Int32))])) (fun t k => XS.iloadN X0.here hx rfl (hb hby d9_0) rfl k) ?_
  obtain ⟨T1, h1, k1, X1, e1, E1, A1, B1, st1⟩ := newPE X0 hx hZ (wq hw 23 rfl) e0 (g := (mkF m 1 #[.val (.ref d), .val (.int (0 : Int32)), .val (.int (2 : Int32)), .unset, .unset, .unset] [(.int (2 : Int32))])) rfl (hb hby d9_1) rfl (by decide) (cap := 2) (by decide) (by decide) (by decide) (by decide) (ad := "[B") (by decide)
  obtain ⟨nb1, g1⟩ : ∃ z, z = h0.size := ⟨_, rfl⟩
  rw [← g1] at A1 B1 st1
  have ne_d_nb1 : d ≠ nb1 := Nat.ne_of_lt (Nat.lt_of_lt_of_le V_d.lt (Nat.le_of_eq g1.symm))
  have ne_nb1_d := ne_d_nb1.symm
  have g_nb1 : n0 ≤ nb1 := Nat.le_trans Z0 (Nat.le_of_eq g1.symm)
  have sz_nb1 : h0.size ≤ nb1 := Nat.le_trans K0.1 (Nat.le_of_eq g1.symm)
  have V_d := V_d.ext E1
  have O := O.ext E1
  have Z1 : n0 ≤ h1.size := Nat.le_trans Z0 E1.1
  have K1 := K0.ext E1
  have E_nb1 := B1
  have V_nb1 : Arv Z h1 nb1 k1 .byte (2 : Int32) [(.int (0 : Int32)), (.int (0 : Int32))] (.int (0 : Int32)) := (Arv.new A1 (by decide)).pad (pad_rep [] (.int (0 : Int32)) 2)
  refine Goes.pre (U' := T1.setTop (mkF m 9 #[.val (.ref d), .val (.int (0 : Int32)), .val (.int (2 : Int32)), .val (.ref nb1), .unset, .unset] [(.int (2 : Int32)), (.int (0 : Int32)), (.ref nb1), (.int (0 : Int32)), (.ref d)])) (fun t k => st1 t (XS.astoreN X1.here hx rfl (hb hby d9_3) rfl rfl (l' := #[.val (.ref d), .val (.int (0 : Int32)), .val (.int (2 : Int32)), .val (.ref nb1), .unset, .unset]) rfl (XS.aloadN X1.here hx rfl (hb hby d9_4) rfl rfl (XS.iloadN X1.here hx rfl (hb hby d9_5) rfl (XS.aloadN X1.here hx rfl (hb hby d9_6) rfl rfl (XS.iconst X1.here hx rfl (hb hby d9_7) (XS.iloadN X1.here hx rfl (hb hby d9_8) rfl k))))))) ?_
  obtain ⟨_, _, ⟨T2, L2, k2, n2⟩, -, X2, ⟨Lc2, hQ2, l2, y2, z2⟩, st2⟩ := Jvm.LawKit.callS X1 hx (y := (⟨"java/lang/StringUTF16", "compress", "([CI[BII)I"⟩ : MethodName)) hown (mvT hZ (wq hw 53 rfl)) (mvT hZ (wq hw 54 rfl)) (mvT hZ (wq hw 51 rfl)) (mvT hZ (wq hw 55 rfl)) (by decide) (backOf (W := 0) (rm_cmpI21 l Z a0 hw [] d kd c0 c1 nb1 k1 h1 n0 Z1 V_d V_nb1 hle0 hgt ne_d_nb1 g_nb1) hZ (wq hw 55 rfl) (wq hw 51 rfl) (by decide) (by decide)) (g := (mkF m 9 #[.val (.ref d), .val (.int (0 : Int32)), .val (.int (2 : Int32)), .val (.ref nb1), .unset, .unset] [(.int (2 : Int32)), (.int (0 : Int32)), (.ref nb1), (.int (0 : Int32)), (.ref d)])) rfl (by rw [hml]; rfl) (argsL := [(.ref d), (.int (0 : Int32)), (.ref nb1), (.int (0 : Int32)), (.int (2 : Int32))]) (rest := []) (lenOf pd__28_5bCI_5bBII_29I rfl) rfl (by show 2 * 0 + _ ≤ _; exact Nat.le_of_eq rfl) (hb hby d9_9) (fun _ _ => ⟨rfl, e1, (by decide : 1 + 0 ≤ _), (by decide : 2 + 0 ≤ _)⟩)
  dsimp only [Pt.U, Pt.locs, Pt.cells, Pt.slots] at X2 l2 y2 z2 st2 hQ2
  subst l2 y2 z2
  obtain ⟨rfl, N2q, KQ2, fo0_2⟩ := hQ2
  have N2 := Fr.app N0 N2q
  have V_d := V_d.keep KQ2 (ninS ne_d_nb1 nin0)
  have E_nb1 := E_nb1.keep KQ2
  have Z3 : n0 ≤ T2.heap.size := Nat.le_trans Z1 KQ2.1
  have O := O.keep KQ2 (allS (P := fun x => n0 ≤ x) g_nb1 all0)
  have K3 := K1.trans KQ2 (allS (P := fun x => x ∈ [] ∨ h0.size ≤ x) (Or.inr sz_nb1) all0)
  have V_nb1 := fo0_2
  refine Goes.pre (U' := T2.setTop (mkF m 17 #[.val (.ref d), .val (.int (0 : Int32)), .val (.int (2 : Int32)), .val (.ref nb1), .val (.int (1 : Int32)), .unset] [(.int (2 : Int32)), (.int (1 : Int32))])) (fun t k => st2 t (XS.istore X2.here hx rfl (hb hby d9_12) rfl (l' := #[.val (.ref d), .val (.int (0 : Int32)), .val (.int (2 : Int32)), .val (.ref nb1), .val (.int (1 : Int32)), .unset]) rfl (XS.iload X2.here hx rfl (hb hby d9_14) rfl (XS.iloadN X2.here hx rfl (hb hby d9_16) rfl k)))) ?_
  have hc17 : ¬ ((1 : Int32) = (2 : Int32)) := by decide
  refine Goes.pre (U' := T2.setTop (mkF m 23 #[.val (.ref d), .val (.int (0 : Int32)), .val (.int (2 : Int32)), .val (.ref nb1), .val (.int (1 : Int32)), .unset] [(.int (2 : Int32)), (.int (0 : Int32)), (.ref d)])) (fun t k => XS.icmpNo X2.here hx rfl (hb hby d9_17) rfl (feq hc17).1 (XS.aloadN X2.here hx rfl (hb hby d9_20) rfl rfl (XS.iloadN X2.here hx rfl (hb hby d9_21) rfl (XS.iloadN X2.here hx rfl (hb hby d9_22) rfl k)))) ?_
  have lt_d := V_d.lt
  have lt_nb1 := E_nb1.lt
  obtain ⟨_, _, ⟨T4, L4, k4, n4⟩, -, X4, ⟨Lc4, hQ4, l4, y4, z4⟩, st4⟩ := Jvm.LawKit.callS X2 hx (y := (⟨"java/lang/StringUTF16", "toBytes", "([CII)[B"⟩ : MethodName)) hown (mvT hZ (wq hw 90 rfl)) (mvT hZ (wq hw 91 rfl)) (mvT hZ (wq hw 51 rfl)) (mvT hZ (wq hw 92 rfl)) (by decide) (backOf (W := 0) (rm_toB2 l Z a0 hw [] d kd c0 c1 T2.heap n0 Z3 V_d S__assertionsDisabled S_HI_BYTE_SHIFT S_LO_BYTE_SHIFT O) hZ (wq hw 92 rfl) (wq hw 51 rfl) (by decide) (by decide)) (g := (mkF m 23 #[.val (.ref d), .val (.int (0 : Int32)), .val (.int (2 : Int32)), .val (.ref nb1), .val (.int (1 : Int32)), .unset] [(.int (2 : Int32)), (.int (0 : Int32)), (.ref d)])) rfl (by rw [hml]; rfl) (argsL := [(.ref d), (.int (0 : Int32)), (.int (2 : Int32))]) (rest := []) (lenOf pd__28_5bCII_29_5bB rfl) rfl (by show 2 * 0 + _ ≤ _; exact Nat.le_of_eq rfl) (hb hby d9_23) (fun _ _ => ⟨rfl, rfl, (by decide : 1 + 1 ≤ _), (by decide : 2 + 4 ≤ _)⟩)
  dsimp only [Pt.U, Pt.locs, Pt.cells, Pt.slots] at X4 l4 y4 z4 st4 hQ4
  subst l4 y4 z4
  obtain ⟨r4, kr4, rfl, N4q, KQ4, fo0_4, g_r4, sl_r4⟩ := hQ4
  have N4 := Fr.app N2 N4q
  have V_d := V_d.keep KQ4 nin0
  have E_nb1 := E_nb1.keep KQ4
  have V_nb1 := V_nb1.keep KQ4 nin0
  have Z5 : n0 ≤ T4.heap.size := Nat.le_trans Z3 KQ4.1
  have O := O.keep KQ4 all0
  have K5 := K3.trans KQ4 all0
  have ne_d_r4 : d ≠ r4 := Nat.ne_of_lt (Nat.lt_of_lt_of_le lt_d sl_r4)
  have ne_r4_d := ne_d_r4.symm
  have ne_nb1_r4 : nb1 ≠ r4 := Nat.ne_of_lt (Nat.lt_of_lt_of_le lt_nb1 sl_r4)
  have ne_r4_nb1 := ne_nb1_r4.symm
  have sz_r4 : h0.size ≤ r4 := Nat.le_trans K3.1 sl_r4
  have V_r4 := fo0_4
  refine Goes.pre (U' := T4.setTop (mkF m 32 #[.val (.ref d), .val (.int (0 : Int32)), .val (.int (2 : Int32)), .val (.ref nb1), .val (.int (1 : Int32)), .val (.ref r4)] [(.int (1 : Int32)), (.ref r4)])) (fun t k => st4 t (XS.astore X4.here hx rfl (hb hby d9_26) rfl rfl (l' := #[.val (.ref d), .val (.int (0 : Int32)), .val (.int (2 : Int32)), .val (.ref nb1), .val (.int (1 : Int32)), .val (.ref r4)]) rfl (XS.aload X4.here hx rfl (hb hby d9_28) rfl rfl (XS.iload X4.here hx rfl (hb hby d9_30) rfl k)))) ?_
  obtain ⟨_, _, ⟨T6, L6, k6, n6⟩, -, X6, ⟨Lc6, hQ6, l6, y6, z6⟩, st6⟩ := Jvm.LawKit.callS X4 hx (y := (⟨"java/lang/StringUTF16", "getChar", "([BI)C"⟩ : MethodName)) hown (mvT hZ (wq hw 106 rfl)) (mvT hZ (wq hw 107 rfl)) (mvT hZ (wq hw 51 rfl)) (mvT hZ (wq hw 108 rfl)) (by decide) (backOf (W := 0) (rm_getCh21 l Z a0 hw [] r4 kr4 c0 c1 T4.heap n0 Z5 V_r4 S__assertionsDisabled S_HI_BYTE_SHIFT S_LO_BYTE_SHIFT hch O) hZ (wq hw 108 rfl) (wq hw 51 rfl) (by decide) (by decide)) (g := (mkF m 32 #[.val (.ref d), .val (.int (0 : Int32)), .val (.int (2 : Int32)), .val (.ref nb1), .val (.int (1 : Int32)), .val (.ref r4)] [(.int (1 : Int32)), (.ref r4)])) rfl (by rw [hml]; rfl) (argsL := [(.ref r4), (.int (1 : Int32))]) (rest := []) (lenOf pd__28_5bBI_29C rfl) rfl (by show 2 * 0 + _ ≤ _; exact Nat.le_of_eq rfl) (hb hby d9_32) (fun _ _ => ⟨rfl, rfl, (by decide : 2 + 0 ≤ _), (by decide : 6 + 0 ≤ _)⟩)
  dsimp only [Pt.U, Pt.locs, Pt.cells, Pt.slots] at X6 l6 y6 z6 st6 hQ6
  subst l6 y6 z6
  obtain ⟨rfl, N6q, HQ6⟩ := hQ6
  have N6 := Fr.app N4 N6q
  refine Goes.pre (U' := T6.setTop (mkF m 38 #[.val (.ref d), .val (.int (0 : Int32)), .val (.int (2 : Int32)), .val (.ref nb1), .val (.int (1 : Int32)), .val (.ref r4)] [(.int (255 : Int32)), (.int c1)])) (fun t k => st6 t (XS.sipush X6.here hx rfl (hb hby d9_35) k)) ?_
  have hc38 : (255 : Int32) < c1 := hgt
  refine Goes.pre (U' := T6.setTop (mkF m 56 #[.val (.ref d), .val (.int (0 : Int32)), .val (.int (2 : Int32)), .val (.ref nb1), .val (.int (1 : Int32)), .val (.ref r4)] [(.ref r4)])) (fun t k => XS.icmpYes X6.here hx rfl (pc0 := 38) (pc' := 54) rfl (hb hby d9_38) rfl (tlt hc38).2.2.1 (by decide) (by decide) (XS.aload X6.here hx rfl (hb hby d9_54) rfl rfl k)) ?_
  refine Goes.ret X6 (v := (some (.ref r4))) (fun h => by rw [hret] at h; cases h) hlk (by decide) (by decide) HQ6 (fun fs hr => retOut X6 hx hret rfl (Or.inr (Or.inr (Or.inr (Or.inr ⟨rfl, rfl, rfl⟩)))) (hb hby d9_56) hr) ?_
  exact ⟨r4, kr4, rfl, N6, K5, V_r4, g_r4, sz_r4⟩
theorem ef_rm_cmpI22 (m : MethodId) (x0 : Addr) (x1 : Int32) (x2 : Addr) (x3 : Int32) (x4 : Int32) : entryFrame m #[(.ref x0), (.int x1), (.ref x2), (.int x3), (.int x4)] 7 = mkF m 0 #[.val (.ref x0), .val (.int x1), .val (.ref x2), .val (.int x3), .val (.int x4), .unset, .unset] [] := by first | (simp [entryFrame, mkF, argsToLocals, Value.category]; done) | rfl
def Q_rm_cmpI22 (Z : State) (d : Addr) (kd : ClassId) (c0 : Int32) (c1 : Int32) (b : Addr) (kb : ClassId) (h0 : Heap) (n0 : Nat) (v : Option Value) (h : Heap) (L : List Loc) : Prop := v = some (.int (2 : Int32)) ∧ Fr n0 L ∧ Keep h0 h [b] ∧ Arv Z h b kb .byte (2 : Int32) [(.int c0.toInt8.toInt32), (.int c1.toInt8.toInt32)] (.int (0 : Int32))
set_option maxRecDepth 65536 in
set_option maxHeartbeats 40000000 in
theorem rm_cmpI22 (l : Launch) (Z : State) (a0 : Array Value) (hw : ∀ d ∈ tables_1, d.before a0 Z = true) (ws : List Jvm.Cond) (d : Addr) (kd : ClassId) (c0 : Int32) (c1 : Int32) (b : Addr) (kb : ClassId) (h0 : Heap) (n0 : Nat) (Z0 : n0 ≤ h0.size) (V_d : Arv Z h0 d kd .char (2 : Int32) [(.int c0), (.int c1)] (.int (0 : Int32))) (V_b : Arv Z h0 b kb .byte (2 : Int32) [(.int (0 : Int32)), (.int (0 : Int32))] (.int (0 : Int32))) (hle0 : ¬ ((255 : Int32) < c0)) (hle1 : ¬ ((255 : Int32) < c1)) (ne_d_b : d ≠ b) (g_b : n0 ≤ b) :
    Met l Z M10 jdk_52_method_21_code 7 (some .int) ws (Rm 0 0 0 0) #[(.ref d), (.int (0 : Int32)), (.ref b), (.int (0 : Int32)), (.int (2 : Int32))] h0 (Q_rm_cmpI22 Z d kd c0 c1 b kb h0 n0) := by
  refine met_of (plainFor_of_name pn_java_lang_StringUTF16) (own := "java/lang/StringUTF16") rfl (fun m => ef_rm_cmpI22 m d (0 : Int32) b (0 : Int32) (2 : Int32)) ?_
  intro p e s m below meth c s₁ hx hby hml hown hnm hZ X0 e0 hret hlk
  have N0 := Fr.nil n0
  have K0 := Keep.refl h0 [b]
  show Goes p e below s _ _ _ (s₁.setTop (mkF m 0 #[.val (.ref d), .val (.int (0 : Int32)), .val (.ref b), .val (.int (0 : Int32)), .val (.int (2 : Int32)), .unset, .unset] []))
  refine Goes.pre (U' := s₁.setTop (mkF m 7 #[.val (.ref d), .val (.int (0 : Int32)), .val (.ref b), .val (.int (0 : Int32)), .val (.int (2 : Int32)), .val (.int (0 : Int32)), .unset] [(.int (2 : Int32)), (.int (0 : Int32))])) (fun t k => XS.iconst X0.here hx rfl (hb hby d10_0) (XS.istore X0.here hx rfl (hb hby d10_1) rfl (l' := #[.val (.ref d), .val (.int (0 : Int32)), .val (.ref b), .val (.int (0 : Int32)), .val (.int (2 : Int32)), .val (.int (0 : Int32)), .unset]) rfl (XS.iload X0.here hx rfl (hb hby d10_3) rfl (XS.iload X0.here hx rfl (hb hby d10_5) rfl k)))) ?_
  have hc7 : (0 : Int32) < (2 : Int32) := by decide
  refine Goes.pre (U' := s₁.setTop (mkF m 12 #[.val (.ref d), .val (.int (0 : Int32)), .val (.ref b), .val (.int (0 : Int32)), .val (.int (2 : Int32)), .val (.int (0 : Int32)), .unset] [(.int (0 : Int32)), (.ref d)])) (fun t k => XS.icmpNo X0.here hx rfl (hb hby d10_7) rfl (tlt hc7).2.1 (XS.aloadN X0.here hx rfl (hb hby d10_10) rfl rfl (XS.iloadN X0.here hx rfl (hb hby d10_11) rfl k))) ?_
  obtain ⟨cl1, Ar1, q1, Sz1, Ng1, Hs1, Ft1⟩ := id V_d
  have hin1 := inb_of (j := (0 : Int32)) Sz1 ⟨by decide, by decide⟩
  refine Goes.pre (U' := s₁.setTop (mkF m 20 #[.val (.ref d), .val (.int (0 : Int32)), .val (.ref b), .val (.int (0 : Int32)), .val (.int (2 : Int32)), .val (.int (0 : Int32)), .val (.int c0)] [(.int (255 : Int32)), (.int c0)])) (fun t k => X0.caload hx (j := (0 : Int32)) (v := (.int c0)) (by rw [e0]; exact Ar1.1) (State.isArrayOf_alike hZ.alike Ar1.2.1) Ar1.2.2 hin1 (Has.at Hs1 hin1 rfl) (g := (mkF m 12 #[.val (.ref d), .val (.int (0 : Int32)), .val (.ref b), .val (.int (0 : Int32)), .val (.int (2 : Int32)), .val (.int (0 : Int32)), .unset] [(.int (0 : Int32)), (.ref d)])) rfl rfl (hb hby d10_12) _ (XS.istore X0.here hx rfl (hb hby d10_13) rfl (l' := #[.val (.ref d), .val (.int (0 : Int32)), .val (.ref b), .val (.int (0 : Int32)), .val (.int (2 : Int32)), .val (.int (0 : Int32)), .val (.int c0)]) rfl (XS.iload X0.here hx rfl (hb hby d10_15) rfl (XS.sipush X0.here hx rfl (hb hby d10_17) k)))) ?_
  have hc20 : ¬ ((255 : Int32) < c0) := hle0
  refine Goes.pre (U' := s₁.setTop (mkF m 31 #[.val (.ref d), .val (.int (0 : Int32)), .val (.ref b), .val (.int (0 : Int32)), .val (.int (2 : Int32)), .val (.int (0 : Int32)), .val (.int c0)] [(.int (c0.toInt8.toInt32)), (.int (0 : Int32)), (.ref b)])) (fun t k => XS.icmpYes X0.here hx rfl (pc0 := 20) (pc' := 26) rfl (hb hby d10_20) rfl (flt hc20).2.2.2 (by decide) (by decide) (XS.aloadN X0.here hx rfl (hb hby d10_26) rfl rfl (XS.iloadN X0.here hx rfl (hb hby d10_27) rfl (XS.iload X0.here hx rfl (hb hby d10_28) rfl (XS.i2b X0.here hx rfl (hb hby d10_30) rfl k))))) ?_
  obtain ⟨cl2, Ar2, q2, Sz2, Ng2, Hs2, Ft2⟩ := id V_b
  obtain ⟨T2, h2, X2, e2, W2, st2⟩ := stB X0 hx hZ e0 Ar2 (j := (0 : Int32)) (inb_of Sz2 ⟨by decide, by decide⟩) (g := (mkF m 31 #[.val (.ref d), .val (.int (0 : Int32)), .val (.ref b), .val (.int (0 : Int32)), .val (.int (2 : Int32)), .val (.int (0 : Int32)), .val (.int c0)] [(.int (c0.toInt8.toInt32)), (.int (0 : Int32)), (.ref b)])) rfl rfl (hb hby d10_31)
  have nr2 : nar .byte (c0.toInt8.toInt32) = (c0.toInt8.toInt32) := own_bb _
  have ft2 : fits .byte (.int (c0.toInt8.toInt32)) = true := nr2 ▸ (fits_nar_byte (c0.toInt8.toInt32) : fits .byte (.int (nar .byte (c0.toInt8.toInt32))) = true)
  rw [nr2] at W2
  have V_d := V_d.other W2 ne_d_b
  have Z2 : n0 ≤ h2.size := Nat.le_trans Z0 (Keep.of_wr W2).1
  have V_b : Arv Z h2 b kb .byte (2 : Int32) [(.int (c0.toInt8.toInt32)), (.int (0 : Int32))] (.int (0 : Int32)) := Arv.set Ar2 q2 Sz2 Ng2 Hs2 Ft2 ft2 W2 0 rfl (Nat.le_of_ble_eq_true rfl)
  have K2 := K0.wr W2 (Or.inl (List.mem_of_getElem? (i := 0) rfl))
  have N2 := Fr.snoc X2 N0 g_b
  refine Goes.pre (U' := T2.setTop (mkF m 35 #[.val (.ref d), .val (.int ((0 : Int32) + (1 : Int32))), .val (.ref b), .val (.int (0 : Int32)), .val (.int (2 : Int32)), .val (.int (0 : Int32)), .val (.int c0)] [])) (fun t k => st2 t (XT.iincV X2.here hx rfl (1 : Int32) (hb hby d10_32) (by decide) rfl (l' := #[.val (.ref d), .val (.int ((0 : Int32) + (1 : Int32))), .val (.ref b), .val (.int (0 : Int32)), .val (.int (2 : Int32)), .val (.int (0 : Int32)), .val (.int c0)]) rfl k)) ?_
  rw [(by decide : ((0 : Int32) + (1 : Int32)) = (1 : Int32))]
  refine Goes.pre (U' := T2.setTop (mkF m 38 #[.val (.ref d), .val (.int (1 : Int32)), .val (.ref b), .val (.int ((0 : Int32) + (1 : Int32))), .val (.int (2 : Int32)), .val (.int (0 : Int32)), .val (.int c0)] [])) (fun t k => XT.iincV X2.here hx rfl (1 : Int32) (hb hby d10_35) (by decide) rfl (l' := #[.val (.ref d), .val (.int (1 : Int32)), .val (.ref b), .val (.int ((0 : Int32) + (1 : Int32))), .val (.int (2 : Int32)), .val (.int (0 : Int32)), .val (.int c0)]) rfl k) ?_
  rw [(by decide : ((0 : Int32) + (1 : Int32)) = (1 : Int32))]
  refine Goes.pre (U' := T2.setTop (mkF m 41 #[.val (.ref d), .val (.int (1 : Int32)), .val (.ref b), .val (.int (1 : Int32)), .val (.int (2 : Int32)), .val (.int ((0 : Int32) + (1 : Int32))), .val (.int c0)] [])) (fun t k => XT.iincV X2.here hx rfl (1 : Int32) (hb hby d10_38) (by decide) rfl (l' := #[.val (.ref d), .val (.int (1 : Int32)), .val (.ref b), .val (.int (1 : Int32)), .val (.int (2 : Int32)), .val (.int ((0 : Int32) + (1 : Int32))), .val (.int c0)]) rfl k) ?_
  rw [(by decide : ((0 : Int32) + (1 : Int32)) = (1 : Int32))]
  refine Goes.pre (U' := T2.setTop (mkF m 7 #[.val (.ref d), .val (.int (1 : Int32)), .val (.ref b), .val (.int (1 : Int32)), .val (.int (2 : Int32)), .val (.int (1 : Int32)), .val (.int c0)] [(.int (2 : Int32)), (.int (1 : Int32))])) (fun t k => XS.goto X2.here hx rfl (pc0 := 41) (pc' := 3) rfl (hb hby d10_41) (by decide) (by decide) (XS.iload X2.here hx rfl (hb hby d10_3) rfl (XS.iload X2.here hx rfl (hb hby d10_5) rfl k))) ?_
  have hc7 : (1 : Int32) < (2 : Int32) := by decide
  refine Goes.pre (U' := T2.setTop (mkF m 12 #[.val (.ref d), .val (.int (1 : Int32)), .val (.ref b), .val (.int (1 : Int32)), .val (.int (2 : Int32)), .val (.int (1 : Int32)), .val (.int c0)] [(.int (1 : Int32)), (.ref d)])) (fun t k => XS.icmpNo X2.here hx rfl (hb hby d10_7) rfl (tlt hc7).2.1 (XS.aloadN X2.here hx rfl (hb hby d10_10) rfl rfl (XS.iloadN X2.here hx rfl (hb hby d10_11) rfl k))) ?_
  obtain ⟨cl3, Ar3, q3, Sz3, Ng3, Hs3, Ft3⟩ := id V_d
  have hin3 := inb_of (j := (1 : Int32)) Sz3 ⟨by decide, by decide⟩
  refine Goes.pre (U' := T2.setTop (mkF m 20 #[.val (.ref d), .val (.int (1 : Int32)), .val (.ref b), .val (.int (1 : Int32)), .val (.int (2 : Int32)), .val (.int (1 : Int32)), .val (.int c1)] [(.int (255 : Int32)), (.int c1)])) (fun t k => X2.caload hx (j := (1 : Int32)) (v := (.int c1)) (by rw [e2]; exact Ar3.1) (State.isArrayOf_alike hZ.alike Ar3.2.1) Ar3.2.2 hin3 (Has.at Hs3 hin3 rfl) (g := (mkF m 12 #[.val (.ref d), .val (.int (1 : Int32)), .val (.ref b), .val (.int (1 : Int32)), .val (.int (2 : Int32)), .val (.int (1 : Int32)), .val (.int c0)] [(.int (1 : Int32)), (.ref d)])) rfl rfl (hb hby d10_12) _ (XS.istore X2.here hx rfl (hb hby d10_13) rfl (l' := #[.val (.ref d), .val (.int (1 : Int32)), .val (.ref b), .val (.int (1 : Int32)), .val (.int (2 : Int32)), .val (.int (1 : Int32)), .val (.int c1)]) rfl (XS.iload X2.here hx rfl (hb hby d10_15) rfl (XS.sipush X2.here hx rfl (hb hby d10_17) k)))) ?_
  have hc20 : ¬ ((255 : Int32) < c1) := hle1
  refine Goes.pre (U' := T2.setTop (mkF m 31 #[.val (.ref d), .val (.int (1 : Int32)), .val (.ref b), .val (.int (1 : Int32)), .val (.int (2 : Int32)), .val (.int (1 : Int32)), .val (.int c1)] [(.int (c1.toInt8.toInt32)), (.int (1 : Int32)), (.ref b)])) (fun t k => XS.icmpYes X2.here hx rfl (pc0 := 20) (pc' := 26) rfl (hb hby d10_20) rfl (flt hc20).2.2.2 (by decide) (by decide) (XS.aloadN X2.here hx rfl (hb hby d10_26) rfl rfl (XS.iloadN X2.here hx rfl (hb hby d10_27) rfl (XS.iload X2.here hx rfl (hb hby d10_28) rfl (XS.i2b X2.here hx rfl (hb hby d10_30) rfl k))))) ?_
  obtain ⟨cl4, Ar4, q4, Sz4, Ng4, Hs4, Ft4⟩ := id V_b
  obtain ⟨T4, h4, X4, e4, W4, st4⟩ := stB X2 hx hZ e2 Ar4 (j := (1 : Int32)) (inb_of Sz4 ⟨by decide, by decide⟩) (g := (mkF m 31 #[.val (.ref d), .val (.int (1 : Int32)), .val (.ref b), .val (.int (1 : Int32)), .val (.int (2 : Int32)), .val (.int (1 : Int32)), .val (.int c1)] [(.int (c1.toInt8.toInt32)), (.int (1 : Int32)), (.ref b)])) rfl rfl (hb hby d10_31)
  have nr4 : nar .byte (c1.toInt8.toInt32) = (c1.toInt8.toInt32) := own_bb _
  have ft4 : fits .byte (.int (c1.toInt8.toInt32)) = true := nr4 ▸ (fits_nar_byte (c1.toInt8.toInt32) : fits .byte (.int (nar .byte (c1.toInt8.toInt32))) = true)
  rw [nr4] at W4
  have V_d := V_d.other W4 ne_d_b
  have Z4 : n0 ≤ h4.size := Nat.le_trans Z2 (Keep.of_wr W4).1
  have V_b : Arv Z h4 b kb .byte (2 : Int32) [(.int (c0.toInt8.toInt32)), (.int (c1.toInt8.toInt32))] (.int (0 : Int32)) := Arv.set Ar4 q4 Sz4 Ng4 Hs4 Ft4 ft4 W4 1 rfl (Nat.le_of_ble_eq_true rfl)
  have K4 := K2.wr W4 (Or.inl (List.mem_of_getElem? (i := 0) rfl))
  have N4 := Fr.snoc X4 N2 g_b
  refine Goes.pre (U' := T4.setTop (mkF m 35 #[.val (.ref d), .val (.int ((1 : Int32) + (1 : Int32))), .val (.ref b), .val (.int (1 : Int32)), .val (.int (2 : Int32)), .val (.int (1 : Int32)), .val (.int c1)] [])) (fun t k => st4 t (XT.iincV X4.here hx rfl (1 : Int32) (hb hby d10_32) (by decide) rfl (l' := #[.val (.ref d), .val (.int ((1 : Int32) + (1 : Int32))), .val (.ref b), .val (.int (1 : Int32)), .val (.int (2 : Int32)), .val (.int (1 : Int32)), .val (.int c1)]) rfl k)) ?_
  rw [(by decide : ((1 : Int32) + (1 : Int32)) = (2 : Int32))]
  refine Goes.pre (U' := T4.setTop (mkF m 38 #[.val (.ref d), .val (.int (2 : Int32)), .val (.ref b), .val (.int ((1 : Int32) + (1 : Int32))), .val (.int (2 : Int32)), .val (.int (1 : Int32)), .val (.int c1)] [])) (fun t k => XT.iincV X4.here hx rfl (1 : Int32) (hb hby d10_35) (by decide) rfl (l' := #[.val (.ref d), .val (.int (2 : Int32)), .val (.ref b), .val (.int ((1 : Int32) + (1 : Int32))), .val (.int (2 : Int32)), .val (.int (1 : Int32)), .val (.int c1)]) rfl k) ?_
  rw [(by decide : ((1 : Int32) + (1 : Int32)) = (2 : Int32))]
  refine Goes.pre (U' := T4.setTop (mkF m 41 #[.val (.ref d), .val (.int (2 : Int32)), .val (.ref b), .val (.int (2 : Int32)), .val (.int (2 : Int32)), .val (.int ((1 : Int32) + (1 : Int32))), .val (.int c1)] [])) (fun t k => XT.iincV X4.here hx rfl (1 : Int32) (hb hby d10_38) (by decide) rfl (l' := #[.val (.ref d), .val (.int (2 : Int32)), .val (.ref b), .val (.int (2 : Int32)), .val (.int (2 : Int32)), .val (.int ((1 : Int32) + (1 : Int32))), .val (.int c1)]) rfl k) ?_
  rw [(by decide : ((1 : Int32) + (1 : Int32)) = (2 : Int32))]
  refine Goes.pre (U' := T4.setTop (mkF m 7 #[.val (.ref d), .val (.int (2 : Int32)), .val (.ref b), .val (.int (2 : Int32)), .val (.int (2 : Int32)), .val (.int (2 : Int32)), .val (.int c1)] [(.int (2 : Int32)), (.int (2 : Int32))])) (fun t k => XS.goto X4.here hx rfl (pc0 := 41) (pc' := 3) rfl (hb hby d10_41) (by decide) (by decide) (XS.iload X4.here hx rfl (hb hby d10_3) rfl (XS.iload X4.here hx rfl (hb hby d10_5) rfl k))) ?_
  have hc7 : ¬ ((2 : Int32) < (2 : Int32)) := by decide
  refine Goes.pre (U' := T4.setTop (mkF m 46 #[.val (.ref d), .val (.int (2 : Int32)), .val (.ref b), .val (.int (2 : Int32)), .val (.int (2 : Int32)), .val (.int (2 : Int32)), .val (.int c1)] [(.int (2 : Int32))])) (fun t k => XS.icmpYes X4.here hx rfl (pc0 := 7) (pc' := 44) rfl (hb hby d10_7) rfl (flt hc7).2.1 (by decide) (by decide) (XS.iload X4.here hx rfl (hb hby d10_44) rfl k)) ?_
  refine Goes.ret X4 (v := (some (.int (2 : Int32)))) (fun h => by rw [hret] at h; cases h) hlk (by decide) (by decide) e4 (fun fs hr => retI X4 hx hret (hb hby d10_46) hr) ?_
  exact ⟨rfl, N4, K4, V_b⟩
theorem ef_rm_cmp22 (m : MethodId) (x0 : Addr) (x1 : Int32) (x2 : Int32) : entryFrame m #[(.ref x0), (.int x1), (.int x2)] 6 = mkF m 0 #[.val (.ref x0), .val (.int x1), .val (.int x2), .unset, .unset, .unset] [] := by first | (simp [entryFrame, mkF, argsToLocals, Value.category]; done) | rfl
def Q_rm_cmp22 (Z : State) (d : Addr) (kd : ClassId) (c0 : Int32) (c1 : Int32) (h0 : Heap) (n0 : Nat) (v : Option Value) (h : Heap) (L : List Loc) : Prop := ∃ (r : Addr) (kr : ClassId), v = some (.ref r) ∧ Fr n0 L ∧ Keep h0 h [] ∧ Arv Z h r kr .byte (2 : Int32) [(.int c0.toInt8.toInt32), (.int c1.toInt8.toInt32)] (.int (0 : Int32)) ∧ n0 ≤ r ∧ h0.size ≤ r
set_option maxRecDepth 65536 in
set_option maxHeartbeats 40000000 in
theorem rm_cmp22 (l : Launch) (Z : State) (a0 : Array Value) (hw : ∀ d ∈ tables_1, d.before a0 Z = true) (ws : List Jvm.Cond) (d : Addr) (kd : ClassId) (c0 : Int32) (c1 : Int32) (h0 : Heap) (n0 : Nat) (Z0 : n0 ≤ h0.size) (V_d : Arv Z h0 d kd .char (2 : Int32) [(.int c0), (.int c1)] (.int (0 : Int32))) (S__assertionsDisabled : Sta Z Z.heap "java/lang/StringUTF16" "$assertionsDisabled" "Z" (.int (1 : Int32))) (S_HI_BYTE_SHIFT : Sta Z Z.heap "java/lang/StringUTF16" "HI_BYTE_SHIFT" "I" (.int (0 : Int32))) (S_LO_BYTE_SHIFT : Sta Z Z.heap "java/lang/StringUTF16" "LO_BYTE_SHIFT" "I" (.int (8 : Int32))) (hle0 : ¬ ((255 : Int32) < c0)) (hle1 : ¬ ((255 : Int32) < c1)) (O : Old Z n0 h0) :
    Met l Z M9 jdk_52_method_16_code 6 (some (.array .byte)) ws (Rm 1 1 2 18) #[(.ref d), (.int (0 : Int32)), (.int (2 : Int32))] h0 (Q_rm_cmp22 Z d kd c0 c1 h0 n0) := by
  refine met_of (plainFor_of_name pn_java_lang_StringUTF16) (own := "java/lang/StringUTF16") rfl (fun m => ef_rm_cmp22 m d (0 : Int32) (2 : Int32)) ?_
  intro p e s m below meth c s₁ hx hby hml hown hnm hZ X0 e0 hret hlk
  have N0 := Fr.nil n0
  have K0 := Keep.refl h0 []
  show Goes p e below s _ _ _ (s₁.setTop (mkF m 0 #[.val (.ref d), .val (.int (0 : Int32)), .val (.int (2 : Int32)), .unset, .unset, .unset] []))
  refine Goes.pre (U' := s₁.setTop (mkF m 1 #[.val (.ref d), .val (.int (0 : Int32)), .val (.int (2 : Int32)), .unset, .unset, .unset] [(.int (2 : Int32))])) (fun t k => XS.iloadN X0.here hx rfl (hb hby d9_0) rfl k) ?_
  obtain ⟨T1, h1, k1, X1, e1, E1, A1, B1, st1⟩ := newPE X0 hx hZ (wq hw 23 rfl) e0 (g := (mkF m 1 #[.val (.ref d), .val (.int (0 : Int32)), .val (.int (2 : Int32)), .unset, .unset, .unset] [(.int (2 : Int32))])) rfl (hb hby d9_1) rfl (by decide) (cap := 2) (by decide) (by decide) (by decide) (by decide) (ad := "[B") (by decide)
  obtain ⟨nb1, g1⟩ : ∃ z, z = h0.size := ⟨_, rfl⟩
  rw [← g1] at A1 B1 st1
  have ne_d_nb1 : d ≠ nb1 := Nat.ne_of_lt (Nat.lt_of_lt_of_le V_d.lt (Nat.le_of_eq g1.symm))
  have ne_nb1_d := ne_d_nb1.symm
  have g_nb1 : n0 ≤ nb1 := Nat.le_trans Z0 (Nat.le_of_eq g1.symm)
  have sz_nb1 : h0.size ≤ nb1 := Nat.le_trans K0.1 (Nat.le_of_eq g1.symm)
  have V_d := V_d.ext E1
  have O := O.ext E1
  have Z1 : n0 ≤ h1.size := Nat.le_trans Z0 E1.1
  have K1 := K0.ext E1
  have E_nb1 := B1
  have V_nb1 : Arv Z h1 nb1 k1 .byte (2 : Int32) [(.int (0 : Int32)), (.int (0 : Int32))] (.int (0 : Int32)) := (Arv.new A1 (by decide)).pad (pad_rep [] (.int (0 : Int32)) 2)
  refine Goes.pre (U' := T1.setTop (mkF m 9 #[.val (.ref d), .val (.int (0 : Int32)), .val (.int (2 : Int32)), .val (.ref nb1), .unset, .unset] [(.int (2 : Int32)), (.int (0 : Int32)), (.ref nb1), (.int (0 : Int32)), (.ref d)])) (fun t k => st1 t (XS.astoreN X1.here hx rfl (hb hby d9_3) rfl rfl (l' := #[.val (.ref d), .val (.int (0 : Int32)), .val (.int (2 : Int32)), .val (.ref nb1), .unset, .unset]) rfl (XS.aloadN X1.here hx rfl (hb hby d9_4) rfl rfl (XS.iloadN X1.here hx rfl (hb hby d9_5) rfl (XS.aloadN X1.here hx rfl (hb hby d9_6) rfl rfl (XS.iconst X1.here hx rfl (hb hby d9_7) (XS.iloadN X1.here hx rfl (hb hby d9_8) rfl k))))))) ?_
  obtain ⟨_, _, ⟨T2, L2, k2, n2⟩, -, X2, ⟨Lc2, hQ2, l2, y2, z2⟩, st2⟩ := Jvm.LawKit.callS X1 hx (y := (⟨"java/lang/StringUTF16", "compress", "([CI[BII)I"⟩ : MethodName)) hown (mvT hZ (wq hw 53 rfl)) (mvT hZ (wq hw 54 rfl)) (mvT hZ (wq hw 51 rfl)) (mvT hZ (wq hw 55 rfl)) (by decide) (backOf (W := 0) (rm_cmpI22 l Z a0 hw [] d kd c0 c1 nb1 k1 h1 n0 Z1 V_d V_nb1 hle0 hle1 ne_d_nb1 g_nb1) hZ (wq hw 55 rfl) (wq hw 51 rfl) (by decide) (by decide)) (g := (mkF m 9 #[.val (.ref d), .val (.int (0 : Int32)), .val (.int (2 : Int32)), .val (.ref nb1), .unset, .unset] [(.int (2 : Int32)), (.int (0 : Int32)), (.ref nb1), (.int (0 : Int32)), (.ref d)])) rfl (by rw [hml]; rfl) (argsL := [(.ref d), (.int (0 : Int32)), (.ref nb1), (.int (0 : Int32)), (.int (2 : Int32))]) (rest := []) (lenOf pd__28_5bCI_5bBII_29I rfl) rfl (by show 2 * 0 + _ ≤ _; exact Nat.le_of_eq rfl) (hb hby d9_9) (fun _ _ => ⟨rfl, e1, (by decide : 1 + 0 ≤ _), (by decide : 2 + 0 ≤ _)⟩)
  dsimp only [Pt.U, Pt.locs, Pt.cells, Pt.slots] at X2 l2 y2 z2 st2 hQ2
  subst l2 y2 z2
  obtain ⟨rfl, N2q, KQ2, fo0_2⟩ := hQ2
  have N2 := Fr.app N0 N2q
  have V_d := V_d.keep KQ2 (ninS ne_d_nb1 nin0)
  have E_nb1 := E_nb1.keep KQ2
  have Z3 : n0 ≤ T2.heap.size := Nat.le_trans Z1 KQ2.1
  have O := O.keep KQ2 (allS (P := fun x => n0 ≤ x) g_nb1 all0)
  have K3 := K1.trans KQ2 (allS (P := fun x => x ∈ [] ∨ h0.size ≤ x) (Or.inr sz_nb1) all0)
  have V_nb1 := fo0_2
  refine Goes.pre (U' := T2.setTop (mkF m 17 #[.val (.ref d), .val (.int (0 : Int32)), .val (.int (2 : Int32)), .val (.ref nb1), .val (.int (2 : Int32)), .unset] [(.int (2 : Int32)), (.int (2 : Int32))])) (fun t k => st2 t (XS.istore X2.here hx rfl (hb hby d9_12) rfl (l' := #[.val (.ref d), .val (.int (0 : Int32)), .val (.int (2 : Int32)), .val (.ref nb1), .val (.int (2 : Int32)), .unset]) rfl (XS.iload X2.here hx rfl (hb hby d9_14) rfl (XS.iloadN X2.here hx rfl (hb hby d9_16) rfl k)))) ?_
  have hc17 : (2 : Int32) = (2 : Int32) := rfl
  refine Goes.pre (U' := T2.setTop (mkF m 58 #[.val (.ref d), .val (.int (0 : Int32)), .val (.int (2 : Int32)), .val (.ref nb1), .val (.int (2 : Int32)), .unset] [(.ref nb1)])) (fun t k => XS.icmpYes X2.here hx rfl (pc0 := 17) (pc' := 57) rfl (hb hby d9_17) rfl (teq hc17).1 (by decide) (by decide) (XS.aloadN X2.here hx rfl (hb hby d9_57) rfl rfl k)) ?_
  refine Goes.ret X2 (v := (some (.ref nb1))) (fun h => by rw [hret] at h; cases h) hlk (by decide) (by decide) rfl (fun fs hr => retOut X2 hx hret rfl (Or.inr (Or.inr (Or.inr (Or.inr ⟨rfl, rfl, rfl⟩)))) (hb hby d9_58) hr) ?_
  exact ⟨nb1, k1, rfl, N2, K3, V_nb1, g_nb1, sz_nb1⟩
theorem ef_rm_cfl20 (m : MethodId) (x0 : Addr) (x1 : Int32) : entryFrame m #[(.ref x0), (.int x1)] 2 = mkF m 0 #[.val (.ref x0), .val (.int x1)] [] := by first | (simp [entryFrame, mkF, argsToLocals, Value.category]; done) | rfl
def Q_rm_cfl20 (Z : State) (b : Addr) (kb : ClassId) (c0 : Int32) (c1 : Int32) (h0 : Heap) (n0 : Nat) (v : Option Value) (h : Heap) (L : List Loc) : Prop := v = some (.int (0 : Int32)) ∧ Fr n0 L ∧ h = h0
set_option maxRecDepth 65536 in
set_option maxHeartbeats 40000000 in
theorem rm_cfl20 (l : Launch) (Z : State) (a0 : Array Value) (hw : ∀ d ∈ tables_1, d.before a0 Z = true) (ws : List Jvm.Cond) (b : Addr) (kb : ClassId) (c0 : Int32) (c1 : Int32) (h0 : Heap) (n0 : Nat) (Z0 : n0 ≤ h0.size) (V_b : Arv Z h0 b kb .byte (2 : Int32) [(.int c0.toInt8.toInt32), (.int c1.toInt8.toInt32)] (.int (0 : Int32))) :
    Met l Z M11 jdk_52_method_15_code 2 (some .byte) ws (Rm 0 0 0 0) #[(.ref b), (.int (2 : Int32))] h0 (Q_rm_cfl20 Z b kb c0 c1 h0 n0) := by
  refine met_of (plainFor_of_name pn_java_lang_StringUTF16) (own := "java/lang/StringUTF16") rfl (fun m => ef_rm_cfl20 m b (2 : Int32)) ?_
  intro p e s m below meth c s₁ hx hby hml hown hnm hZ X0 e0 hret hlk
  have N0 := Fr.nil n0
  show Goes p e below s _ _ _ (s₁.setTop (mkF m 0 #[.val (.ref b), .val (.int (2 : Int32))] []))
  refine Goes.pre (U' := s₁.setTop (mkF m 2 #[.val (.ref b), .val (.int (2 : Int32))] [(.ref b), (.int (2 : Int32))])) (fun t k => XS.iloadN X0.here hx rfl (hb hby d11_0) rfl (XS.aloadN X0.here hx rfl (hb hby d11_1) rfl rfl k)) ?_
  obtain ⟨cl1, Ar1, q1, Sz1, Ng1, -, -⟩ := id V_b
  have ln1 := len_of Sz1 Ng1
  refine Goes.pre (U' := s₁.setTop (mkF m 4 #[.val (.ref b), .val (.int (2 : Int32))] [(.int ((2 : Int32) - (2 : Int32)))])) (fun t k => X0.arraylength hx (by rw [e0]; exact Ar1.1) (State.isArrayOf_alike hZ.alike Ar1.2.1) (g := (mkF m 2 #[.val (.ref b), .val (.int (2 : Int32))] [(.ref b), (.int (2 : Int32))])) rfl rfl (hb hby d11_2) _ (by rw [ln1]; exact (XS.isub X0.here hx rfl (hb hby d11_3) rfl k))) ?_
  rw [(by decide : ((2 : Int32) - (2 : Int32)) = (0 : Int32))]
  refine Goes.pre (U' := s₁.setTop (mkF m 7 #[.val (.ref b), .val (.int (2 : Int32))] [(.int (((0 : Int32).toUInt32 >>> ((31 : Int32) &&& 31).toUInt32).toInt32))])) (fun t k => XS.bipush X0.here hx rfl (hb hby d11_4) (XS.iushr X0.here hx rfl (hb hby d11_6) rfl k)) ?_
  rw [(by decide : (((0 : Int32).toUInt32 >>> ((31 : Int32) &&& 31).toUInt32).toInt32) = (0 : Int32))]
  refine Goes.pre (U' := s₁.setTop (mkF m 8 #[.val (.ref b), .val (.int (2 : Int32))] [(.int ((0 : Int32).toInt8.toInt32))])) (fun t k => XS.i2b X0.here hx rfl (hb hby d11_7) rfl k) ?_
  rw [(by decide : ((0 : Int32).toInt8.toInt32) = (0 : Int32))]
  refine Goes.ret X0 (v := (some (.int (0 : Int32)))) (fun h => by rw [hret] at h; cases h) hlk (by decide) (by decide) e0 (fun fs hr => retN X0 hx (t := .byte) hret (by simp) (hb hby d11_8) hr) ?_
  exact ⟨rfl, N0, rfl⟩
theorem ef_rm_cfl21 (m : MethodId) (x0 : Addr) (x1 : Int32) : entryFrame m #[(.ref x0), (.int x1)] 2 = mkF m 0 #[.val (.ref x0), .val (.int x1)] [] := by first | (simp [entryFrame, mkF, argsToLocals, Value.category]; done) | rfl
def Q_rm_cfl21 (Z : State) (b : Addr) (kb : ClassId) (c0 : Int32) (c1 : Int32) (h0 : Heap) (n0 : Nat) (v : Option Value) (h : Heap) (L : List Loc) : Prop := v = some (.int (1 : Int32)) ∧ Fr n0 L ∧ h = h0
set_option maxRecDepth 65536 in
set_option maxHeartbeats 40000000 in
theorem rm_cfl21 (l : Launch) (Z : State) (a0 : Array Value) (hw : ∀ d ∈ tables_1, d.before a0 Z = true) (ws : List Jvm.Cond) (b : Addr) (kb : ClassId) (c0 : Int32) (c1 : Int32) (h0 : Heap) (n0 : Nat) (Z0 : n0 ≤ h0.size) (V_b : Arv Z h0 b kb .byte (4 : Int32) [(.int (c0 >>> ((0 : Int32) &&& 31)).toInt8.toInt32), (.int (c0 >>> ((8 : Int32) &&& 31)).toInt8.toInt32), (.int (c1 >>> ((0 : Int32) &&& 31)).toInt8.toInt32), (.int (c1 >>> ((8 : Int32) &&& 31)).toInt8.toInt32)] (.int (0 : Int32))) :
    Met l Z M11 jdk_52_method_15_code 2 (some .byte) ws (Rm 0 0 0 0) #[(.ref b), (.int (2 : Int32))] h0 (Q_rm_cfl21 Z b kb c0 c1 h0 n0) := by
  refine met_of (plainFor_of_name pn_java_lang_StringUTF16) (own := "java/lang/StringUTF16") rfl (fun m => ef_rm_cfl21 m b (2 : Int32)) ?_
  intro p e s m below meth c s₁ hx hby hml hown hnm hZ X0 e0 hret hlk
  have N0 := Fr.nil n0
  show Goes p e below s _ _ _ (s₁.setTop (mkF m 0 #[.val (.ref b), .val (.int (2 : Int32))] []))
  refine Goes.pre (U' := s₁.setTop (mkF m 2 #[.val (.ref b), .val (.int (2 : Int32))] [(.ref b), (.int (2 : Int32))])) (fun t k => XS.iloadN X0.here hx rfl (hb hby d11_0) rfl (XS.aloadN X0.here hx rfl (hb hby d11_1) rfl rfl k)) ?_
  obtain ⟨cl1, Ar1, q1, Sz1, Ng1, -, -⟩ := id V_b
  have ln1 := len_of Sz1 Ng1
  refine Goes.pre (U' := s₁.setTop (mkF m 4 #[.val (.ref b), .val (.int (2 : Int32))] [(.int ((2 : Int32) - (4 : Int32)))])) (fun t k => X0.arraylength hx (by rw [e0]; exact Ar1.1) (State.isArrayOf_alike hZ.alike Ar1.2.1) (g := (mkF m 2 #[.val (.ref b), .val (.int (2 : Int32))] [(.ref b), (.int (2 : Int32))])) rfl rfl (hb hby d11_2) _ (by rw [ln1]; exact (XS.isub X0.here hx rfl (hb hby d11_3) rfl k))) ?_
  rw [(by decide : ((2 : Int32) - (4 : Int32)) = (-2 : Int32))]
  refine Goes.pre (U' := s₁.setTop (mkF m 7 #[.val (.ref b), .val (.int (2 : Int32))] [(.int (((-2 : Int32).toUInt32 >>> ((31 : Int32) &&& 31).toUInt32).toInt32))])) (fun t k => XS.bipush X0.here hx rfl (hb hby d11_4) (XS.iushr X0.here hx rfl (hb hby d11_6) rfl k)) ?_
  rw [(by decide : (((-2 : Int32).toUInt32 >>> ((31 : Int32) &&& 31).toUInt32).toInt32) = (1 : Int32))]
  refine Goes.pre (U' := s₁.setTop (mkF m 8 #[.val (.ref b), .val (.int (2 : Int32))] [(.int ((1 : Int32).toInt8.toInt32))])) (fun t k => XS.i2b X0.here hx rfl (hb hby d11_7) rfl k) ?_
  rw [(by decide : ((1 : Int32).toInt8.toInt32) = (1 : Int32))]
  refine Goes.ret X0 (v := (some (.int (1 : Int32)))) (fun h => by rw [hret] at h; cases h) hlk (by decide) (by decide) e0 (fun fs hr => retN X0 hx (t := .byte) hret (by simp) (hb hby d11_8) hr) ?_
  exact ⟨rfl, N0, rfl⟩
theorem ef_rm_init4_2 (m : MethodId) (x0 : Addr) (x1 : Addr) (x2 : Int32) (x3 : Int32) : entryFrame m #[(.ref x0), (.ref x1), (.int x2), (.int x3), .null] 6 = mkF m 0 #[.val (.ref x0), .val (.ref x1), .val (.int x2), .val (.int x3), .val .null, .unset] [] := by first | (simp [entryFrame, mkF, argsToLocals, Value.category]; done) | rfl
def Q_rm_init4_2 (Z : State) (a : Addr) (d : Addr) (kd : ClassId) (c0 : Int32) (c1 : Int32) (cs : Int32) (h0 : Heap) (n0 : Nat) (v : Option Value) (h : Heap) (L : List Loc) : Prop := ∃ (b : Addr) (kb : ClassId), v = none ∧ Fr n0 L ∧ Keep h0 h [a] ∧ OwnStr Z h a b kb [c0, c1] ∧ n0 ≤ b ∧ h0.size ≤ b
set_option maxRecDepth 65536 in
set_option maxHeartbeats 40000000 in
theorem rm_init4_2 (l : Launch) (Z : State) (a0 : Array Value) (hw : ∀ d ∈ tables_1, d.before a0 Z = true) (ws : List Jvm.Cond) (a : Addr) (d : Addr) (kd : ClassId) (c0 : Int32) (c1 : Int32) (cs : Int32) (h0 : Heap) (n0 : Nat) (Z0 : n0 ≤ h0.size) (E_a : Exa Z h0 a "java/lang/String") (F_value_a : Fld Z h0 a "java/lang/String" "value" "[B" .null) (F_coder_a : Fld Z h0 a "java/lang/String" "coder" "B" (.int (0 : Int32))) (V_d : Arv Z h0 d kd .char (2 : Int32) [(.int c0), (.int c1)] (.int (0 : Int32))) (S_COMPACT_STRINGS : Sta Z Z.heap "java/lang/String" "COMPACT_STRINGS" "Z" (.int cs)) (S__assertionsDisabled : Sta Z Z.heap "java/lang/StringUTF16" "$assertionsDisabled" "Z" (.int (1 : Int32))) (S_HI_BYTE_SHIFT : Sta Z Z.heap "java/lang/StringUTF16" "HI_BYTE_SHIFT" "I" (.int (0 : Int32))) (S_LO_BYTE_SHIFT : Sta Z Z.heap "java/lang/StringUTF16" "LO_BYTE_SHIFT" "I" (.int (8 : Int32))) (hch0 : OwnCh c0) (hch1 : OwnCh c1) (hcs : ¬ (cs = (0 : Int32))) (ne_d_a : d ≠ a) (g_a : n0 ≤ a) (O : Old Z n0 h0) :
    Met l Z M4 jdk_42_method_149_code 6 none ws (Rm 4 2 6 57) #[(.ref a), (.ref d), (.int (0 : Int32)), (.int (2 : Int32)), .null] h0 (Q_rm_init4_2 Z a d kd c0 c1 cs h0 n0) := by
  refine met_of (plainFor_of_name pn_java_lang_String) (own := "java/lang/String") rfl (fun m => ef_rm_init4_2 m a d (0 : Int32) (2 : Int32)) ?_
  intro p e s m below meth c s₁ hx hby hml hown hnm hZ X0 e0 hret hlk
  have N0 := Fr.nil n0
  have K0 := Keep.refl h0 [a]
  show Goes p e below s _ _ _ (s₁.setTop (mkF m 0 #[.val (.ref a), .val (.ref d), .val (.int (0 : Int32)), .val (.int (2 : Int32)), .val .null, .unset] []))
  refine Goes.pre (U' := s₁.setTop (mkF m 1 #[.val (.ref a), .val (.ref d), .val (.int (0 : Int32)), .val (.int (2 : Int32)), .val .null, .unset] [(.ref a)])) (fun t k => XS.aloadN X0.here hx rfl (hb hby d4_0) rfl rfl k) ?_
  obtain ⟨T1, X1, e1, st1⟩ := initO X0 hx hZ hown (wq hw 19 rfl) (wq hw 20 rfl) (wq hw 21 rfl) e0 (g := (mkF m 1 #[.val (.ref a), .val (.ref d), .val (.int (0 : Int32)), .val (.int (2 : Int32)), .val .null, .unset] [(.ref a)])) rfl (by rw [hml]; rfl) rfl (hb hby d4_1) (by decide) (W := 0) (by show 2 * 0 + _ ≤ _; exact Nat.le_of_eq rfl) (by decide)
  refine Goes.pre (U' := T1.setTop (mkF m 5 #[.val (.ref a), .val (.ref d), .val (.int (0 : Int32)), .val (.int (2 : Int32)), .val .null, .unset] [(.int (2 : Int32))])) (fun t k => st1 t (XS.iloadN X1.here hx rfl (hb hby d4_4) rfl k)) ?_
  have hc5 : ¬ ((2 : Int32) = (0 : Int32)) := by decide
  refine Goes.pre (U' := T1.setTop (mkF m 27 #[.val (.ref a), .val (.ref d), .val (.int (0 : Int32)), .val (.int (2 : Int32)), .val .null, .unset] [])) (fun t k => XS.ifYes X1.here hx rfl (pc0 := 5) (pc' := 27) rfl (hb hby d4_5) rfl ((if0 _ _).trans (feq hc5).2) (by decide) (by decide) k) ?_
  obtain ⟨T2, X2, e2, st2⟩ := getS2 X1 hx hZ hown (host := "") (Or.inl (wq hw 48 rfl)) Via.refl e1 (S_COMPACT_STRINGS.ext O.2) (g := (mkF m 27 #[.val (.ref a), .val (.ref d), .val (.int (0 : Int32)), .val (.int (2 : Int32)), .val .null, .unset] [])) rfl (hb hby d4_27)
  refine Goes.pre (U' := T2.setTop (mkF m 30 #[.val (.ref a), .val (.ref d), .val (.int (0 : Int32)), .val (.int (2 : Int32)), .val .null, .unset] [(.int cs)])) (fun t k => st2 t k) ?_
  have hc30 : ¬ (cs = (0 : Int32)) := hcs
  refine Goes.pre (U' := T2.setTop (mkF m 33 #[.val (.ref a), .val (.ref d), .val (.int (0 : Int32)), .val (.int (2 : Int32)), .val .null, .unset] [])) (fun t k => XS.ifNo X2.here hx rfl (hb hby d4_30) rfl ((if0 _ _).trans (feq hc30).1) k) ?_
  by_cases hgt : (255 : Int32) < c0
  ·
    refine Goes.pre (U' := T2.setTop (mkF m 36 #[.val (.ref a), .val (.ref d), .val (.int (0 : Int32)), .val (.int (2 : Int32)), .val .null, .unset] [(.int (2 : Int32)), (.int (0 : Int32)), (.ref d)])) (fun t k => XS.aloadN X2.here hx rfl (hb hby d4_33) rfl rfl (XS.iloadN X2.here hx rfl (hb hby d4_34) rfl (XS.iloadN X2.here hx rfl (hb hby d4_35) rfl k))) ?_
    have lt_a := E_a.lt
    have lt_d := V_d.lt
    obtain ⟨_, _, ⟨T3, L3, k3, n3⟩, -, X3, ⟨Lc3, hQ3, l3, y3, z3⟩, st3⟩ := Jvm.LawKit.callS X2 hx (y := (⟨"java/lang/StringUTF16", "compress", "([CII)[B"⟩ : MethodName)) hown (mvT hZ (wq hw 49 rfl)) (mvT hZ (wq hw 50 rfl)) (mvT hZ (wq hw 51 rfl)) (mvT hZ (wq hw 52 rfl)) (by decide) (backOf (W := 0) (rm_cmp20 l Z a0 hw [] d kd c0 c1 h0 n0 Z0 V_d S__assertionsDisabled S_HI_BYTE_SHIFT S_LO_BYTE_SHIFT hgt hch0 O) hZ (wq hw 52 rfl) (wq hw 51 rfl) (by decide) (by decide)) (g := (mkF m 36 #[.val (.ref a), .val (.ref d), .val (.int (0 : Int32)), .val (.int (2 : Int32)), .val .null, .unset] [(.int (2 : Int32)), (.int (0 : Int32)), (.ref d)])) rfl (by rw [hml]; rfl) (argsL := [(.ref d), (.int (0 : Int32)), (.int (2 : Int32))]) (rest := []) (lenOf pd__28_5bCII_29_5bB rfl) rfl (by show 2 * 0 + _ ≤ _; exact Nat.le_of_eq rfl) (hb hby d4_36) (fun _ _ => ⟨rfl, e2, (by decide : 0 + 2 ≤ _), (by decide : 0 + 6 ≤ _)⟩)
    dsimp only [Pt.U, Pt.locs, Pt.cells, Pt.slots] at X3 l3 y3 z3 st3 hQ3
    subst l3 y3 z3
    obtain ⟨r3, kr3, rfl, N3q, KQ3, fo0_3, g_r3, sl_r3⟩ := hQ3
    have N3 := Fr.app N0 N3q
    have E_a := E_a.keep KQ3
    have F_value_a := F_value_a.keep KQ3 nin0
    have F_coder_a := F_coder_a.keep KQ3 nin0
    have V_d := V_d.keep KQ3 nin0
    have Z4 : n0 ≤ T3.heap.size := Nat.le_trans Z0 KQ3.1
    have O := O.keep KQ3 all0
    have K4 := K0.trans KQ3 all0
    have ne_a_r3 : a ≠ r3 := Nat.ne_of_lt (Nat.lt_of_lt_of_le lt_a sl_r3)
    have ne_r3_a := ne_a_r3.symm
    have ne_d_r3 : d ≠ r3 := Nat.ne_of_lt (Nat.lt_of_lt_of_le lt_d sl_r3)
    have ne_r3_d := ne_d_r3.symm
    have sz_r3 : h0.size ≤ r3 := Nat.le_trans K0.1 sl_r3
    have V_r3 := fo0_3
    refine Goes.pre (U' := T3.setTop (mkF m 45 #[.val (.ref a), .val (.ref d), .val (.int (0 : Int32)), .val (.int (2 : Int32)), .val .null, .val (.ref r3)] [(.int (2 : Int32)), (.ref r3), (.ref a)])) (fun t k => st3 t (XS.astore X3.here hx rfl (hb hby d4_39) rfl rfl (l' := #[.val (.ref a), .val (.ref d), .val (.int (0 : Int32)), .val (.int (2 : Int32)), .val .null, .val (.ref r3)]) rfl (XS.aloadN X3.here hx rfl (hb hby d4_41) rfl rfl (XS.aload X3.here hx rfl (hb hby d4_42) rfl rfl (XS.iloadN X3.here hx rfl (hb hby d4_44) rfl k))))) ?_
    obtain ⟨_, _, ⟨T5, L5, k5, n5⟩, -, X5, ⟨Lc5, hQ5, l5, y5, z5⟩, st5⟩ := Jvm.LawKit.callS X3 hx (y := (⟨"java/lang/StringUTF16", "coderFromArrayLen", "([BI)B"⟩ : MethodName)) hown (mvT hZ (wq hw 56 rfl)) (mvT hZ (wq hw 57 rfl)) (mvT hZ (wq hw 51 rfl)) (mvT hZ (wq hw 58 rfl)) (by decide) (backOf (W := 1) (rm_cfl21 l Z a0 hw [] r3 kr3 c0 c1 T3.heap n0 Z4 V_r3) hZ (wq hw 58 rfl) (wq hw 51 rfl) (by decide) (by decide)) (g := (mkF m 45 #[.val (.ref a), .val (.ref d), .val (.int (0 : Int32)), .val (.int (2 : Int32)), .val .null, .val (.ref r3)] [(.int (2 : Int32)), (.ref r3), (.ref a)])) rfl (by rw [hml]; rfl) (argsL := [(.ref r3), (.int (2 : Int32))]) (rest := [(.ref a)]) (lenOf pd__28_5bBI_29B rfl) rfl (by show 2 * 0 + _ ≤ _; exact Nat.le_of_eq rfl) (hb hby d4_45) (fun _ _ => ⟨rfl, rfl, (by decide : 2 + 0 ≤ _), (by decide : 6 + 0 ≤ _)⟩)
    dsimp only [Pt.U, Pt.locs, Pt.cells, Pt.slots] at X5 l5 y5 z5 st5 hQ5
    subst l5 y5 z5
    obtain ⟨rfl, N5q, HQ5⟩ := hQ5
    have N5 := Fr.app N3 N5q
    refine Goes.pre (U' := T5.setTop (mkF m 48 #[.val (.ref a), .val (.ref d), .val (.int (0 : Int32)), .val (.int (2 : Int32)), .val .null, .val (.ref r3)] [(.int (1 : Int32)), (.ref a)])) (fun t k => st5 t k) ?_
    obtain ⟨T6, h6, X6, e6, W6, st6⟩ := putFN X5 hx hZ hown (wq hw 29 rfl) Via.refl HQ5 F_coder_a E_a (Or.inr ⟨(wq hw 25 rfl), rfl, hnm⟩) (wq hw 9 rfl) (ty := .byte) (v' := (.int (1 : Int32))) (by decide) rfl (by decide) (g := (mkF m 48 #[.val (.ref a), .val (.ref d), .val (.int (0 : Int32)), .val (.int (2 : Int32)), .val .null, .val (.ref r3)] [(.int (1 : Int32)), (.ref a)])) rfl rfl (hb hby d4_48)
    have E_a := E_a.wr W6
    have F_value_a := F_value_a.other W6 (Or.inr (slot_ne (Or.inr (wq hw 24 rfl)) (Or.inr (wq hw 25 rfl)) (by decide) (t := (.array .byte)) (t' := .byte) (by decide) (by decide)))
    have V_d := V_d.other W6 ne_d_a
    have V_r3 := V_r3.other W6 ne_r3_a
    have Z6 : n0 ≤ h6.size := Nat.le_trans Z4 (Keep.of_wr W6).1
    have O := O.wr W6 g_a
    have F_coder_a := F_coder_a.same W6
    have K6 := K4.wr W6 (Or.inl (List.mem_of_getElem? (i := 0) rfl))
    have N6 := Fr.snoc X6 N5 g_a
    refine Goes.pre (U' := T6.setTop (mkF m 54 #[.val (.ref a), .val (.ref d), .val (.int (0 : Int32)), .val (.int (2 : Int32)), .val .null, .val (.ref r3)] [(.ref r3), (.ref a)])) (fun t k => st6 t (XS.aloadN X6.here hx rfl (hb hby d4_51) rfl rfl (XS.aload X6.here hx rfl (hb hby d4_52) rfl rfl k))) ?_
    obtain ⟨T7, h7, X7, e7, W7, st7⟩ := putF X6 hx hZ hown (host := "") (Or.inl (wq hw 28 rfl)) Via.refl e6 F_value_a E_a (Or.inr ⟨(wq hw 24 rfl), rfl, hnm⟩) (wq hw 9 rfl) (ty := (.array .byte)) (by decide) rfl rfl (g := (mkF m 54 #[.val (.ref a), .val (.ref d), .val (.int (0 : Int32)), .val (.int (2 : Int32)), .val .null, .val (.ref r3)] [(.ref r3), (.ref a)])) rfl rfl (hb hby d4_54)
    have E_a := E_a.wr W7
    have F_coder_a := F_coder_a.other W7 (Or.inr (slot_ne (Or.inr (wq hw 25 rfl)) (Or.inr (wq hw 24 rfl)) (by decide) (t := .byte) (t' := (.array .byte)) (by decide) (by decide)))
    have V_d := V_d.other W7 ne_d_a
    have V_r3 := V_r3.other W7 ne_r3_a
    have Z7 : n0 ≤ h7.size := Nat.le_trans Z6 (Keep.of_wr W7).1
    have O := O.wr W7 g_a
    have F_value_a := F_value_a.same W7
    have K7 := K6.wr W7 (Or.inl (List.mem_of_getElem? (i := 0) rfl))
    have N7 := Fr.snoc X7 N6 g_a
    refine Goes.pre (U' := T7.setTop (mkF m 57 #[.val (.ref a), .val (.ref d), .val (.int (0 : Int32)), .val (.int (2 : Int32)), .val .null, .val (.ref r3)] [])) (fun t k => st7 t k) ?_
    refine Goes.ret X7 (v := none) (fun _ => rfl) hlk (by decide) (by decide) e7 (fun fs hr => X7.returnOut hx hret (hb hby d4_57) hr) ?_
    exact ⟨r3, kr3, rfl, N7, K7, ⟨E_a, F_value_a, (by intro c hc; simp only [List.mem_cons, List.not_mem_nil, or_false] at hc; rcases hc with rfl | rfl <;> assumption), Or.inr ⟨F_coder_a, V_r3, c0, List.mem_of_getElem? (i := 0) rfl, hgt⟩⟩, g_r3, sz_r3⟩
  ·
    have hle0 := hgt
    by_cases hgt : (255 : Int32) < c1
    ·
      refine Goes.pre (U' := T2.setTop (mkF m 36 #[.val (.ref a), .val (.ref d), .val (.int (0 : Int32)), .val (.int (2 : Int32)), .val .null, .unset] [(.int (2 : Int32)), (.int (0 : Int32)), (.ref d)])) (fun t k => XS.aloadN X2.here hx rfl (hb hby d4_33) rfl rfl (XS.iloadN X2.here hx rfl (hb hby d4_34) rfl (XS.iloadN X2.here hx rfl (hb hby d4_35) rfl k))) ?_
      have lt_a := E_a.lt
      have lt_d := V_d.lt
      obtain ⟨_, _, ⟨T8, L8, k8, n8⟩, -, X8, ⟨Lc8, hQ8, l8, y8, z8⟩, st8⟩ := Jvm.LawKit.callS X2 hx (y := (⟨"java/lang/StringUTF16", "compress", "([CII)[B"⟩ : MethodName)) hown (mvT hZ (wq hw 49 rfl)) (mvT hZ (wq hw 50 rfl)) (mvT hZ (wq hw 51 rfl)) (mvT hZ (wq hw 52 rfl)) (by decide) (backOf (W := 0) (rm_cmp21 l Z a0 hw [] d kd c0 c1 h0 n0 Z0 V_d S__assertionsDisabled S_HI_BYTE_SHIFT S_LO_BYTE_SHIFT hle0 hgt hch1 O) hZ (wq hw 52 rfl) (wq hw 51 rfl) (by decide) (by decide)) (g := (mkF m 36 #[.val (.ref a), .val (.ref d), .val (.int (0 : Int32)), .val (.int (2 : Int32)), .val .null, .unset] [(.int (2 : Int32)), (.int (0 : Int32)), (.ref d)])) rfl (by rw [hml]; rfl) (argsL := [(.ref d), (.int (0 : Int32)), (.int (2 : Int32))]) (rest := []) (lenOf pd__28_5bCII_29_5bB rfl) rfl (by show 2 * 0 + _ ≤ _; exact Nat.le_of_eq rfl) (hb hby d4_36) (fun _ _ => ⟨rfl, e2, (by decide : 0 + 2 ≤ _), (by decide : 0 + 6 ≤ _)⟩)
      dsimp only [Pt.U, Pt.locs, Pt.cells, Pt.slots] at X8 l8 y8 z8 st8 hQ8
      subst l8 y8 z8
      obtain ⟨r8, kr8, rfl, N8q, KQ8, fo0_8, g_r8, sl_r8⟩ := hQ8
      have N8 := Fr.app N0 N8q
      have E_a := E_a.keep KQ8
      have F_value_a := F_value_a.keep KQ8 nin0
      have F_coder_a := F_coder_a.keep KQ8 nin0
      have V_d := V_d.keep KQ8 nin0
      have Z9 : n0 ≤ T8.heap.size := Nat.le_trans Z0 KQ8.1
      have O := O.keep KQ8 all0
      have K9 := K0.trans KQ8 all0
      have ne_a_r8 : a ≠ r8 := Nat.ne_of_lt (Nat.lt_of_lt_of_le lt_a sl_r8)
      have ne_r8_a := ne_a_r8.symm
      have ne_d_r8 : d ≠ r8 := Nat.ne_of_lt (Nat.lt_of_lt_of_le lt_d sl_r8)
      have ne_r8_d := ne_d_r8.symm
      have sz_r8 : h0.size ≤ r8 := Nat.le_trans K0.1 sl_r8
      have V_r8 := fo0_8
      refine Goes.pre (U' := T8.setTop (mkF m 45 #[.val (.ref a), .val (.ref d), .val (.int (0 : Int32)), .val (.int (2 : Int32)), .val .null, .val (.ref r8)] [(.int (2 : Int32)), (.ref r8), (.ref a)])) (fun t k => st8 t (XS.astore X8.here hx rfl (hb hby d4_39) rfl rfl (l' := #[.val (.ref a), .val (.ref d), .val (.int (0 : Int32)), .val (.int (2 : Int32)), .val .null, .val (.ref r8)]) rfl (XS.aloadN X8.here hx rfl (hb hby d4_41) rfl rfl (XS.aload X8.here hx rfl (hb hby d4_42) rfl rfl (XS.iloadN X8.here hx rfl (hb hby d4_44) rfl k))))) ?_
      obtain ⟨_, _, ⟨T10, L10, k10, n10⟩, -, X10, ⟨Lc10, hQ10, l10, y10, z10⟩, st10⟩ := Jvm.LawKit.callS X8 hx (y := (⟨"java/lang/StringUTF16", "coderFromArrayLen", "([BI)B"⟩ : MethodName)) hown (mvT hZ (wq hw 56 rfl)) (mvT hZ (wq hw 57 rfl)) (mvT hZ (wq hw 51 rfl)) (mvT hZ (wq hw 58 rfl)) (by decide) (backOf (W := 1) (rm_cfl21 l Z a0 hw [] r8 kr8 c0 c1 T8.heap n0 Z9 V_r8) hZ (wq hw 58 rfl) (wq hw 51 rfl) (by decide) (by decide)) (g := (mkF m 45 #[.val (.ref a), .val (.ref d), .val (.int (0 : Int32)), .val (.int (2 : Int32)), .val .null, .val (.ref r8)] [(.int (2 : Int32)), (.ref r8), (.ref a)])) rfl (by rw [hml]; rfl) (argsL := [(.ref r8), (.int (2 : Int32))]) (rest := [(.ref a)]) (lenOf pd__28_5bBI_29B rfl) rfl (by show 2 * 0 + _ ≤ _; exact Nat.le_of_eq rfl) (hb hby d4_45) (fun _ _ => ⟨rfl, rfl, (by decide : 2 + 0 ≤ _), (by decide : 6 + 0 ≤ _)⟩)
      dsimp only [Pt.U, Pt.locs, Pt.cells, Pt.slots] at X10 l10 y10 z10 st10 hQ10
      subst l10 y10 z10
      obtain ⟨rfl, N10q, HQ10⟩ := hQ10
      have N10 := Fr.app N8 N10q
      refine Goes.pre (U' := T10.setTop (mkF m 48 #[.val (.ref a), .val (.ref d), .val (.int (0 : Int32)), .val (.int (2 : Int32)), .val .null, .val (.ref r8)] [(.int (1 : Int32)), (.ref a)])) (fun t k => st10 t k) ?_
      obtain ⟨T11, h11, X11, e11, W11, st11⟩ := putFN X10 hx hZ hown (wq hw 29 rfl) Via.refl HQ10 F_coder_a E_a (Or.inr ⟨(wq hw 25 rfl), rfl, hnm⟩) (wq hw 9 rfl) (ty := .byte) (v' := (.int (1 : Int32))) (by decide) rfl (by decide) (g := (mkF m 48 #[.val (.ref a), .val (.ref d), .val (.int (0 : Int32)), .val (.int (2 : Int32)), .val .null, .val (.ref r8)] [(.int (1 : Int32)), (.ref a)])) rfl rfl (hb hby d4_48)
      have E_a := E_a.wr W11
      have F_value_a := F_value_a.other W11 (Or.inr (slot_ne (Or.inr (wq hw 24 rfl)) (Or.inr (wq hw 25 rfl)) (by decide) (t := (.array .byte)) (t' := .byte) (by decide) (by decide)))
      have V_d := V_d.other W11 ne_d_a
      have V_r8 := V_r8.other W11 ne_r8_a
      have Z11 : n0 ≤ h11.size := Nat.le_trans Z9 (Keep.of_wr W11).1
      have O := O.wr W11 g_a
      have F_coder_a := F_coder_a.same W11
      have K11 := K9.wr W11 (Or.inl (List.mem_of_getElem? (i := 0) rfl))
      have N11 := Fr.snoc X11 N10 g_a
      refine Goes.pre (U' := T11.setTop (mkF m 54 #[.val (.ref a), .val (.ref d), .val (.int (0 : Int32)), .val (.int (2 : Int32)), .val .null, .val (.ref r8)] [(.ref r8), (.ref a)])) (fun t k => st11 t (XS.aloadN X11.here hx rfl (hb hby d4_51) rfl rfl (XS.aload X11.here hx rfl (hb hby d4_52) rfl rfl k))) ?_
      obtain ⟨T12, h12, X12, e12, W12, st12⟩ := putF X11 hx hZ hown (host := "") (Or.inl (wq hw 28 rfl)) Via.refl e11 F_value_a E_a (Or.inr ⟨(wq hw 24 rfl), rfl, hnm⟩) (wq hw 9 rfl) (ty := (.array .byte)) (by decide) rfl rfl (g := (mkF m 54 #[.val (.ref a), .val (.ref d), .val (.int (0 : Int32)), .val (.int (2 : Int32)), .val .null, .val (.ref r8)] [(.ref r8), (.ref a)])) rfl rfl (hb hby d4_54)
      have E_a := E_a.wr W12
      have F_coder_a := F_coder_a.other W12 (Or.inr (slot_ne (Or.inr (wq hw 25 rfl)) (Or.inr (wq hw 24 rfl)) (by decide) (t := .byte) (t' := (.array .byte)) (by decide) (by decide)))
      have V_d := V_d.other W12 ne_d_a
      have V_r8 := V_r8.other W12 ne_r8_a
      have Z12 : n0 ≤ h12.size := Nat.le_trans Z11 (Keep.of_wr W12).1
      have O := O.wr W12 g_a
      have F_value_a := F_value_a.same W12
      have K12 := K11.wr W12 (Or.inl (List.mem_of_getElem? (i := 0) rfl))
      have N12 := Fr.snoc X12 N11 g_a
      refine Goes.pre (U' := T12.setTop (mkF m 57 #[.val (.ref a), .val (.ref d), .val (.int (0 : Int32)), .val (.int (2 : Int32)), .val .null, .val (.ref r8)] [])) (fun t k => st12 t k) ?_
      refine Goes.ret X12 (v := none) (fun _ => rfl) hlk (by decide) (by decide) e12 (fun fs hr => X12.returnOut hx hret (hb hby d4_57) hr) ?_
      exact ⟨r8, kr8, rfl, N12, K12, ⟨E_a, F_value_a, (by intro c hc; simp only [List.mem_cons, List.not_mem_nil, or_false] at hc; rcases hc with rfl | rfl <;> assumption), Or.inr ⟨F_coder_a, V_r8, c1, List.mem_of_getElem? (i := 1) rfl, hgt⟩⟩, g_r8, sz_r8⟩
    ·
      have hle1 := hgt
      refine Goes.pre (U' := T2.setTop (mkF m 36 #[.val (.ref a), .val (.ref d), .val (.int (0 : Int32)), .val (.int (2 : Int32)), .val .null, .unset] [(.int (2 : Int32)), (.int (0 : Int32)), (.ref d)])) (fun t k => XS.aloadN X2.here hx rfl (hb hby d4_33) rfl rfl (XS.iloadN X2.here hx rfl (hb hby d4_34) rfl (XS.iloadN X2.here hx rfl (hb hby d4_35) rfl k))) ?_
      have lt_a := E_a.lt
      have lt_d := V_d.lt
      obtain ⟨_, _, ⟨T13, L13, k13, n13⟩, -, X13, ⟨Lc13, hQ13, l13, y13, z13⟩, st13⟩ := Jvm.LawKit.callS X2 hx (y := (⟨"java/lang/StringUTF16", "compress", "([CII)[B"⟩ : MethodName)) hown (mvT hZ (wq hw 49 rfl)) (mvT hZ (wq hw 50 rfl)) (mvT hZ (wq hw 51 rfl)) (mvT hZ (wq hw 52 rfl)) (by decide) (backOf (W := 0) (rm_cmp22 l Z a0 hw [] d kd c0 c1 h0 n0 Z0 V_d S__assertionsDisabled S_HI_BYTE_SHIFT S_LO_BYTE_SHIFT hle0 hle1 O) hZ (wq hw 52 rfl) (wq hw 51 rfl) (by decide) (by decide)) (g := (mkF m 36 #[.val (.ref a), .val (.ref d), .val (.int (0 : Int32)), .val (.int (2 : Int32)), .val .null, .unset] [(.int (2 : Int32)), (.int (0 : Int32)), (.ref d)])) rfl (by rw [hml]; rfl) (argsL := [(.ref d), (.int (0 : Int32)), (.int (2 : Int32))]) (rest := []) (lenOf pd__28_5bCII_29_5bB rfl) rfl (by show 2 * 0 + _ ≤ _; exact Nat.le_of_eq rfl) (hb hby d4_36) (fun _ _ => ⟨rfl, e2, (by decide : 0 + 1 ≤ _), (by decide : 0 + 2 ≤ _)⟩)
      dsimp only [Pt.U, Pt.locs, Pt.cells, Pt.slots] at X13 l13 y13 z13 st13 hQ13
      subst l13 y13 z13
      obtain ⟨r13, kr13, rfl, N13q, KQ13, fo0_13, g_r13, sl_r13⟩ := hQ13
      have N13 := Fr.app N0 N13q
      have E_a := E_a.keep KQ13
      have F_value_a := F_value_a.keep KQ13 nin0
      have F_coder_a := F_coder_a.keep KQ13 nin0
      have V_d := V_d.keep KQ13 nin0
      have Z14 : n0 ≤ T13.heap.size := Nat.le_trans Z0 KQ13.1
      have O := O.keep KQ13 all0
      have K14 := K0.trans KQ13 all0
      have ne_a_r13 : a ≠ r13 := Nat.ne_of_lt (Nat.lt_of_lt_of_le lt_a sl_r13)
      have ne_r13_a := ne_a_r13.symm
      have ne_d_r13 : d ≠ r13 := Nat.ne_of_lt (Nat.lt_of_lt_of_le lt_d sl_r13)
      have ne_r13_d := ne_d_r13.symm
      have sz_r13 : h0.size ≤ r13 := Nat.le_trans K0.1 sl_r13
      have V_r13 := fo0_13
      refine Goes.pre (U' := T13.setTop (mkF m 45 #[.val (.ref a), .val (.ref d), .val (.int (0 : Int32)), .val (.int (2 : Int32)), .val .null, .val (.ref r13)] [(.int (2 : Int32)), (.ref r13), (.ref a)])) (fun t k => st13 t (XS.astore X13.here hx rfl (hb hby d4_39) rfl rfl (l' := #[.val (.ref a), .val (.ref d), .val (.int (0 : Int32)), .val (.int (2 : Int32)), .val .null, .val (.ref r13)]) rfl (XS.aloadN X13.here hx rfl (hb hby d4_41) rfl rfl (XS.aload X13.here hx rfl (hb hby d4_42) rfl rfl (XS.iloadN X13.here hx rfl (hb hby d4_44) rfl k))))) ?_
      obtain ⟨_, _, ⟨T15, L15, k15, n15⟩, -, X15, ⟨Lc15, hQ15, l15, y15, z15⟩, st15⟩ := Jvm.LawKit.callS X13 hx (y := (⟨"java/lang/StringUTF16", "coderFromArrayLen", "([BI)B"⟩ : MethodName)) hown (mvT hZ (wq hw 56 rfl)) (mvT hZ (wq hw 57 rfl)) (mvT hZ (wq hw 51 rfl)) (mvT hZ (wq hw 58 rfl)) (by decide) (backOf (W := 1) (rm_cfl20 l Z a0 hw [] r13 kr13 c0 c1 T13.heap n0 Z14 V_r13) hZ (wq hw 58 rfl) (wq hw 51 rfl) (by decide) (by decide)) (g := (mkF m 45 #[.val (.ref a), .val (.ref d), .val (.int (0 : Int32)), .val (.int (2 : Int32)), .val .null, .val (.ref r13)] [(.int (2 : Int32)), (.ref r13), (.ref a)])) rfl (by rw [hml]; rfl) (argsL := [(.ref r13), (.int (2 : Int32))]) (rest := [(.ref a)]) (lenOf pd__28_5bBI_29B rfl) rfl (by show 2 * 0 + _ ≤ _; exact Nat.le_of_eq rfl) (hb hby d4_45) (fun _ _ => ⟨rfl, rfl, (by decide : 1 + 0 ≤ _), (by decide : 2 + 0 ≤ _)⟩)
      dsimp only [Pt.U, Pt.locs, Pt.cells, Pt.slots] at X15 l15 y15 z15 st15 hQ15
      subst l15 y15 z15
      obtain ⟨rfl, N15q, HQ15⟩ := hQ15
      have N15 := Fr.app N13 N15q
      refine Goes.pre (U' := T15.setTop (mkF m 48 #[.val (.ref a), .val (.ref d), .val (.int (0 : Int32)), .val (.int (2 : Int32)), .val .null, .val (.ref r13)] [(.int (0 : Int32)), (.ref a)])) (fun t k => st15 t k) ?_
      obtain ⟨T16, h16, X16, e16, W16, st16⟩ := putFN X15 hx hZ hown (wq hw 29 rfl) Via.refl HQ15 F_coder_a E_a (Or.inr ⟨(wq hw 25 rfl), rfl, hnm⟩) (wq hw 9 rfl) (ty := .byte) (v' := (.int (0 : Int32))) (by decide) rfl (by decide) (g := (mkF m 48 #[.val (.ref a), .val (.ref d), .val (.int (0 : Int32)), .val (.int (2 : Int32)), .val .null, .val (.ref r13)] [(.int (0 : Int32)), (.ref a)])) rfl rfl (hb hby d4_48)
      have E_a := E_a.wr W16
      have F_value_a := F_value_a.other W16 (Or.inr (slot_ne (Or.inr (wq hw 24 rfl)) (Or.inr (wq hw 25 rfl)) (by decide) (t := (.array .byte)) (t' := .byte) (by decide) (by decide)))
      have V_d := V_d.other W16 ne_d_a
      have V_r13 := V_r13.other W16 ne_r13_a
      have Z16 : n0 ≤ h16.size := Nat.le_trans Z14 (Keep.of_wr W16).1
      have O := O.wr W16 g_a
      have F_coder_a := F_coder_a.same W16
      have K16 := K14.wr W16 (Or.inl (List.mem_of_getElem? (i := 0) rfl))
      have N16 := Fr.snoc X16 N15 g_a
      refine Goes.pre (U' := T16.setTop (mkF m 54 #[.val (.ref a), .val (.ref d), .val (.int (0 : Int32)), .val (.int (2 : Int32)), .val .null, .val (.ref r13)] [(.ref r13), (.ref a)])) (fun t k => st16 t (XS.aloadN X16.here hx rfl (hb hby d4_51) rfl rfl (XS.aload X16.here hx rfl (hb hby d4_52) rfl rfl k))) ?_
      obtain ⟨T17, h17, X17, e17, W17, st17⟩ := putF X16 hx hZ hown (host := "") (Or.inl (wq hw 28 rfl)) Via.refl e16 F_value_a E_a (Or.inr ⟨(wq hw 24 rfl), rfl, hnm⟩) (wq hw 9 rfl) (ty := (.array .byte)) (by decide) rfl rfl (g := (mkF m 54 #[.val (.ref a), .val (.ref d), .val (.int (0 : Int32)), .val (.int (2 : Int32)), .val .null, .val (.ref r13)] [(.ref r13), (.ref a)])) rfl rfl (hb hby d4_54)
      have E_a := E_a.wr W17
      have F_coder_a := F_coder_a.other W17 (Or.inr (slot_ne (Or.inr (wq hw 25 rfl)) (Or.inr (wq hw 24 rfl)) (by decide) (t := .byte) (t' := (.array .byte)) (by decide) (by decide)))
      have V_d := V_d.other W17 ne_d_a
      have V_r13 := V_r13.other W17 ne_r13_a
      have Z17 : n0 ≤ h17.size := Nat.le_trans Z16 (Keep.of_wr W17).1
      have O := O.wr W17 g_a
      have F_value_a := F_value_a.same W17
      have K17 := K16.wr W17 (Or.inl (List.mem_of_getElem? (i := 0) rfl))
      have N17 := Fr.snoc X17 N16 g_a
      refine Goes.pre (U' := T17.setTop (mkF m 57 #[.val (.ref a), .val (.ref d), .val (.int (0 : Int32)), .val (.int (2 : Int32)), .val .null, .val (.ref r13)] [])) (fun t k => st17 t k) ?_
      refine Goes.ret X17 (v := none) (fun _ => rfl) hlk (by decide) (by decide) e17 (fun fs hr => X17.returnOut hx hret (hb hby d4_57) hr) ?_
      exact ⟨r13, kr13, rfl, N17, K17, ⟨E_a, F_value_a, (by intro c hc; simp only [List.mem_cons, List.not_mem_nil, or_false] at hc; rcases hc with rfl | rfl <;> assumption), Or.inl ⟨F_coder_a, V_r13, (by intro c hc; simp only [List.mem_cons, List.not_mem_nil, or_false] at hc; rcases hc with rfl | rfl <;> assumption)⟩⟩, g_r13, sz_r13⟩
theorem ef_rm_init1_2 (m : MethodId) (x0 : Addr) (x1 : Addr) : entryFrame m #[(.ref x0), (.ref x1)] 2 = mkF m 0 #[.val (.ref x0), .val (.ref x1)] [] := by first | (simp [entryFrame, mkF, argsToLocals, Value.category]; done) | rfl
def Q_rm_init1_2 (Z : State) (a : Addr) (d : Addr) (kd : ClassId) (c0 : Int32) (c1 : Int32) (cs : Int32) (h0 : Heap) (n0 : Nat) (v : Option Value) (h : Heap) (L : List Loc) : Prop := ∃ (b : Addr) (kb : ClassId), v = none ∧ Fr n0 L ∧ Keep h0 h [a] ∧ OwnStr Z h a b kb [c0, c1] ∧ n0 ≤ b ∧ h0.size ≤ b
set_option maxRecDepth 65536 in
set_option maxHeartbeats 40000000 in
theorem rm_init1_2 (l : Launch) (Z : State) (a0 : Array Value) (hw : ∀ d ∈ tables_1, d.before a0 Z = true) (ws : List Jvm.Cond) (a : Addr) (d : Addr) (kd : ClassId) (c0 : Int32) (c1 : Int32) (cs : Int32) (h0 : Heap) (n0 : Nat) (Z0 : n0 ≤ h0.size) (E_a : Exa Z h0 a "java/lang/String") (F_value_a : Fld Z h0 a "java/lang/String" "value" "[B" .null) (F_coder_a : Fld Z h0 a "java/lang/String" "coder" "B" (.int (0 : Int32))) (V_d : Arv Z h0 d kd .char (2 : Int32) [(.int c0), (.int c1)] (.int (0 : Int32))) (S_COMPACT_STRINGS : Sta Z Z.heap "java/lang/String" "COMPACT_STRINGS" "Z" (.int cs)) (S__assertionsDisabled : Sta Z Z.heap "java/lang/StringUTF16" "$assertionsDisabled" "Z" (.int (1 : Int32))) (S_HI_BYTE_SHIFT : Sta Z Z.heap "java/lang/StringUTF16" "HI_BYTE_SHIFT" "I" (.int (0 : Int32))) (S_LO_BYTE_SHIFT : Sta Z Z.heap "java/lang/StringUTF16" "LO_BYTE_SHIFT" "I" (.int (8 : Int32))) (hch0 : OwnCh c0) (hch1 : OwnCh c1) (hcs : ¬ (cs = (0 : Int32))) (ne_d_a : d ≠ a) (g_a : n0 ≤ a) (O : Old Z n0 h0) :
    Met l Z M3 jdk_42_method_3_code 2 none ws (Rm 5 2 6 74) #[(.ref a), (.ref d)] h0 (Q_rm_init1_2 Z a d kd c0 c1 cs h0 n0) := by
  refine met_of (plainFor_of_name pn_java_lang_String) (own := "java/lang/String") rfl (fun m => ef_rm_init1_2 m a d) ?_
  intro p e s m below meth c s₁ hx hby hml hown hnm hZ X0 e0 hret hlk
  have N0 := Fr.nil n0
  have K0 := Keep.refl h0 [a]
  show Goes p e below s _ _ _ (s₁.setTop (mkF m 0 #[.val (.ref a), .val (.ref d)] []))
  refine Goes.pre (U' := s₁.setTop (mkF m 4 #[.val (.ref a), .val (.ref d)] [(.ref d), (.int (0 : Int32)), (.ref d), (.ref a)])) (fun t k => XS.aloadN X0.here hx rfl (hb hby d3_0) rfl rfl (XS.aloadN X0.here hx rfl (hb hby d3_1) rfl rfl (XS.iconst X0.here hx rfl (hb hby d3_2) (XS.aloadN X0.here hx rfl (hb hby d3_3) rfl rfl k)))) ?_
  obtain ⟨cl1, Ar1, q1, Sz1, Ng1, -, -⟩ := id V_d
  have ln1 := len_of Sz1 Ng1
  refine Goes.pre (U' := s₁.setTop (mkF m 6 #[.val (.ref a), .val (.ref d)] [.null, (.int (2 : Int32)), (.int (0 : Int32)), (.ref d), (.ref a)])) (fun t k => X0.arraylength hx (by rw [e0]; exact Ar1.1) (State.isArrayOf_alike hZ.alike Ar1.2.1) (g := (mkF m 4 #[.val (.ref a), .val (.ref d)] [(.ref d), (.int (0 : Int32)), (.ref d), (.ref a)])) rfl rfl (hb hby d3_4) _ (by rw [ln1]; exact (XS.aconstNull X0.here hx rfl (hb hby d3_5) k))) ?_
  have lt_a := E_a.lt
  have lt_d := V_d.lt
  obtain ⟨_, _, ⟨T2, L2, k2, n2⟩, -, X2, ⟨Lc2, hQ2, l2, y2, z2⟩, st2⟩ := X0.specialBack hx (y := (⟨"java/lang/String", "<init>", "([CIILjava/lang/Void;)V"⟩ : MethodName)) rfl hown (mvT hZ (wq hw 15 rfl)) (mvT hZ (wq hw 16 rfl)) (mvT hZ (wq hw 18 rfl)) (by decide) (backOf (W := 0) (rm_init4_2 l Z a0 hw [] a d kd c0 c1 cs h0 n0 Z0 E_a F_value_a F_coder_a V_d S_COMPACT_STRINGS S__assertionsDisabled S_HI_BYTE_SHIFT S_LO_BYTE_SHIFT hch0 hch1 hcs ne_d_a g_a O) hZ (wq hw 18 rfl) (wq hw 10 rfl) (by decide) (by decide)) (g := (mkF m 6 #[.val (.ref a), .val (.ref d)] [.null, (.int (2 : Int32)), (.int (0 : Int32)), (.ref d), (.ref a)])) rfl (by rw [hml]; rfl) (Steps.refl _) (a := a) (argsL := [(.ref d), (.int (0 : Int32)), (.int (2 : Int32)), .null]) (rest := []) (lenOf pd__28_5bCIILjava_2flang_2fVoid_3b_29V rfl) rfl (by show 2 * 0 + _ ≤ _; exact Nat.le_of_eq rfl) (hb hby d3_6) (fun _ _ => ⟨rfl, e0, (by decide : 0 + 2 ≤ _), (by decide : 0 + 6 ≤ _)⟩)
  dsimp only [Pt.U, Pt.locs, Pt.cells, Pt.slots] at X2 l2 y2 z2 st2 hQ2
  subst l2 y2 z2
  obtain ⟨b2, kb2, rfl, N2q, KQ2, fo0_2, g_b2, sl_b2⟩ := hQ2
  have N2 := Fr.app N0 N2q
  have E_a := E_a.keep KQ2
  have V_d := V_d.keep KQ2 (ninS ne_d_a nin0)
  have Z3 : n0 ≤ T2.heap.size := Nat.le_trans Z0 KQ2.1
  have O := O.keep KQ2 (allS (P := fun x => n0 ≤ x) g_a all0)
  have K3 := K0.trans KQ2 (allS (P := fun x => x ∈ [a] ∨ h0.size ≤ x) (Or.inl (List.mem_of_getElem? (i := 0) rfl)) all0)
  have ne_a_b2 : a ≠ b2 := Nat.ne_of_lt (Nat.lt_of_lt_of_le lt_a sl_b2)
  have ne_b2_a := ne_a_b2.symm
  have ne_d_b2 : d ≠ b2 := Nat.ne_of_lt (Nat.lt_of_lt_of_le lt_d sl_b2)
  have ne_b2_d := ne_d_b2.symm
  have sz_b2 : h0.size ≤ b2 := Nat.le_trans K0.1 sl_b2
  have S_a := fo0_2
  refine Goes.pre (U' := T2.setTop (mkF m 9 #[.val (.ref a), .val (.ref d)] [])) (fun t k => st2.trans k) ?_
  refine Goes.ret X2 (v := none) (fun _ => rfl) hlk (by decide) (by decide) rfl (fun fs hr => X2.returnOut hx hret (hb hby d3_9) hr) ?_
  exact ⟨b2, kb2, rfl, N2, K3, S_a, g_b2, sz_b2⟩
theorem ef_rm_putCh30 (m : MethodId) (x0 : Addr) (x1 : Int32) (x2 : Int32) : entryFrame m #[(.ref x0), (.int x1), (.int x2)] 3 = mkF m 0 #[.val (.ref x0), .val (.int x1), .val (.int x2)] [] := by first | (simp [entryFrame, mkF, argsToLocals, Value.category]; done) | rfl
def Q_rm_putCh30 (Z : State) (b : Addr) (kb : ClassId) (q : Int32) (o0 : Int32) (o1 : Int32) (o2 : Int32) (o3 : Int32) (o4 : Int32) (o5 : Int32) (h0 : Heap) (n0 : Nat) (v : Option Value) (h : Heap) (L : List Loc) : Prop := v = none ∧ Fr n0 L ∧ Keep h0 h [b] ∧ Arv Z h b kb .byte (6 : Int32) [(.int (q >>> ((0 : Int32) &&& 31)).toInt8.toInt32), (.int (q >>> ((8 : Int32) &&& 31)).toInt8.toInt32), (.int o2), (.int o3), (.int o4), (.int o5)] (.int (0 : Int32))
set_option maxRecDepth 65536 in
set_option maxHeartbeats 40000000 in
theorem rm_putCh30 (l : Launch) (Z : State) (a0 : Array Value) (hw : ∀ d ∈ tables_1, d.before a0 Z = true) (ws : List Jvm.Cond) (b : Addr) (kb : ClassId) (q : Int32) (o0 : Int32) (o1 : Int32) (o2 : Int32) (o3 : Int32) (o4 : Int32) (o5 : Int32) (h0 : Heap) (n0 : Nat) (Z0 : n0 ≤ h0.size) (V_b : Arv Z h0 b kb .byte (6 : Int32) [(.int o0), (.int o1), (.int o2), (.int o3), (.int o4), (.int o5)] (.int (0 : Int32))) (S__assertionsDisabled : Sta Z Z.heap "java/lang/StringUTF16" "$assertionsDisabled" "Z" (.int (1 : Int32))) (S_HI_BYTE_SHIFT : Sta Z Z.heap "java/lang/StringUTF16" "HI_BYTE_SHIFT" "I" (.int (0 : Int32))) (S_LO_BYTE_SHIFT : Sta Z Z.heap "java/lang/StringUTF16" "LO_BYTE_SHIFT" "I" (.int (8 : Int32))) (g_b : n0 ≤ b) (O : Old Z n0 h0) :
    Met l Z M22 jdk_52_method_4_code 3 none ws (Rm 0 0 0 0) #[(.ref b), (.int (0 : Int32)), (.int q)] h0 (Q_rm_putCh30 Z b kb q o0 o1 o2 o3 o4 o5 h0 n0) := by
  refine met_of (plainFor_of_name pn_java_lang_StringUTF16) (own := "java/lang/StringUTF16") rfl (fun m => ef_rm_putCh30 m b (0 : Int32) q) ?_
  intro p e s m below meth c s₁ hx hby hml hown hnm hZ X0 e0 hret hlk
  have N0 := Fr.nil n0
  have K0 := Keep.refl h0 [b]
  show Goes p e below s _ _ _ (s₁.setTop (mkF m 0 #[.val (.ref b), .val (.int (0 : Int32)), .val (.int q)] []))
  obtain ⟨T1, X1, e1, st1⟩ := getS2 X0 hx hZ hown (host := "") (Or.inl (wq hw 103 rfl)) Via.refl e0 (S__assertionsDisabled.ext O.2) (g := (mkF m 0 #[.val (.ref b), .val (.int (0 : Int32)), .val (.int q)] [])) rfl (hb hby d22_0)
  refine Goes.pre (U' := T1.setTop (mkF m 3 #[.val (.ref b), .val (.int (0 : Int32)), .val (.int q)] [(.int (1 : Int32))])) (fun t k => st1 t k) ?_
  have hc3 : ¬ ((1 : Int32) = (0 : Int32)) := by decide
  refine Goes.pre (U' := T1.setTop (mkF m 31 #[.val (.ref b), .val (.int (0 : Int32)), .val (.int q)] [(.int ((0 : Int32) <<< ((1 : Int32) &&& 31)))])) (fun t k => XS.ifYes X1.here hx rfl (pc0 := 3) (pc' := 28) rfl (hb hby d22_3) rfl ((if0 _ _).trans (feq hc3).2) (by decide) (by decide) (XS.iloadN X1.here hx rfl (hb hby d22_28) rfl (XS.iconst X1.here hx rfl (hb hby d22_29) (XS.ishl X1.here hx rfl (hb hby d22_30) rfl k)))) ?_
  rw [(by decide : ((0 : Int32) <<< ((1 : Int32) &&& 31)) = (0 : Int32))]
  refine Goes.pre (U' := T1.setTop (mkF m 37 #[.val (.ref b), .val (.int ((0 : Int32) + (1 : Int32))), .val (.int q)] [(.int (0 : Int32)), (.ref b)])) (fun t k => XS.istoreN X1.here hx rfl (hb hby d22_31) rfl (l' := #[.val (.ref b), .val (.int (0 : Int32)), .val (.int q)]) rfl (XS.aloadN X1.here hx rfl (hb hby d22_32) rfl rfl (XS.iloadN X1.here hx rfl (hb hby d22_33) rfl (XT.iincV X1.here hx rfl (1 : Int32) (hb hby d22_34) (by decide) rfl (l' := #[.val (.ref b), .val (.int ((0 : Int32) + (1 : Int32))), .val (.int q)]) rfl k)))) ?_
  rw [(by decide : ((0 : Int32) + (1 : Int32)) = (1 : Int32))]
  refine Goes.pre (U' := T1.setTop (mkF m 38 #[.val (.ref b), .val (.int (1 : Int32)), .val (.int q)] [(.int q), (.int (0 : Int32)), (.ref b)])) (fun t k => XS.iloadN X1.here hx rfl (hb hby d22_37) rfl k) ?_
  obtain ⟨T2, X2, e2, st2⟩ := getS2 X1 hx hZ hown (host := "") (Or.inl (wq hw 104 rfl)) Via.refl e1 (S_HI_BYTE_SHIFT.ext O.2) (g := (mkF m 38 #[.val (.ref b), .val (.int (1 : Int32)), .val (.int q)] [(.int q), (.int (0 : Int32)), (.ref b)])) rfl (hb hby d22_38)
  refine Goes.pre (U' := T2.setTop (mkF m 43 #[.val (.ref b), .val (.int (1 : Int32)), .val (.int q)] [(.int ((q >>> ((0 : Int32) &&& 31)).toInt8.toInt32)), (.int (0 : Int32)), (.ref b)])) (fun t k => st2 t (XS.ishr X2.here hx rfl (hb hby d22_41) rfl (XS.i2b X2.here hx rfl (hb hby d22_42) rfl k))) ?_
  obtain ⟨cl3, Ar3, q3, Sz3, Ng3, Hs3, Ft3⟩ := id V_b
  obtain ⟨T3, h3, X3, e3, W3, st3⟩ := stB X2 hx hZ e2 Ar3 (j := (0 : Int32)) (inb_of Sz3 ⟨by decide, by decide⟩) (g := (mkF m 43 #[.val (.ref b), .val (.int (1 : Int32)), .val (.int q)] [(.int ((q >>> ((0 : Int32) &&& 31)).toInt8.toInt32)), (.int (0 : Int32)), (.ref b)])) rfl rfl (hb hby d22_43)
  have nr3 : nar .byte ((q >>> ((0 : Int32) &&& 31)).toInt8.toInt32) = ((q >>> ((0 : Int32) &&& 31)).toInt8.toInt32) := own_bb _
  have ft3 : fits .byte (.int ((q >>> ((0 : Int32) &&& 31)).toInt8.toInt32)) = true := nr3 ▸ (fits_nar_byte ((q >>> ((0 : Int32) &&& 31)).toInt8.toInt32) : fits .byte (.int (nar .byte ((q >>> ((0 : Int32) &&& 31)).toInt8.toInt32))) = true)
  rw [nr3] at W3
  have Z3 : n0 ≤ h3.size := Nat.le_trans Z0 (Keep.of_wr W3).1
  have O := O.wr W3 g_b
  have V_b : Arv Z h3 b kb .byte (6 : Int32) [(.int ((q >>> ((0 : Int32) &&& 31)).toInt8.toInt32)), (.int o1), (.int o2), (.int o3), (.int o4), (.int o5)] (.int (0 : Int32)) := Arv.set Ar3 q3 Sz3 Ng3 Hs3 Ft3 ft3 W3 0 rfl (Nat.le_of_ble_eq_true rfl)
  have K3 := K0.wr W3 (Or.inl (List.mem_of_getElem? (i := 0) rfl))
  have N3 := Fr.snoc X3 N0 g_b
  refine Goes.pre (U' := T3.setTop (mkF m 47 #[.val (.ref b), .val (.int (1 : Int32)), .val (.int q)] [(.int q), (.int (1 : Int32)), (.ref b)])) (fun t k => st3 t (XS.aloadN X3.here hx rfl (hb hby d22_44) rfl rfl (XS.iloadN X3.here hx rfl (hb hby d22_45) rfl (XS.iloadN X3.here hx rfl (hb hby d22_46) rfl k)))) ?_
  obtain ⟨T4, X4, e4, st4⟩ := getS2 X3 hx hZ hown (host := "") (Or.inl (wq hw 105 rfl)) Via.refl e3 (S_LO_BYTE_SHIFT.ext O.2) (g := (mkF m 47 #[.val (.ref b), .val (.int (1 : Int32)), .val (.int q)] [(.int q), (.int (1 : Int32)), (.ref b)])) rfl (hb hby d22_47)
  refine Goes.pre (U' := T4.setTop (mkF m 52 #[.val (.ref b), .val (.int (1 : Int32)), .val (.int q)] [(.int ((q >>> ((8 : Int32) &&& 31)).toInt8.toInt32)), (.int (1 : Int32)), (.ref b)])) (fun t k => st4 t (XS.ishr X4.here hx rfl (hb hby d22_50) rfl (XS.i2b X4.here hx rfl (hb hby d22_51) rfl k))) ?_
  obtain ⟨cl5, Ar5, q5, Sz5, Ng5, Hs5, Ft5⟩ := id V_b
  obtain ⟨T5, h5, X5, e5, W5, st5⟩ := stB X4 hx hZ e4 Ar5 (j := (1 : Int32)) (inb_of Sz5 ⟨by decide, by decide⟩) (g := (mkF m 52 #[.val (.ref b), .val (.int (1 : Int32)), .val (.int q)] [(.int ((q >>> ((8 : Int32) &&& 31)).toInt8.toInt32)), (.int (1 : Int32)), (.ref b)])) rfl rfl (hb hby d22_52)
  have nr5 : nar .byte ((q >>> ((8 : Int32) &&& 31)).toInt8.toInt32) = ((q >>> ((8 : Int32) &&& 31)).toInt8.toInt32) := own_bb _
  have ft5 : fits .byte (.int ((q >>> ((8 : Int32) &&& 31)).toInt8.toInt32)) = true := nr5 ▸ (fits_nar_byte ((q >>> ((8 : Int32) &&& 31)).toInt8.toInt32) : fits .byte (.int (nar .byte ((q >>> ((8 : Int32) &&& 31)).toInt8.toInt32))) = true)
  rw [nr5] at W5
  have Z5 : n0 ≤ h5.size := Nat.le_trans Z3 (Keep.of_wr W5).1
  have O := O.wr W5 g_b
  have V_b : Arv Z h5 b kb .byte (6 : Int32) [(.int ((q >>> ((0 : Int32) &&& 31)).toInt8.toInt32)), (.int ((q >>> ((8 : Int32) &&& 31)).toInt8.toInt32)), (.int o2), (.int o3), (.int o4), (.int o5)] (.int (0 : Int32)) := Arv.set Ar5 q5 Sz5 Ng5 Hs5 Ft5 ft5 W5 1 rfl (Nat.le_of_ble_eq_true rfl)
  have K5 := K3.wr W5 (Or.inl (List.mem_of_getElem? (i := 0) rfl))
  have N5 := Fr.snoc X5 N3 g_b
  refine Goes.pre (U' := T5.setTop (mkF m 53 #[.val (.ref b), .val (.int (1 : Int32)), .val (.int q)] [])) (fun t k => st5 t k) ?_
  refine Goes.ret X5 (v := none) (fun _ => rfl) hlk (by decide) (by decide) e5 (fun fs hr => X5.returnOut hx hret (hb hby d22_53) hr) ?_
  exact ⟨rfl, N5, K5, V_b⟩
theorem ef_rm_putCh31 (m : MethodId) (x0 : Addr) (x1 : Int32) (x2 : Int32) : entryFrame m #[(.ref x0), (.int x1), (.int x2)] 3 = mkF m 0 #[.val (.ref x0), .val (.int x1), .val (.int x2)] [] := by first | (simp [entryFrame, mkF, argsToLocals, Value.category]; done) | rfl
def Q_rm_putCh31 (Z : State) (b : Addr) (kb : ClassId) (q : Int32) (o0 : Int32) (o1 : Int32) (o2 : Int32) (o3 : Int32) (o4 : Int32) (o5 : Int32) (h0 : Heap) (n0 : Nat) (v : Option Value) (h : Heap) (L : List Loc) : Prop := v = none ∧ Fr n0 L ∧ Keep h0 h [b] ∧ Arv Z h b kb .byte (6 : Int32) [(.int o0), (.int o1), (.int (q >>> ((0 : Int32) &&& 31)).toInt8.toInt32), (.int (q >>> ((8 : Int32) &&& 31)).toInt8.toInt32), (.int o4), (.int o5)] (.int (0 : Int32))
set_option maxRecDepth 65536 in
set_option maxHeartbeats 40000000 in
theorem rm_putCh31 (l : Launch) (Z : State) (a0 : Array Value) (hw : ∀ d ∈ tables_1, d.before a0 Z = true) (ws : List Jvm.Cond) (b : Addr) (kb : ClassId) (q : Int32) (o0 : Int32) (o1 : Int32) (o2 : Int32) (o3 : Int32) (o4 : Int32) (o5 : Int32) (h0 : Heap) (n0 : Nat) (Z0 : n0 ≤ h0.size) (V_b : Arv Z h0 b kb .byte (6 : Int32) [(.int o0), (.int o1), (.int o2), (.int o3), (.int o4), (.int o5)] (.int (0 : Int32))) (S__assertionsDisabled : Sta Z Z.heap "java/lang/StringUTF16" "$assertionsDisabled" "Z" (.int (1 : Int32))) (S_HI_BYTE_SHIFT : Sta Z Z.heap "java/lang/StringUTF16" "HI_BYTE_SHIFT" "I" (.int (0 : Int32))) (S_LO_BYTE_SHIFT : Sta Z Z.heap "java/lang/StringUTF16" "LO_BYTE_SHIFT" "I" (.int (8 : Int32))) (g_b : n0 ≤ b) (O : Old Z n0 h0) :
    Met l Z M22 jdk_52_method_4_code 3 none ws (Rm 0 0 0 0) #[(.ref b), (.int (1 : Int32)), (.int q)] h0 (Q_rm_putCh31 Z b kb q o0 o1 o2 o3 o4 o5 h0 n0) := by
  refine met_of (plainFor_of_name pn_java_lang_StringUTF16) (own := "java/lang/StringUTF16") rfl (fun m => ef_rm_putCh31 m b (1 : Int32) q) ?_
  intro p e s m below meth c s₁ hx hby hml hown hnm hZ X0 e0 hret hlk
  have N0 := Fr.nil n0
  have K0 := Keep.refl h0 [b]
  show Goes p e below s _ _ _ (s₁.setTop (mkF m 0 #[.val (.ref b), .val (.int (1 : Int32)), .val (.int q)] []))
  obtain ⟨T1, X1, e1, st1⟩ := getS2 X0 hx hZ hown (host := "") (Or.inl (wq hw 103 rfl)) Via.refl e0 (S__assertionsDisabled.ext O.2) (g := (mkF m 0 #[.val (.ref b), .val (.int (1 : Int32)), .val (.int q)] [])) rfl (hb hby d22_0)
  refine Goes.pre (U' := T1.setTop (mkF m 3 #[.val (.ref b), .val (.int (1 : Int32)), .val (.int q)] [(.int (1 : Int32))])) (fun t k => st1 t k) ?_
  have hc3 : ¬ ((1 : Int32) = (0 : Int32)) := by decide
  refine Goes.pre (U' := T1.setTop (mkF m 31 #[.val (.ref b), .val (.int (1 : Int32)), .val (.int q)] [(.int ((1 : Int32) <<< ((1 : Int32) &&& 31)))])) (fun t k => XS.ifYes X1.here hx rfl (pc0 := 3) (pc' := 28) rfl (hb hby d22_3) rfl ((if0 _ _).trans (feq hc3).2) (by decide) (by decide) (XS.iloadN X1.here hx rfl (hb hby d22_28) rfl (XS.iconst X1.here hx rfl (hb hby d22_29) (XS.ishl X1.here hx rfl (hb hby d22_30) rfl k)))) ?_
  rw [(by decide : ((1 : Int32) <<< ((1 : Int32) &&& 31)) = (2 : Int32))]
  refine Goes.pre (U' := T1.setTop (mkF m 37 #[.val (.ref b), .val (.int ((2 : Int32) + (1 : Int32))), .val (.int q)] [(.int (2 : Int32)), (.ref b)])) (fun t k => XS.istoreN X1.here hx rfl (hb hby d22_31) rfl (l' := #[.val (.ref b), .val (.int (2 : Int32)), .val (.int q)]) rfl (XS.aloadN X1.here hx rfl (hb hby d22_32) rfl rfl (XS.iloadN X1.here hx rfl (hb hby d22_33) rfl (XT.iincV X1.here hx rfl (1 : Int32) (hb hby d22_34) (by decide) rfl (l' := #[.val (.ref b), .val (.int ((2 : Int32) + (1 : Int32))), .val (.int q)]) rfl k)))) ?_
  rw [(by decide : ((2 : Int32) + (1 : Int32)) = (3 : Int32))]
  refine Goes.pre (U' := T1.setTop (mkF m 38 #[.val (.ref b), .val (.int (3 : Int32)), .val (.int q)] [(.int q), (.int (2 : Int32)), (.ref b)])) (fun t k => XS.iloadN X1.here hx rfl (hb hby d22_37) rfl k) ?_
  obtain ⟨T2, X2, e2, st2⟩ := getS2 X1 hx hZ hown (host := "") (Or.inl (wq hw 104 rfl)) Via.refl e1 (S_HI_BYTE_SHIFT.ext O.2) (g := (mkF m 38 #[.val (.ref b), .val (.int (3 : Int32)), .val (.int q)] [(.int q), (.int (2 : Int32)), (.ref b)])) rfl (hb hby d22_38)
  refine Goes.pre (U' := T2.setTop (mkF m 43 #[.val (.ref b), .val (.int (3 : Int32)), .val (.int q)] [(.int ((q >>> ((0 : Int32) &&& 31)).toInt8.toInt32)), (.int (2 : Int32)), (.ref b)])) (fun t k => st2 t (XS.ishr X2.here hx rfl (hb hby d22_41) rfl (XS.i2b X2.here hx rfl (hb hby d22_42) rfl k))) ?_
  obtain ⟨cl3, Ar3, q3, Sz3, Ng3, Hs3, Ft3⟩ := id V_b
  obtain ⟨T3, h3, X3, e3, W3, st3⟩ := stB X2 hx hZ e2 Ar3 (j := (2 : Int32)) (inb_of Sz3 ⟨by decide, by decide⟩) (g := (mkF m 43 #[.val (.ref b), .val (.int (3 : Int32)), .val (.int q)] [(.int ((q >>> ((0 : Int32) &&& 31)).toInt8.toInt32)), (.int (2 : Int32)), (.ref b)])) rfl rfl (hb hby d22_43)
  have nr3 : nar .byte ((q >>> ((0 : Int32) &&& 31)).toInt8.toInt32) = ((q >>> ((0 : Int32) &&& 31)).toInt8.toInt32) := own_bb _
  have ft3 : fits .byte (.int ((q >>> ((0 : Int32) &&& 31)).toInt8.toInt32)) = true := nr3 ▸ (fits_nar_byte ((q >>> ((0 : Int32) &&& 31)).toInt8.toInt32) : fits .byte (.int (nar .byte ((q >>> ((0 : Int32) &&& 31)).toInt8.toInt32))) = true)
  rw [nr3] at W3
  have Z3 : n0 ≤ h3.size := Nat.le_trans Z0 (Keep.of_wr W3).1
  have O := O.wr W3 g_b
  have V_b : Arv Z h3 b kb .byte (6 : Int32) [(.int o0), (.int o1), (.int ((q >>> ((0 : Int32) &&& 31)).toInt8.toInt32)), (.int o3), (.int o4), (.int o5)] (.int (0 : Int32)) := Arv.set Ar3 q3 Sz3 Ng3 Hs3 Ft3 ft3 W3 2 rfl (Nat.le_of_ble_eq_true rfl)
  have K3 := K0.wr W3 (Or.inl (List.mem_of_getElem? (i := 0) rfl))
  have N3 := Fr.snoc X3 N0 g_b
  refine Goes.pre (U' := T3.setTop (mkF m 47 #[.val (.ref b), .val (.int (3 : Int32)), .val (.int q)] [(.int q), (.int (3 : Int32)), (.ref b)])) (fun t k => st3 t (XS.aloadN X3.here hx rfl (hb hby d22_44) rfl rfl (XS.iloadN X3.here hx rfl (hb hby d22_45) rfl (XS.iloadN X3.here hx rfl (hb hby d22_46) rfl k)))) ?_
  obtain ⟨T4, X4, e4, st4⟩ := getS2 X3 hx hZ hown (host := "") (Or.inl (wq hw 105 rfl)) Via.refl e3 (S_LO_BYTE_SHIFT.ext O.2) (g := (mkF m 47 #[.val (.ref b), .val (.int (3 : Int32)), .val (.int q)] [(.int q), (.int (3 : Int32)), (.ref b)])) rfl (hb hby d22_47)
  refine Goes.pre (U' := T4.setTop (mkF m 52 #[.val (.ref b), .val (.int (3 : Int32)), .val (.int q)] [(.int ((q >>> ((8 : Int32) &&& 31)).toInt8.toInt32)), (.int (3 : Int32)), (.ref b)])) (fun t k => st4 t (XS.ishr X4.here hx rfl (hb hby d22_50) rfl (XS.i2b X4.here hx rfl (hb hby d22_51) rfl k))) ?_
  obtain ⟨cl5, Ar5, q5, Sz5, Ng5, Hs5, Ft5⟩ := id V_b
  obtain ⟨T5, h5, X5, e5, W5, st5⟩ := stB X4 hx hZ e4 Ar5 (j := (3 : Int32)) (inb_of Sz5 ⟨by decide, by decide⟩) (g := (mkF m 52 #[.val (.ref b), .val (.int (3 : Int32)), .val (.int q)] [(.int ((q >>> ((8 : Int32) &&& 31)).toInt8.toInt32)), (.int (3 : Int32)), (.ref b)])) rfl rfl (hb hby d22_52)
  have nr5 : nar .byte ((q >>> ((8 : Int32) &&& 31)).toInt8.toInt32) = ((q >>> ((8 : Int32) &&& 31)).toInt8.toInt32) := own_bb _
  have ft5 : fits .byte (.int ((q >>> ((8 : Int32) &&& 31)).toInt8.toInt32)) = true := nr5 ▸ (fits_nar_byte ((q >>> ((8 : Int32) &&& 31)).toInt8.toInt32) : fits .byte (.int (nar .byte ((q >>> ((8 : Int32) &&& 31)).toInt8.toInt32))) = true)
  rw [nr5] at W5
  have Z5 : n0 ≤ h5.size := Nat.le_trans Z3 (Keep.of_wr W5).1
  have O := O.wr W5 g_b
  have V_b : Arv Z h5 b kb .byte (6 : Int32) [(.int o0), (.int o1), (.int ((q >>> ((0 : Int32) &&& 31)).toInt8.toInt32)), (.int ((q >>> ((8 : Int32) &&& 31)).toInt8.toInt32)), (.int o4), (.int o5)] (.int (0 : Int32)) := Arv.set Ar5 q5 Sz5 Ng5 Hs5 Ft5 ft5 W5 3 rfl (Nat.le_of_ble_eq_true rfl)
  have K5 := K3.wr W5 (Or.inl (List.mem_of_getElem? (i := 0) rfl))
  have N5 := Fr.snoc X5 N3 g_b
  refine Goes.pre (U' := T5.setTop (mkF m 53 #[.val (.ref b), .val (.int (3 : Int32)), .val (.int q)] [])) (fun t k => st5 t k) ?_
  refine Goes.ret X5 (v := none) (fun _ => rfl) hlk (by decide) (by decide) e5 (fun fs hr => X5.returnOut hx hret (hb hby d22_53) hr) ?_
  exact ⟨rfl, N5, K5, V_b⟩
theorem ef_rm_putCh32 (m : MethodId) (x0 : Addr) (x1 : Int32) (x2 : Int32) : entryFrame m #[(.ref x0), (.int x1), (.int x2)] 3 = mkF m 0 #[.val (.ref x0), .val (.int x1), .val (.int x2)] [] := by first | (simp [entryFrame, mkF, argsToLocals, Value.category]; done) | rfl
def Q_rm_putCh32 (Z : State) (b : Addr) (kb : ClassId) (q : Int32) (o0 : Int32) (o1 : Int32) (o2 : Int32) (o3 : Int32) (o4 : Int32) (o5 : Int32) (h0 : Heap) (n0 : Nat) (v : Option Value) (h : Heap) (L : List Loc) : Prop := v = none ∧ Fr n0 L ∧ Keep h0 h [b] ∧ Arv Z h b kb .byte (6 : Int32) [(.int o0), (.int o1), (.int o2), (.int o3), (.int (q >>> ((0 : Int32) &&& 31)).toInt8.toInt32), (.int (q >>> ((8 : Int32) &&& 31)).toInt8.toInt32)] (.int (0 : Int32))
set_option maxRecDepth 65536 in
set_option maxHeartbeats 40000000 in
theorem rm_putCh32 (l : Launch) (Z : State) (a0 : Array Value) (hw : ∀ d ∈ tables_1, d.before a0 Z = true) (ws : List Jvm.Cond) (b : Addr) (kb : ClassId) (q : Int32) (o0 : Int32) (o1 : Int32) (o2 : Int32) (o3 : Int32) (o4 : Int32) (o5 : Int32) (h0 : Heap) (n0 : Nat) (Z0 : n0 ≤ h0.size) (V_b : Arv Z h0 b kb .byte (6 : Int32) [(.int o0), (.int o1), (.int o2), (.int o3), (.int o4), (.int o5)] (.int (0 : Int32))) (S__assertionsDisabled : Sta Z Z.heap "java/lang/StringUTF16" "$assertionsDisabled" "Z" (.int (1 : Int32))) (S_HI_BYTE_SHIFT : Sta Z Z.heap "java/lang/StringUTF16" "HI_BYTE_SHIFT" "I" (.int (0 : Int32))) (S_LO_BYTE_SHIFT : Sta Z Z.heap "java/lang/StringUTF16" "LO_BYTE_SHIFT" "I" (.int (8 : Int32))) (g_b : n0 ≤ b) (O : Old Z n0 h0) :
    Met l Z M22 jdk_52_method_4_code 3 none ws (Rm 0 0 0 0) #[(.ref b), (.int (2 : Int32)), (.int q)] h0 (Q_rm_putCh32 Z b kb q o0 o1 o2 o3 o4 o5 h0 n0) := by
  refine met_of (plainFor_of_name pn_java_lang_StringUTF16) (own := "java/lang/StringUTF16") rfl (fun m => ef_rm_putCh32 m b (2 : Int32) q) ?_
  intro p e s m below meth c s₁ hx hby hml hown hnm hZ X0 e0 hret hlk
  have N0 := Fr.nil n0
  have K0 := Keep.refl h0 [b]
  show Goes p e below s _ _ _ (s₁.setTop (mkF m 0 #[.val (.ref b), .val (.int (2 : Int32)), .val (.int q)] []))
  obtain ⟨T1, X1, e1, st1⟩ := getS2 X0 hx hZ hown (host := "") (Or.inl (wq hw 103 rfl)) Via.refl e0 (S__assertionsDisabled.ext O.2) (g := (mkF m 0 #[.val (.ref b), .val (.int (2 : Int32)), .val (.int q)] [])) rfl (hb hby d22_0)
  refine Goes.pre (U' := T1.setTop (mkF m 3 #[.val (.ref b), .val (.int (2 : Int32)), .val (.int q)] [(.int (1 : Int32))])) (fun t k => st1 t k) ?_
  have hc3 : ¬ ((1 : Int32) = (0 : Int32)) := by decide
  refine Goes.pre (U' := T1.setTop (mkF m 31 #[.val (.ref b), .val (.int (2 : Int32)), .val (.int q)] [(.int ((2 : Int32) <<< ((1 : Int32) &&& 31)))])) (fun t k => XS.ifYes X1.here hx rfl (pc0 := 3) (pc' := 28) rfl (hb hby d22_3) rfl ((if0 _ _).trans (feq hc3).2) (by decide) (by decide) (XS.iloadN X1.here hx rfl (hb hby d22_28) rfl (XS.iconst X1.here hx rfl (hb hby d22_29) (XS.ishl X1.here hx rfl (hb hby d22_30) rfl k)))) ?_
  rw [(by decide : ((2 : Int32) <<< ((1 : Int32) &&& 31)) = (4 : Int32))]
  refine Goes.pre (U' := T1.setTop (mkF m 37 #[.val (.ref b), .val (.int ((4 : Int32) + (1 : Int32))), .val (.int q)] [(.int (4 : Int32)), (.ref b)])) (fun t k => XS.istoreN X1.here hx rfl (hb hby d22_31) rfl (l' := #[.val (.ref b), .val (.int (4 : Int32)), .val (.int q)]) rfl (XS.aloadN X1.here hx rfl (hb hby d22_32) rfl rfl (XS.iloadN X1.here hx rfl (hb hby d22_33) rfl (XT.iincV X1.here hx rfl (1 : Int32) (hb hby d22_34) (by decide) rfl (l' := #[.val (.ref b), .val (.int ((4 : Int32) + (1 : Int32))), .val (.int q)]) rfl k)))) ?_
  rw [(by decide : ((4 : Int32) + (1 : Int32)) = (5 : Int32))]
  refine Goes.pre (U' := T1.setTop (mkF m 38 #[.val (.ref b), .val (.int (5 : Int32)), .val (.int q)] [(.int q), (.int (4 : Int32)), (.ref b)])) (fun t k => XS.iloadN X1.here hx rfl (hb hby d22_37) rfl k) ?_
  obtain ⟨T2, X2, e2, st2⟩ := getS2 X1 hx hZ hown (host := "") (Or.inl (wq hw 104 rfl)) Via.refl e1 (S_HI_BYTE_SHIFT.ext O.2) (g := (mkF m 38 #[.val (.ref b), .val (.int (5 : Int32)), .val (.int q)] [(.int q), (.int (4 : Int32)), (.ref b)])) rfl (hb hby d22_38)
  refine Goes.pre (U' := T2.setTop (mkF m 43 #[.val (.ref b), .val (.int (5 : Int32)), .val (.int q)] [(.int ((q >>> ((0 : Int32) &&& 31)).toInt8.toInt32)), (.int (4 : Int32)), (.ref b)])) (fun t k => st2 t (XS.ishr X2.here hx rfl (hb hby d22_41) rfl (XS.i2b X2.here hx rfl (hb hby d22_42) rfl k))) ?_
  obtain ⟨cl3, Ar3, q3, Sz3, Ng3, Hs3, Ft3⟩ := id V_b
  obtain ⟨T3, h3, X3, e3, W3, st3⟩ := stB X2 hx hZ e2 Ar3 (j := (4 : Int32)) (inb_of Sz3 ⟨by decide, by decide⟩) (g := (mkF m 43 #[.val (.ref b), .val (.int (5 : Int32)), .val (.int q)] [(.int ((q >>> ((0 : Int32) &&& 31)).toInt8.toInt32)), (.int (4 : Int32)), (.ref b)])) rfl rfl (hb hby d22_43)
  have nr3 : nar .byte ((q >>> ((0 : Int32) &&& 31)).toInt8.toInt32) = ((q >>> ((0 : Int32) &&& 31)).toInt8.toInt32) := own_bb _
  have ft3 : fits .byte (.int ((q >>> ((0 : Int32) &&& 31)).toInt8.toInt32)) = true := nr3 ▸ (fits_nar_byte ((q >>> ((0 : Int32) &&& 31)).toInt8.toInt32) : fits .byte (.int (nar .byte ((q >>> ((0 : Int32) &&& 31)).toInt8.toInt32))) = true)
  rw [nr3] at W3
  have Z3 : n0 ≤ h3.size := Nat.le_trans Z0 (Keep.of_wr W3).1
  have O := O.wr W3 g_b
  have V_b : Arv Z h3 b kb .byte (6 : Int32) [(.int o0), (.int o1), (.int o2), (.int o3), (.int ((q >>> ((0 : Int32) &&& 31)).toInt8.toInt32)), (.int o5)] (.int (0 : Int32)) := Arv.set Ar3 q3 Sz3 Ng3 Hs3 Ft3 ft3 W3 4 rfl (Nat.le_of_ble_eq_true rfl)
  have K3 := K0.wr W3 (Or.inl (List.mem_of_getElem? (i := 0) rfl))
  have N3 := Fr.snoc X3 N0 g_b
  refine Goes.pre (U' := T3.setTop (mkF m 47 #[.val (.ref b), .val (.int (5 : Int32)), .val (.int q)] [(.int q), (.int (5 : Int32)), (.ref b)])) (fun t k => st3 t (XS.aloadN X3.here hx rfl (hb hby d22_44) rfl rfl (XS.iloadN X3.here hx rfl (hb hby d22_45) rfl (XS.iloadN X3.here hx rfl (hb hby d22_46) rfl k)))) ?_
  obtain ⟨T4, X4, e4, st4⟩ := getS2 X3 hx hZ hown (host := "") (Or.inl (wq hw 105 rfl)) Via.refl e3 (S_LO_BYTE_SHIFT.ext O.2) (g := (mkF m 47 #[.val (.ref b), .val (.int (5 : Int32)), .val (.int q)] [(.int q), (.int (5 : Int32)), (.ref b)])) rfl (hb hby d22_47)
  refine Goes.pre (U' := T4.setTop (mkF m 52 #[.val (.ref b), .val (.int (5 : Int32)), .val (.int q)] [(.int ((q >>> ((8 : Int32) &&& 31)).toInt8.toInt32)), (.int (5 : Int32)), (.ref b)])) (fun t k => st4 t (XS.ishr X4.here hx rfl (hb hby d22_50) rfl (XS.i2b X4.here hx rfl (hb hby d22_51) rfl k))) ?_
  obtain ⟨cl5, Ar5, q5, Sz5, Ng5, Hs5, Ft5⟩ := id V_b
  obtain ⟨T5, h5, X5, e5, W5, st5⟩ := stB X4 hx hZ e4 Ar5 (j := (5 : Int32)) (inb_of Sz5 ⟨by decide, by decide⟩) (g := (mkF m 52 #[.val (.ref b), .val (.int (5 : Int32)), .val (.int q)] [(.int ((q >>> ((8 : Int32) &&& 31)).toInt8.toInt32)), (.int (5 : Int32)), (.ref b)])) rfl rfl (hb hby d22_52)
  have nr5 : nar .byte ((q >>> ((8 : Int32) &&& 31)).toInt8.toInt32) = ((q >>> ((8 : Int32) &&& 31)).toInt8.toInt32) := own_bb _
  have ft5 : fits .byte (.int ((q >>> ((8 : Int32) &&& 31)).toInt8.toInt32)) = true := nr5 ▸ (fits_nar_byte ((q >>> ((8 : Int32) &&& 31)).toInt8.toInt32) : fits .byte (.int (nar .byte ((q >>> ((8 : Int32) &&& 31)).toInt8.toInt32))) = true)
  rw [nr5] at W5
  have Z5 : n0 ≤ h5.size := Nat.le_trans Z3 (Keep.of_wr W5).1
  have O := O.wr W5 g_b
  have V_b : Arv Z h5 b kb .byte (6 : Int32) [(.int o0), (.int o1), (.int o2), (.int o3), (.int ((q >>> ((0 : Int32) &&& 31)).toInt8.toInt32)), (.int ((q >>> ((8 : Int32) &&& 31)).toInt8.toInt32))] (.int (0 : Int32)) := Arv.set Ar5 q5 Sz5 Ng5 Hs5 Ft5 ft5 W5 5 rfl (Nat.le_of_ble_eq_true rfl)
  have K5 := K3.wr W5 (Or.inl (List.mem_of_getElem? (i := 0) rfl))
  have N5 := Fr.snoc X5 N3 g_b
  refine Goes.pre (U' := T5.setTop (mkF m 53 #[.val (.ref b), .val (.int (5 : Int32)), .val (.int q)] [])) (fun t k => st5 t k) ?_
  refine Goes.ret X5 (v := none) (fun _ => rfl) hlk (by decide) (by decide) e5 (fun fs hr => X5.returnOut hx hret (hb hby d22_53) hr) ?_
  exact ⟨rfl, N5, K5, V_b⟩
theorem ef_rm_nbl3 (m : MethodId) (x0 : Int32) : entryFrame m #[(.int x0)] 1 = mkF m 0 #[.val (.int x0)] [] := by first | (simp [entryFrame, mkF, argsToLocals, Value.category]; done) | rfl
def Q_rm_nbl3 (Z : State)  (h0 : Heap) (n0 : Nat) (v : Option Value) (h : Heap) (L : List Loc) : Prop := v = some (.int (6 : Int32)) ∧ Fr n0 L ∧ h = h0
set_option maxRecDepth 65536 in
set_option maxHeartbeats 40000000 in
theorem rm_nbl3 (l : Launch) (Z : State) (a0 : Array Value) (hw : ∀ d ∈ tables_1, d.before a0 Z = true) (ws : List Jvm.Cond)  (h0 : Heap) (n0 : Nat) (Z0 : n0 ≤ h0.size)  :
    Met l Z M21 jdk_52_method_3_code 1 (some .int) ws (Rm 0 0 0 0) #[(.int (3 : Int32))] h0 (Q_rm_nbl3 Z  h0 n0) := by
  refine met_of (plainFor_of_name pn_java_lang_StringUTF16) (own := "java/lang/StringUTF16") rfl (fun m => ef_rm_nbl3 m (3 : Int32)) ?_
  intro p e s m below meth c s₁ hx hby hml hown hnm hZ X0 e0 hret hlk
  have N0 := Fr.nil n0
  show Goes p e below s _ _ _ (s₁.setTop (mkF m 0 #[.val (.int (3 : Int32))] []))
  refine Goes.pre (U' := s₁.setTop (mkF m 1 #[.val (.int (3 : Int32))] [(.int (3 : Int32))])) (fun t k => XS.iloadN X0.here hx rfl (hb hby d21_0) rfl k) ?_
  have hc1 : ¬ ((3 : Int32) < (0 : Int32)) := by decide
  refine Goes.pre (U' := s₁.setTop (mkF m 15 #[.val (.int (3 : Int32))] [(.int (1073741823 : Int32)), (.int (3 : Int32))])) (fun t k => XS.ifYes X0.here hx rfl (pc0 := 1) (pc' := 12) rfl (hb hby d21_1) rfl ((if0 _ _).trans (flt hc1).2.1) (by decide) (by decide) (XS.iloadN X0.here hx rfl (hb hby d21_12) rfl (X0.ldcInt hx hown (mvT hZ (wq hw 99 rfl)) (g := (mkF m 13 #[.val (.int (3 : Int32))] [(.int (3 : Int32))])) rfl (hb hby d21_13) _ k))) ?_
  have hc15 : (3 : Int32) < (1073741823 : Int32) := by decide
  refine Goes.pre (U' := s₁.setTop (mkF m 58 #[.val (.int (3 : Int32))] [(.int ((3 : Int32) <<< ((1 : Int32) &&& 31)))])) (fun t k => XS.icmpYes X0.here hx rfl (pc0 := 15) (pc' := 55) rfl (hb hby d21_15) rfl (tlt hc15).1 (by decide) (by decide) (XS.iloadN X0.here hx rfl (hb hby d21_55) rfl (XS.iconst X0.here hx rfl (hb hby d21_56) (XS.ishl X0.here hx rfl (hb hby d21_57) rfl k)))) ?_
  rw [(by decide : ((3 : Int32) <<< ((1 : Int32) &&& 31)) = (6 : Int32))]
  refine Goes.ret X0 (v := (some (.int (6 : Int32)))) (fun h => by rw [hret] at h; cases h) hlk (by decide) (by decide) e0 (fun fs hr => retI X0 hx hret (hb hby d21_58) hr) ?_
  exact ⟨rfl, N0, rfl⟩
theorem ef_rm_nbf3 (m : MethodId) (x0 : Int32) : entryFrame m #[(.int x0)] 1 = mkF m 0 #[.val (.int x0)] [] := by first | (simp [entryFrame, mkF, argsToLocals, Value.category]; done) | rfl
def Q_rm_nbf3 (Z : State)  (h0 : Heap) (n0 : Nat) (v : Option Value) (h : Heap) (L : List Loc) : Prop := ∃ (r : Addr) (kr : ClassId), v = some (.ref r) ∧ Fr n0 L ∧ Keep h0 h [] ∧ Arv Z h r kr .byte (6 : Int32) [(.int (0 : Int32)), (.int (0 : Int32)), (.int (0 : Int32)), (.int (0 : Int32)), (.int (0 : Int32)), (.int (0 : Int32))] (.int (0 : Int32)) ∧ n0 ≤ r ∧ h0.size ≤ r
set_option maxRecDepth 65536 in
set_option maxHeartbeats 40000000 in
theorem rm_nbf3 (l : Launch) (Z : State) (a0 : Array Value) (hw : ∀ d ∈ tables_1, d.before a0 Z = true) (ws : List Jvm.Cond)  (h0 : Heap) (n0 : Nat) (Z0 : n0 ≤ h0.size)  :
    Met l Z M20 jdk_52_method_2_code 1 (some (.array .byte)) ws (Rm 1 1 6 12) #[(.int (3 : Int32))] h0 (Q_rm_nbf3 Z  h0 n0) := by
  refine met_of (plainFor_of_name pn_java_lang_StringUTF16) (own := "java/lang/StringUTF16") rfl (fun m => ef_rm_nbf3 m (3 : Int32)) ?_
  intro p e s m below meth c s₁ hx hby hml hown hnm hZ X0 e0 hret hlk
  have N0 := Fr.nil n0
  have K0 := Keep.refl h0 []
  show Goes p e below s _ _ _ (s₁.setTop (mkF m 0 #[.val (.int (3 : Int32))] []))
  refine Goes.pre (U' := s₁.setTop (mkF m 1 #[.val (.int (3 : Int32))] [(.int (3 : Int32))])) (fun t k => XS.iloadN X0.here hx rfl (hb hby d20_0) rfl k) ?_
  obtain ⟨_, _, ⟨T1, L1, k1, n1⟩, -, X1, ⟨Lc1, hQ1, l1, y1, z1⟩, st1⟩ := Jvm.LawKit.callS X0 hx (y := (⟨"java/lang/StringUTF16", "newBytesLength", "(I)I"⟩ : MethodName)) hown (mvT hZ (wq hw 96 rfl)) (mvT hZ (wq hw 97 rfl)) (mvT hZ (wq hw 51 rfl)) (mvT hZ (wq hw 98 rfl)) (by decide) (backOf (W := 0) (rm_nbl3 l Z a0 hw []  h0 n0 Z0 ) hZ (wq hw 98 rfl) (wq hw 51 rfl) (by decide) (by decide)) (g := (mkF m 1 #[.val (.int (3 : Int32))] [(.int (3 : Int32))])) rfl (by rw [hml]; rfl) (argsL := [(.int (3 : Int32))]) (rest := []) (lenOf pd__28I_29I rfl) rfl (by show 2 * 0 + _ ≤ _; exact Nat.le_of_eq rfl) (hb hby d20_1) (fun _ _ => ⟨rfl, e0, (by decide : 0 + 0 ≤ _), (by decide : 0 + 0 ≤ _)⟩)
  dsimp only [Pt.U, Pt.locs, Pt.cells, Pt.slots] at X1 l1 y1 z1 st1 hQ1
  subst l1 y1 z1
  obtain ⟨rfl, N1q, HQ1⟩ := hQ1
  have N1 := Fr.app N0 N1q
  refine Goes.pre (U' := T1.setTop (mkF m 4 #[.val (.int (3 : Int32))] [(.int (6 : Int32))])) (fun t k => st1 t k) ?_
  obtain ⟨T2, h2, k2, X2, e2, E2, A2, B2, st2⟩ := newPE X1 hx hZ (wq hw 23 rfl) HQ1 (g := (mkF m 4 #[.val (.int (3 : Int32))] [(.int (6 : Int32))])) rfl (hb hby d20_4) rfl (by decide) (cap := 6) (by decide) (by decide) (by decide) (by decide) (ad := "[B") (by decide)
  obtain ⟨nb2, g2⟩ : ∃ z, z = h0.size := ⟨_, rfl⟩
  rw [← g2] at A2 B2 st2
  have g_nb2 : n0 ≤ nb2 := Nat.le_trans Z0 (Nat.le_of_eq g2.symm)
  have sz_nb2 : h0.size ≤ nb2 := Nat.le_trans K0.1 (Nat.le_of_eq g2.symm)
  have Z2 : n0 ≤ h2.size := Nat.le_trans Z0 E2.1
  have K2 := K0.ext E2
  have E_nb2 := B2
  have V_nb2 : Arv Z h2 nb2 k2 .byte (6 : Int32) [(.int (0 : Int32)), (.int (0 : Int32)), (.int (0 : Int32)), (.int (0 : Int32)), (.int (0 : Int32)), (.int (0 : Int32))] (.int (0 : Int32)) := (Arv.new A2 (by decide)).pad (pad_rep [] (.int (0 : Int32)) 6)
  refine Goes.pre (U' := T2.setTop (mkF m 6 #[.val (.int (3 : Int32))] [(.ref nb2)])) (fun t k => st2 t k) ?_
  refine Goes.ret X2 (v := (some (.ref nb2))) (fun h => by rw [hret] at h; cases h) hlk (by decide) (by decide) e2 (fun fs hr => retOut X2 hx hret rfl (Or.inr (Or.inr (Or.inr (Or.inr ⟨rfl, rfl, rfl⟩)))) (hb hby d20_6) hr) ?_
  exact ⟨nb2, k2, rfl, N1, K2, V_nb2, g_nb2, sz_nb2⟩
theorem ef_rm_toB3 (m : MethodId) (x0 : Addr) (x1 : Int32) (x2 : Int32) : entryFrame m #[(.ref x0), (.int x1), (.int x2)] 5 = mkF m 0 #[.val (.ref x0), .val (.int x1), .val (.int x2), .unset, .unset] [] := by first | (simp [entryFrame, mkF, argsToLocals, Value.category]; done) | rfl
def Q_rm_toB3 (Z : State) (d : Addr) (kd : ClassId) (c0 : Int32) (c1 : Int32) (c2 : Int32) (h0 : Heap) (n0 : Nat) (v : Option Value) (h : Heap) (L : List Loc) : Prop := ∃ (r : Addr) (kr : ClassId), v = some (.ref r) ∧ Fr n0 L ∧ Keep h0 h [] ∧ Arv Z h r kr .byte (6 : Int32) [(.int (c0 >>> ((0 : Int32) &&& 31)).toInt8.toInt32), (.int (c0 >>> ((8 : Int32) &&& 31)).toInt8.toInt32), (.int (c1 >>> ((0 : Int32) &&& 31)).toInt8.toInt32), (.int (c1 >>> ((8 : Int32) &&& 31)).toInt8.toInt32), (.int (c2 >>> ((0 : Int32) &&& 31)).toInt8.toInt32), (.int (c2 >>> ((8 : Int32) &&& 31)).toInt8.toInt32)] (.int (0 : Int32)) ∧ n0 ≤ r ∧ h0.size ≤ r
set_option maxRecDepth 65536 in
set_option maxHeartbeats 40000000 in
theorem rm_toB3 (l : Launch) (Z : State) (a0 : Array Value) (hw : ∀ d ∈ tables_1, d.before a0 Z = true) (ws : List Jvm.Cond) (d : Addr) (kd : ClassId) (c0 : Int32) (c1 : Int32) (c2 : Int32) (h0 : Heap) (n0 : Nat) (Z0 : n0 ≤ h0.size) (V_d : Arv Z h0 d kd .char (3 : Int32) [(.int c0), (.int c1), (.int c2)] (.int (0 : Int32))) (S__assertionsDisabled : Sta Z Z.heap "java/lang/StringUTF16" "$assertionsDisabled" "Z" (.int (1 : Int32))) (S_HI_BYTE_SHIFT : Sta Z Z.heap "java/lang/StringUTF16" "HI_BYTE_SHIFT" "I" (.int (0 : Int32))) (S_LO_BYTE_SHIFT : Sta Z Z.heap "java/lang/StringUTF16" "LO_BYTE_SHIFT" "I" (.int (8 : Int32))) (O : Old Z n0 h0) :
    Met l Z M19 jdk_52_method_14_code 5 (some (.array .byte)) ws (Rm 2 1 6 24) #[(.ref d), (.int (0 : Int32)), (.int (3 : Int32))] h0 (Q_rm_toB3 Z d kd c0 c1 c2 h0 n0) := by
  refine met_of (plainFor_of_name pn_java_lang_StringUTF16) (own := "java/lang/StringUTF16") rfl (fun m => ef_rm_toB3 m d (0 : Int32) (3 : Int32)) ?_
  intro p e s m below meth c s₁ hx hby hml hown hnm hZ X0 e0 hret hlk
  have N0 := Fr.nil n0
  have K0 := Keep.refl h0 []
  show Goes p e below s _ _ _ (s₁.setTop (mkF m 0 #[.val (.ref d), .val (.int (0 : Int32)), .val (.int (3 : Int32)), .unset, .unset] []))
  refine Goes.pre (U' := s₁.setTop (mkF m 1 #[.val (.ref d), .val (.int (0 : Int32)), .val (.int (3 : Int32)), .unset, .unset] [(.int (3 : Int32))])) (fun t k => XS.iloadN X0.here hx rfl (hb hby d19_0) rfl k) ?_
  have lt_d := V_d.lt
  obtain ⟨_, _, ⟨T1, L1, k1, n1⟩, -, X1, ⟨Lc1, hQ1, l1, y1, z1⟩, st1⟩ := Jvm.LawKit.callS X0 hx (y := (⟨"java/lang/StringUTF16", "newBytesFor", "(I)[B"⟩ : MethodName)) hown (mvT hZ (wq hw 93 rfl)) (mvT hZ (wq hw 94 rfl)) (mvT hZ (wq hw 51 rfl)) (mvT hZ (wq hw 95 rfl)) (by decide) (backOf (W := 0) (rm_nbf3 l Z a0 hw []  h0 n0 Z0 ) hZ (wq hw 95 rfl) (wq hw 51 rfl) (by decide) (by decide)) (g := (mkF m 1 #[.val (.ref d), .val (.int (0 : Int32)), .val (.int (3 : Int32)), .unset, .unset] [(.int (3 : Int32))])) rfl (by rw [hml]; rfl) (argsL := [(.int (3 : Int32))]) (rest := []) (lenOf pd__28I_29_5bB rfl) rfl (by show 2 * 0 + _ ≤ _; exact Nat.le_of_eq rfl) (hb hby d19_1) (fun _ _ => ⟨rfl, e0, (by decide : 0 + 1 ≤ _), (by decide : 0 + 6 ≤ _)⟩)
  dsimp only [Pt.U, Pt.locs, Pt.cells, Pt.slots] at X1 l1 y1 z1 st1 hQ1
  subst l1 y1 z1
  obtain ⟨r1, kr1, rfl, N1q, KQ1, fo0_1, g_r1, sl_r1⟩ := hQ1
  have N1 := Fr.app N0 N1q
  have V_d := V_d.keep KQ1 nin0
  have Z2 : n0 ≤ T1.heap.size := Nat.le_trans Z0 KQ1.1
  have O := O.keep KQ1 all0
  have K2 := K0.trans KQ1 all0
  have ne_d_r1 : d ≠ r1 := Nat.ne_of_lt (Nat.lt_of_lt_of_le lt_d sl_r1)
  have ne_r1_d := ne_d_r1.symm
  have sz_r1 : h0.size ≤ r1 := Nat.le_trans K0.1 sl_r1
  have V_r1 := fo0_1
  refine Goes.pre (U' := T1.setTop (mkF m 11 #[.val (.ref d), .val (.int (0 : Int32)), .val (.int (3 : Int32)), .val (.ref r1), .val (.int (0 : Int32))] [(.int (3 : Int32)), (.int (0 : Int32))])) (fun t k => st1 t (XS.astoreN X1.here hx rfl (hb hby d19_4) rfl rfl (l' := #[.val (.ref d), .val (.int (0 : Int32)), .val (.int (3 : Int32)), .val (.ref r1), .unset]) rfl (XS.iconst X1.here hx rfl (hb hby d19_5) (XS.istore X1.here hx rfl (hb hby d19_6) rfl (l' := #[.val (.ref d), .val (.int (0 : Int32)), .val (.int (3 : Int32)), .val (.ref r1), .val (.int (0 : Int32))]) rfl (XS.iload X1.here hx rfl (hb hby d19_8) rfl (XS.iloadN X1.here hx rfl (hb hby d19_10) rfl k)))))) ?_
  have hc11 : (0 : Int32) < (3 : Int32) := by decide
  refine Goes.pre (U' := T1.setTop (mkF m 19 #[.val (.ref d), .val (.int (0 : Int32)), .val (.int (3 : Int32)), .val (.ref r1), .val (.int (0 : Int32))] [(.int (0 : Int32)), (.ref d), (.int (0 : Int32)), (.ref r1)])) (fun t k => XS.icmpNo X1.here hx rfl (hb hby d19_11) rfl (tlt hc11).2.1 (XS.aloadN X1.here hx rfl (hb hby d19_14) rfl rfl (XS.iload X1.here hx rfl (hb hby d19_15) rfl (XS.aloadN X1.here hx rfl (hb hby d19_17) rfl rfl (XS.iloadN X1.here hx rfl (hb hby d19_18) rfl k))))) ?_
  obtain ⟨cl3, Ar3, q3, Sz3, Ng3, Hs3, Ft3⟩ := id V_d
  have hin3 := inb_of (j := (0 : Int32)) Sz3 ⟨by decide, by decide⟩
  refine Goes.pre (U' := T1.setTop (mkF m 20 #[.val (.ref d), .val (.int (0 : Int32)), .val (.int (3 : Int32)), .val (.ref r1), .val (.int (0 : Int32))] [(.int c0), (.int (0 : Int32)), (.ref r1)])) (fun t k => X1.caload hx (j := (0 : Int32)) (v := (.int c0)) Ar3.1 (State.isArrayOf_alike hZ.alike Ar3.2.1) Ar3.2.2 hin3 (Has.at Hs3 hin3 rfl) (g := (mkF m 19 #[.val (.ref d), .val (.int (0 : Int32)), .val (.int (3 : Int32)), .val (.ref r1), .val (.int (0 : Int32))] [(.int (0 : Int32)), (.ref d), (.int (0 : Int32)), (.ref r1)])) rfl rfl (hb hby d19_19) _ k) ?_
  obtain ⟨_, _, ⟨T4, L4, k4, n4⟩, -, X4, ⟨Lc4, hQ4, l4, y4, z4⟩, st4⟩ := Jvm.LawKit.callS X1 hx (y := (⟨"java/lang/StringUTF16", "putChar", "([BII)V"⟩ : MethodName)) hown (mvT hZ (wq hw 100 rfl)) (mvT hZ (wq hw 101 rfl)) (mvT hZ (wq hw 51 rfl)) (mvT hZ (wq hw 102 rfl)) (by decide) (backOf (W := 0) (rm_putCh30 l Z a0 hw [] r1 kr1 c0 (0 : Int32) (0 : Int32) (0 : Int32) (0 : Int32) (0 : Int32) (0 : Int32) T1.heap n0 Z2 V_r1 S__assertionsDisabled S_HI_BYTE_SHIFT S_LO_BYTE_SHIFT g_r1 O) hZ (wq hw 102 rfl) (wq hw 51 rfl) (by decide) (by decide)) (g := (mkF m 20 #[.val (.ref d), .val (.int (0 : Int32)), .val (.int (3 : Int32)), .val (.ref r1), .val (.int (0 : Int32))] [(.int c0), (.int (0 : Int32)), (.ref r1)])) rfl (by rw [hml]; rfl) (argsL := [(.ref r1), (.int (0 : Int32)), (.int c0)]) (rest := []) (lenOf pd__28_5bBII_29V rfl) rfl (by show 2 * 0 + _ ≤ _; exact Nat.le_of_eq rfl) (hb hby d19_20) (fun _ _ => ⟨rfl, rfl, (by decide : 1 + 0 ≤ _), (by decide : 6 + 0 ≤ _)⟩)
  dsimp only [Pt.U, Pt.locs, Pt.cells, Pt.slots] at X4 l4 y4 z4 st4 hQ4
  subst l4 y4 z4
  obtain ⟨rfl, N4q, KQ4, fo0_4⟩ := hQ4
  have N4 := Fr.app N1 N4q
  have V_d := V_d.keep KQ4 (ninS ne_d_r1 nin0)
  have Z5 : n0 ≤ T4.heap.size := Nat.le_trans Z2 KQ4.1
  have O := O.keep KQ4 (allS (P := fun x => n0 ≤ x) g_r1 all0)
  have K5 := K2.trans KQ4 (allS (P := fun x => x ∈ [] ∨ h0.size ≤ x) (Or.inr sz_r1) all0)
  have V_r1 := fo0_4
  refine Goes.pre (U' := T4.setTop (mkF m 26 #[.val (.ref d), .val (.int ((0 : Int32) + (1 : Int32))), .val (.int (3 : Int32)), .val (.ref r1), .val (.int (0 : Int32))] [])) (fun t k => st4 t (XT.iincV X4.here hx rfl (1 : Int32) (hb hby d19_23) (by decide) rfl (l' := #[.val (.ref d), .val (.int ((0 : Int32) + (1 : Int32))), .val (.int (3 : Int32)), .val (.ref r1), .val (.int (0 : Int32))]) rfl k)) ?_
  rw [(by decide : ((0 : Int32) + (1 : Int32)) = (1 : Int32))]
  refine Goes.pre (U' := T4.setTop (mkF m 29 #[.val (.ref d), .val (.int (1 : Int32)), .val (.int (3 : Int32)), .val (.ref r1), .val (.int ((0 : Int32) + (1 : Int32)))] [])) (fun t k => XT.iincV X4.here hx rfl (1 : Int32) (hb hby d19_26) (by decide) rfl (l' := #[.val (.ref d), .val (.int (1 : Int32)), .val (.int (3 : Int32)), .val (.ref r1), .val (.int ((0 : Int32) + (1 : Int32)))]) rfl k) ?_
  rw [(by decide : ((0 : Int32) + (1 : Int32)) = (1 : Int32))]
  refine Goes.pre (U' := T4.setTop (mkF m 11 #[.val (.ref d), .val (.int (1 : Int32)), .val (.int (3 : Int32)), .val (.ref r1), .val (.int (1 : Int32))] [(.int (3 : Int32)), (.int (1 : Int32))])) (fun t k => XS.goto X4.here hx rfl (pc0 := 29) (pc' := 8) rfl (hb hby d19_29) (by decide) (by decide) (XS.iload X4.here hx rfl (hb hby d19_8) rfl (XS.iloadN X4.here hx rfl (hb hby d19_10) rfl k))) ?_
  have hc11 : (1 : Int32) < (3 : Int32) := by decide
  refine Goes.pre (U' := T4.setTop (mkF m 19 #[.val (.ref d), .val (.int (1 : Int32)), .val (.int (3 : Int32)), .val (.ref r1), .val (.int (1 : Int32))] [(.int (1 : Int32)), (.ref d), (.int (1 : Int32)), (.ref r1)])) (fun t k => XS.icmpNo X4.here hx rfl (hb hby d19_11) rfl (tlt hc11).2.1 (XS.aloadN X4.here hx rfl (hb hby d19_14) rfl rfl (XS.iload X4.here hx rfl (hb hby d19_15) rfl (XS.aloadN X4.here hx rfl (hb hby d19_17) rfl rfl (XS.iloadN X4.here hx rfl (hb hby d19_18) rfl k))))) ?_
  obtain ⟨cl6, Ar6, q6, Sz6, Ng6, Hs6, Ft6⟩ := id V_d
  have hin6 := inb_of (j := (1 : Int32)) Sz6 ⟨by decide, by decide⟩
  refine Goes.pre (U' := T4.setTop (mkF m 20 #[.val (.ref d), .val (.int (1 : Int32)), .val (.int (3 : Int32)), .val (.ref r1), .val (.int (1 : Int32))] [(.int c1), (.int (1 : Int32)), (.ref r1)])) (fun t k => X4.caload hx (j := (1 : Int32)) (v := (.int c1)) Ar6.1 (State.isArrayOf_alike hZ.alike Ar6.2.1) Ar6.2.2 hin6 (Has.at Hs6 hin6 rfl) (g := (mkF m 19 #[.val (.ref d), .val (.int (1 : Int32)), .val (.int (3 : Int32)), .val (.ref r1), .val (.int (1 : Int32))] [(.int (1 : Int32)), (.ref d), (.int (1 : Int32)), (.ref r1)])) rfl rfl (hb hby d19_19) _ k) ?_
  obtain ⟨_, _, ⟨T7, L7, k7, n7⟩, -, X7, ⟨Lc7, hQ7, l7, y7, z7⟩, st7⟩ := Jvm.LawKit.callS X4 hx (y := (⟨"java/lang/StringUTF16", "putChar", "([BII)V"⟩ : MethodName)) hown (mvT hZ (wq hw 100 rfl)) (mvT hZ (wq hw 101 rfl)) (mvT hZ (wq hw 51 rfl)) (mvT hZ (wq hw 102 rfl)) (by decide) (backOf (W := 0) (rm_putCh31 l Z a0 hw [] r1 kr1 c1 (c0 >>> ((0 : Int32) &&& 31)).toInt8.toInt32 (c0 >>> ((8 : Int32) &&& 31)).toInt8.toInt32 (0 : Int32) (0 : Int32) (0 : Int32) (0 : Int32) T4.heap n0 Z5 V_r1 S__assertionsDisabled S_HI_BYTE_SHIFT S_LO_BYTE_SHIFT g_r1 O) hZ (wq hw 102 rfl) (wq hw 51 rfl) (by decide) (by decide)) (g := (mkF m 20 #[.val (.ref d), .val (.int (1 : Int32)), .val (.int (3 : Int32)), .val (.ref r1), .val (.int (1 : Int32))] [(.int c1), (.int (1 : Int32)), (.ref r1)])) rfl (by rw [hml]; rfl) (argsL := [(.ref r1), (.int (1 : Int32)), (.int c1)]) (rest := []) (lenOf pd__28_5bBII_29V rfl) rfl (by show 2 * 0 + _ ≤ _; exact Nat.le_of_eq rfl) (hb hby d19_20) (fun _ _ => ⟨rfl, rfl, (by decide : 1 + 0 ≤ _), (by decide : 6 + 0 ≤ _)⟩)
  dsimp only [Pt.U, Pt.locs, Pt.cells, Pt.slots] at X7 l7 y7 z7 st7 hQ7
  subst l7 y7 z7
  obtain ⟨rfl, N7q, KQ7, fo0_7⟩ := hQ7
  have N7 := Fr.app N4 N7q
  have V_d := V_d.keep KQ7 (ninS ne_d_r1 nin0)
  have Z8 : n0 ≤ T7.heap.size := Nat.le_trans Z5 KQ7.1
  have O := O.keep KQ7 (allS (P := fun x => n0 ≤ x) g_r1 all0)
  have K8 := K5.trans KQ7 (allS (P := fun x => x ∈ [] ∨ h0.size ≤ x) (Or.inr sz_r1) all0)
  have V_r1 := fo0_7
  refine Goes.pre (U' := T7.setTop (mkF m 26 #[.val (.ref d), .val (.int ((1 : Int32) + (1 : Int32))), .val (.int (3 : Int32)), .val (.ref r1), .val (.int (1 : Int32))] [])) (fun t k => st7 t (XT.iincV X7.here hx rfl (1 : Int32) (hb hby d19_23) (by decide) rfl (l' := #[.val (.ref d), .val (.int ((1 : Int32) + (1 : Int32))), .val (.int (3 : Int32)), .val (.ref r1), .val (.int (1 : Int32))]) rfl k)) ?_
  rw [(by decide : ((1 : Int32) + (1 : Int32)) = (2 : Int32))]
  refine Goes.pre (U' := T7.setTop (mkF m 29 #[.val (.ref d), .val (.int (2 : Int32)), .val (.int (3 : Int32)), .val (.ref r1), .val (.int ((1 : Int32) + (1 : Int32)))] [])) (fun t k => XT.iincV X7.here hx rfl (1 : Int32) (hb hby d19_26) (by decide) rfl (l' := #[.val (.ref d), .val (.int (2 : Int32)), .val (.int (3 : Int32)), .val (.ref r1), .val (.int ((1 : Int32) + (1 : Int32)))]) rfl k) ?_
  rw [(by decide : ((1 : Int32) + (1 : Int32)) = (2 : Int32))]
  refine Goes.pre (U' := T7.setTop (mkF m 11 #[.val (.ref d), .val (.int (2 : Int32)), .val (.int (3 : Int32)), .val (.ref r1), .val (.int (2 : Int32))] [(.int (3 : Int32)), (.int (2 : Int32))])) (fun t k => XS.goto X7.here hx rfl (pc0 := 29) (pc' := 8) rfl (hb hby d19_29) (by decide) (by decide) (XS.iload X7.here hx rfl (hb hby d19_8) rfl (XS.iloadN X7.here hx rfl (hb hby d19_10) rfl k))) ?_
  have hc11 : (2 : Int32) < (3 : Int32) := by decide
  refine Goes.pre (U' := T7.setTop (mkF m 19 #[.val (.ref d), .val (.int (2 : Int32)), .val (.int (3 : Int32)), .val (.ref r1), .val (.int (2 : Int32))] [(.int (2 : Int32)), (.ref d), (.int (2 : Int32)), (.ref r1)])) (fun t k => XS.icmpNo X7.here hx rfl (hb hby d19_11) rfl (tlt hc11).2.1 (XS.aloadN X7.here hx rfl (hb hby d19_14) rfl rfl (XS.iload X7.here hx rfl (hb hby d19_15) rfl (XS.aloadN X7.here hx rfl (hb hby d19_17) rfl rfl (XS.iloadN X7.here hx rfl (hb hby d19_18) rfl k))))) ?_
  obtain ⟨cl9, Ar9, q9, Sz9, Ng9, Hs9, Ft9⟩ := id V_d
  have hin9 := inb_of (j := (2 : Int32)) Sz9 ⟨by decide, by decide⟩
  refine Goes.pre (U' := T7.setTop (mkF m 20 #[.val (.ref d), .val (.int (2 : Int32)), .val (.int (3 : Int32)), .val (.ref r1), .val (.int (2 : Int32))] [(.int c2), (.int (2 : Int32)), (.ref r1)])) (fun t k => X7.caload hx (j := (2 : Int32)) (v := (.int c2)) Ar9.1 (State.isArrayOf_alike hZ.alike Ar9.2.1) Ar9.2.2 hin9 (Has.at Hs9 hin9 rfl) (g := (mkF m 19 #[.val (.ref d), .val (.int (2 : Int32)), .val (.int (3 : Int32)), .val (.ref r1), .val (.int (2 : Int32))] [(.int (2 : Int32)), (.ref d), (.int (2 : Int32)), (.ref r1)])) rfl rfl (hb hby d19_19) _ k) ?_
  obtain ⟨_, _, ⟨T10, L10, k10, n10⟩, -, X10, ⟨Lc10, hQ10, l10, y10, z10⟩, st10⟩ := Jvm.LawKit.callS X7 hx (y := (⟨"java/lang/StringUTF16", "putChar", "([BII)V"⟩ : MethodName)) hown (mvT hZ (wq hw 100 rfl)) (mvT hZ (wq hw 101 rfl)) (mvT hZ (wq hw 51 rfl)) (mvT hZ (wq hw 102 rfl)) (by decide) (backOf (W := 0) (rm_putCh32 l Z a0 hw [] r1 kr1 c2 (c0 >>> ((0 : Int32) &&& 31)).toInt8.toInt32 (c0 >>> ((8 : Int32) &&& 31)).toInt8.toInt32 (c1 >>> ((0 : Int32) &&& 31)).toInt8.toInt32 (c1 >>> ((8 : Int32) &&& 31)).toInt8.toInt32 (0 : Int32) (0 : Int32) T7.heap n0 Z8 V_r1 S__assertionsDisabled S_HI_BYTE_SHIFT S_LO_BYTE_SHIFT g_r1 O) hZ (wq hw 102 rfl) (wq hw 51 rfl) (by decide) (by decide)) (g := (mkF m 20 #[.val (.ref d), .val (.int (2 : Int32)), .val (.int (3 : Int32)), .val (.ref r1), .val (.int (2 : Int32))] [(.int c2), (.int (2 : Int32)), (.ref r1)])) rfl (by rw [hml]; rfl) (argsL := [(.ref r1), (.int (2 : Int32)), (.int c2)]) (rest := []) (lenOf pd__28_5bBII_29V rfl) rfl (by show 2 * 0 + _ ≤ _; exact Nat.le_of_eq rfl) (hb hby d19_20) (fun _ _ => ⟨rfl, rfl, (by decide : 1 + 0 ≤ _), (by decide : 6 + 0 ≤ _)⟩)
  dsimp only [Pt.U, Pt.locs, Pt.cells, Pt.slots] at X10 l10 y10 z10 st10 hQ10
  subst l10 y10 z10
  obtain ⟨rfl, N10q, KQ10, fo0_10⟩ := hQ10
  have N10 := Fr.app N7 N10q
  have V_d := V_d.keep KQ10 (ninS ne_d_r1 nin0)
  have Z11 : n0 ≤ T10.heap.size := Nat.le_trans Z8 KQ10.1
  have O := O.keep KQ10 (allS (P := fun x => n0 ≤ x) g_r1 all0)
  have K11 := K8.trans KQ10 (allS (P := fun x => x ∈ [] ∨ h0.size ≤ x) (Or.inr sz_r1) all0)
  have V_r1 := fo0_10
  refine Goes.pre (U' := T10.setTop (mkF m 26 #[.val (.ref d), .val (.int ((2 : Int32) + (1 : Int32))), .val (.int (3 : Int32)), .val (.ref r1), .val (.int (2 : Int32))] [])) (fun t k => st10 t (XT.iincV X10.here hx rfl (1 : Int32) (hb hby d19_23) (by decide) rfl (l' := #[.val (.ref d), .val (.int ((2 : Int32) + (1 : Int32))), .val (.int (3 : Int32)), .val (.ref r1), .val (.int (2 : Int32))]) rfl k)) ?_
  rw [(by decide : ((2 : Int32) + (1 : Int32)) = (3 : Int32))]
  refine Goes.pre (U' := T10.setTop (mkF m 29 #[.val (.ref d), .val (.int (3 : Int32)), .val (.int (3 : Int32)), .val (.ref r1), .val (.int ((2 : Int32) + (1 : Int32)))] [])) (fun t k => XT.iincV X10.here hx rfl (1 : Int32) (hb hby d19_26) (by decide) rfl (l' := #[.val (.ref d), .val (.int (3 : Int32)), .val (.int (3 : Int32)), .val (.ref r1), .val (.int ((2 : Int32) + (1 : Int32)))]) rfl k) ?_
  rw [(by decide : ((2 : Int32) + (1 : Int32)) = (3 : Int32))]
  refine Goes.pre (U' := T10.setTop (mkF m 11 #[.val (.ref d), .val (.int (3 : Int32)), .val (.int (3 : Int32)), .val (.ref r1), .val (.int (3 : Int32))] [(.int (3 : Int32)), (.int (3 : Int32))])) (fun t k => XS.goto X10.here hx rfl (pc0 := 29) (pc' := 8) rfl (hb hby d19_29) (by decide) (by decide) (XS.iload X10.here hx rfl (hb hby d19_8) rfl (XS.iloadN X10.here hx rfl (hb hby d19_10) rfl k))) ?_
  have hc11 : ¬ ((3 : Int32) < (3 : Int32)) := by decide
  refine Goes.pre (U' := T10.setTop (mkF m 33 #[.val (.ref d), .val (.int (3 : Int32)), .val (.int (3 : Int32)), .val (.ref r1), .val (.int (3 : Int32))] [(.ref r1)])) (fun t k => XS.icmpYes X10.here hx rfl (pc0 := 11) (pc' := 32) rfl (hb hby d19_11) rfl (flt hc11).2.1 (by decide) (by decide) (XS.aloadN X10.here hx rfl (hb hby d19_32) rfl rfl k)) ?_
  refine Goes.ret X10 (v := (some (.ref r1))) (fun h => by rw [hret] at h; cases h) hlk (by decide) (by decide) rfl (fun fs hr => retOut X10 hx hret rfl (Or.inr (Or.inr (Or.inr (Or.inr ⟨rfl, rfl, rfl⟩)))) (hb hby d19_33) hr) ?_
  exact ⟨r1, kr1, rfl, N10, K11, V_r1, g_r1, sz_r1⟩
theorem ef_rm_cmpI30 (m : MethodId) (x0 : Addr) (x1 : Int32) (x2 : Addr) (x3 : Int32) (x4 : Int32) : entryFrame m #[(.ref x0), (.int x1), (.ref x2), (.int x3), (.int x4)] 7 = mkF m 0 #[.val (.ref x0), .val (.int x1), .val (.ref x2), .val (.int x3), .val (.int x4), .unset, .unset] [] := by first | (simp [entryFrame, mkF, argsToLocals, Value.category]; done) | rfl
def Q_rm_cmpI30 (Z : State) (d : Addr) (kd : ClassId) (c0 : Int32) (c1 : Int32) (c2 : Int32) (b : Addr) (kb : ClassId) (h0 : Heap) (n0 : Nat) (v : Option Value) (h : Heap) (L : List Loc) : Prop := v = some (.int (0 : Int32)) ∧ Fr n0 L ∧ Keep h0 h [b] ∧ Arv Z h b kb .byte (3 : Int32) [(.int (0 : Int32)), (.int (0 : Int32)), (.int (0 : Int32))] (.int (0 : Int32))
set_option maxRecDepth 65536 in
set_option maxHeartbeats 40000000 in
theorem rm_cmpI30 (l : Launch) (Z : State) (a0 : Array Value) (hw : ∀ d ∈ tables_1, d.before a0 Z = true) (ws : List Jvm.Cond) (d : Addr) (kd : ClassId) (c0 : Int32) (c1 : Int32) (c2 : Int32) (b : Addr) (kb : ClassId) (h0 : Heap) (n0 : Nat) (Z0 : n0 ≤ h0.size) (V_d : Arv Z h0 d kd .char (3 : Int32) [(.int c0), (.int c1), (.int c2)] (.int (0 : Int32))) (V_b : Arv Z h0 b kb .byte (3 : Int32) [(.int (0 : Int32)), (.int (0 : Int32)), (.int (0 : Int32))] (.int (0 : Int32))) (hgt : (255 : Int32) < c0) (ne_d_b : d ≠ b) (g_b : n0 ≤ b) :
    Met l Z M10 jdk_52_method_21_code 7 (some .int) ws (Rm 0 0 0 0) #[(.ref d), (.int (0 : Int32)), (.ref b), (.int (0 : Int32)), (.int (3 : Int32))] h0 (Q_rm_cmpI30 Z d kd c0 c1 c2 b kb h0 n0) := by
  refine met_of (plainFor_of_name pn_java_lang_StringUTF16) (own := "java/lang/StringUTF16") rfl (fun m => ef_rm_cmpI30 m d (0 : Int32) b (0 : Int32) (3 : Int32)) ?_
  intro p e s m below meth c s₁ hx hby hml hown hnm hZ X0 e0 hret hlk
  have N0 := Fr.nil n0
  have K0 := Keep.refl h0 [b]
  show Goes p e below s _ _ _ (s₁.setTop (mkF m 0 #[.val (.ref d), .val (.int (0 : Int32)), .val (.ref b), .val (.int (0 : Int32)), .val (.int (3 : Int32)), .unset, .unset] []))
  refine Goes.pre (U' := s₁.setTop (mkF m 7 #[.val (.ref d), .val (.int (0 : Int32)), .val (.ref b), .val (.int (0 : Int32)), .val (.int (3 : Int32)), .val (.int (0 : Int32)), .unset] [(.int (3 : Int32)), (.int (0 : Int32))])) (fun t k => XS.iconst X0.here hx rfl (hb hby d10_0) (XS.istore X0.here hx rfl (hb hby d10_1) rfl (l' := #[.val (.ref d), .val (.int (0 : Int32)), .val (.ref b), .val (.int (0 : Int32)), .val (.int (3 : Int32)), .val (.int (0 : Int32)), .unset]) rfl (XS.iload X0.here hx rfl (hb hby d10_3) rfl (XS.iload X0.here hx rfl (hb hby d10_5) rfl k)))) ?_
  have hc7 : (0 : Int32) < (3 : Int32) := by decide
  refine Goes.pre (U' := s₁.setTop (mkF m 12 #[.val (.ref d), .val (.int (0 : Int32)), .val (.ref b), .val (.int (0 : Int32)), .val (.int (3 : Int32)), .val (.int (0 : Int32)), .unset] [(.int (0 : Int32)), (.ref d)])) (fun t k => XS.icmpNo X0.here hx rfl (hb hby d10_7) rfl (tlt hc7).2.1 (XS.aloadN X0.here hx rfl (hb hby d10_10) rfl rfl (XS.iloadN X0.here hx rfl (hb hby d10_11) rfl k))) ?_
  obtain ⟨cl1, Ar1, q1, Sz1, Ng1, Hs1, Ft1⟩ := id V_d
  have hin1 := inb_of (j := (0 : Int32)) Sz1 ⟨by decide, by decide⟩
  refine Goes.pre (U' := s₁.setTop (mkF m 20 #[.val (.ref d), .val (.int (0 : Int32)), .val (.ref b), .val (.int (0 : Int32)), .val (.int (3 : Int32)), .val (.int (0 : Int32)), .val (.int c0)] [(.int (255 : Int32)), (.int c0)])) (fun t k => X0.caload hx (j := (0 : Int32)) (v := (.int c0)) (by rw [e0]; exact Ar1.1) (State.isArrayOf_alike hZ.alike Ar1.2.1) Ar1.2.2 hin1 (Has.at Hs1 hin1 rfl) (g := (mkF m 12 #[.val (.ref d), .val (.int (0 : Int32)), .val (.ref b), .val (.int (0 : Int32)), .val (.int (3 : Int32)), .val (.int (0 : Int32)), .unset] [(.int (0 : Int32)), (.ref d)])) rfl rfl (hb hby d10_12) _ (XS.istore X0.here hx rfl (hb hby d10_13) rfl (l' := #[.val (.ref d), .val (.int (0 : Int32)), .val (.ref b), .val (.int (0 : Int32)), .val (.int (3 : Int32)), .val (.int (0 : Int32)), .val (.int c0)]) rfl (XS.iload X0.here hx rfl (hb hby d10_15) rfl (XS.sipush X0.here hx rfl (hb hby d10_17) k)))) ?_
  have hc20 : (255 : Int32) < c0 := hgt
  refine Goes.pre (U' := s₁.setTop (mkF m 25 #[.val (.ref d), .val (.int (0 : Int32)), .val (.ref b), .val (.int (0 : Int32)), .val (.int (3 : Int32)), .val (.int (0 : Int32)), .val (.int c0)] [(.int (0 : Int32))])) (fun t k => XS.icmpNo X0.here hx rfl (hb hby d10_20) rfl (tlt hc20).2.2.2 (XS.iload X0.here hx rfl (hb hby d10_23) rfl k)) ?_
  refine Goes.ret X0 (v := (some (.int (0 : Int32)))) (fun h => by rw [hret] at h; cases h) hlk (by decide) (by decide) e0 (fun fs hr => retI X0 hx hret (hb hby d10_25) hr) ?_
  exact ⟨rfl, N0, K0, V_b⟩
theorem ef_rm_cmp30 (m : MethodId) (x0 : Addr) (x1 : Int32) (x2 : Int32) : entryFrame m #[(.ref x0), (.int x1), (.int x2)] 6 = mkF m 0 #[.val (.ref x0), .val (.int x1), .val (.int x2), .unset, .unset, .unset] [] := by first | (simp [entryFrame, mkF, argsToLocals, Value.category]; done) | rfl
def Q_rm_cmp30 (Z : State) (d : Addr) (kd : ClassId) (c0 : Int32) (c1 : Int32) (c2 : Int32) (h0 : Heap) (n0 : Nat) (v : Option Value) (h : Heap) (L : List Loc) : Prop := ∃ (r : Addr) (kr : ClassId), v = some (.ref r) ∧ Fr n0 L ∧ Keep h0 h [] ∧ Arv Z h r kr .byte (6 : Int32) [(.int (c0 >>> ((0 : Int32) &&& 31)).toInt8.toInt32), (.int (c0 >>> ((8 : Int32) &&& 31)).toInt8.toInt32), (.int (c1 >>> ((0 : Int32) &&& 31)).toInt8.toInt32), (.int (c1 >>> ((8 : Int32) &&& 31)).toInt8.toInt32), (.int (c2 >>> ((0 : Int32) &&& 31)).toInt8.toInt32), (.int (c2 >>> ((8 : Int32) &&& 31)).toInt8.toInt32)] (.int (0 : Int32)) ∧ n0 ≤ r ∧ h0.size ≤ r
set_option maxRecDepth 65536 in
set_option maxHeartbeats 40000000 in
theorem rm_cmp30 (l : Launch) (Z : State) (a0 : Array Value) (hw : ∀ d ∈ tables_1, d.before a0 Z = true) (ws : List Jvm.Cond) (d : Addr) (kd : ClassId) (c0 : Int32) (c1 : Int32) (c2 : Int32) (h0 : Heap) (n0 : Nat) (Z0 : n0 ≤ h0.size) (V_d : Arv Z h0 d kd .char (3 : Int32) [(.int c0), (.int c1), (.int c2)] (.int (0 : Int32))) (S__assertionsDisabled : Sta Z Z.heap "java/lang/StringUTF16" "$assertionsDisabled" "Z" (.int (1 : Int32))) (S_HI_BYTE_SHIFT : Sta Z Z.heap "java/lang/StringUTF16" "HI_BYTE_SHIFT" "I" (.int (0 : Int32))) (S_LO_BYTE_SHIFT : Sta Z Z.heap "java/lang/StringUTF16" "LO_BYTE_SHIFT" "I" (.int (8 : Int32))) (hgt : (255 : Int32) < c0) (hch : OwnCh c0) (O : Old Z n0 h0) :
    Met l Z M9 jdk_52_method_16_code 6 (some (.array .byte)) ws (Rm 3 2 9 40) #[(.ref d), (.int (0 : Int32)), (.int (3 : Int32))] h0 (Q_rm_cmp30 Z d kd c0 c1 c2 h0 n0) := by
  refine met_of (plainFor_of_name pn_java_lang_StringUTF16) (own := "java/lang/StringUTF16") rfl (fun m => ef_rm_cmp30 m d (0 : Int32) (3 : Int32)) ?_
  intro p e s m below meth c s₁ hx hby hml hown hnm hZ X0 e0 hret hlk
  have N0 := Fr.nil n0
  have K0 := Keep.refl h0 []
  show Goes p e below s _ _ _ (s₁.setTop (mkF m 0 #[.val (.ref d), .val (.int (0 : Int32)), .val (.int (3 : Int32)), .unset, .unset, .unset] []))
  refine Goes.pre (U' := s₁.setTop (mkF m 1 #[.val (.ref d), .val (.int (0 : Int32)), .val (.int (3 : Int32)), .unset, .unset, .unset] [(.int (3 : Int32))])) (fun t k => XS.iloadN X0.here hx rfl (hb hby d9_0) rfl k) ?_
  obtain ⟨T1, h1, k1, X1, e1, E1, A1, B1, st1⟩ := newPE X0 hx hZ (wq hw 23 rfl) e0 (g := (mkF m 1 #[.val (.ref d), .val (.int (0 : Int32)), .val (.int (3 : Int32)), .unset, .unset, .unset] [(.int (3 : Int32))])) rfl (hb hby d9_1) rfl (by decide) (cap := 3) (by decide) (by decide) (by decide) (by decide) (ad := "[B") (by decide)
  obtain ⟨nb1, g1⟩ : ∃ z, z = h0.size := ⟨_, rfl⟩
  rw [← g1] at A1 B1 st1
  have ne_d_nb1 : d ≠ nb1 := Nat.ne_of_lt (Nat.lt_of_lt_of_le V_d.lt (Nat.le_of_eq g1.symm))
  have ne_nb1_d := ne_d_nb1.symm
  have g_nb1 : n0 ≤ nb1 := Nat.le_trans Z0 (Nat.le_of_eq g1.symm)
  have sz_nb1 : h0.size ≤ nb1 := Nat.le_trans K0.1 (Nat.le_of_eq g1.symm)
  have V_d := V_d.ext E1
  have O := O.ext E1
  have Z1 : n0 ≤ h1.size := Nat.le_trans Z0 E1.1
  have K1 := K0.ext E1
  have E_nb1 := B1
  have V_nb1 : Arv Z h1 nb1 k1 .byte (3 : Int32) [(.int (0 : Int32)), (.int (0 : Int32)), (.int (0 : Int32))] (.int (0 : Int32)) := (Arv.new A1 (by decide)).pad (pad_rep [] (.int (0 : Int32)) 3)
  refine Goes.pre (U' := T1.setTop (mkF m 9 #[.val (.ref d), .val (.int (0 : Int32)), .val (.int (3 : Int32)), .val (.ref nb1), .unset, .unset] [(.int (3 : Int32)), (.int (0 : Int32)), (.ref nb1), (.int (0 : Int32)), (.ref d)])) (fun t k => st1 t (XS.astoreN X1.here hx rfl (hb hby d9_3) rfl rfl (l' := #[.val (.ref d), .val (.int (0 : Int32)), .val (.int (3 : Int32)), .val (.ref nb1), .unset, .unset]) rfl (XS.aloadN X1.here hx rfl (hb hby d9_4) rfl rfl (XS.iloadN X1.here hx rfl (hb hby d9_5) rfl (XS.aloadN X1.here hx rfl (hb hby d9_6) rfl rfl (XS.iconst X1.here hx rfl (hb hby d9_7) (XS.iloadN X1.here hx rfl (hb hby d9_8) rfl k))))))) ?_
  obtain ⟨_, _, ⟨T2, L2, k2, n2⟩, -, X2, ⟨Lc2, hQ2, l2, y2, z2⟩, st2⟩ := Jvm.LawKit.callS X1 hx (y := (⟨"java/lang/StringUTF16", "compress", "([CI[BII)I"⟩ : MethodName)) hown (mvT hZ (wq hw 53 rfl)) (mvT hZ (wq hw 54 rfl)) (mvT hZ (wq hw 51 rfl)) (mvT hZ (wq hw 55 rfl)) (by decide) (backOf (W := 0) (rm_cmpI30 l Z a0 hw [] d kd c0 c1 c2 nb1 k1 h1 n0 Z1 V_d V_nb1 hgt ne_d_nb1 g_nb1) hZ (wq hw 55 rfl) (wq hw 51 rfl) (by decide) (by decide)) (g := (mkF m 9 #[.val (.ref d), .val (.int (0 : Int32)), .val (.int (3 : Int32)), .val (.ref nb1), .unset, .unset] [(.int (3 : Int32)), (.int (0 : Int32)), (.ref nb1), (.int (0 : Int32)), (.ref d)])) rfl (by rw [hml]; rfl) (argsL := [(.ref d), (.int (0 : Int32)), (.ref nb1), (.int (0 : Int32)), (.int (3 : Int32))]) (rest := []) (lenOf pd__28_5bCI_5bBII_29I rfl) rfl (by show 2 * 0 + _ ≤ _; exact Nat.le_of_eq rfl) (hb hby d9_9) (fun _ _ => ⟨rfl, e1, (by decide : 1 + 0 ≤ _), (by decide : 3 + 0 ≤ _)⟩)
  dsimp only [Pt.U, Pt.locs, Pt.cells, Pt.slots] at X2 l2 y2 z2 st2 hQ2
  subst l2 y2 z2
  obtain ⟨rfl, N2q, KQ2, fo0_2⟩ := hQ2
  have N2 := Fr.app N0 N2q
  have V_d := V_d.keep KQ2 (ninS ne_d_nb1 nin0)
  have E_nb1 := E_nb1.keep KQ2
  have Z3 : n0 ≤ T2.heap.size := Nat.le_trans Z1 KQ2.1
  have O := O.keep KQ2 (allS (P := fun x => n0 ≤ x) g_nb1 all0)
  have K3 := K1.trans KQ2 (allS (P := fun x => x ∈ [] ∨ h0.size ≤ x) (Or.inr sz_nb1) all0)
  have V_nb1 := fo0_2
  refine Goes.pre (U' := T2.setTop (mkF m 17 #[.val (.ref d), .val (.int (0 : Int32)), .val (.int (3 : Int32)), .val (.ref nb1), .val (.int (0 : Int32)), .unset] [(.int (3 : Int32)), (.int (0 : Int32))])) (fun t k => st2 t (XS.istore X2.here hx rfl (hb hby d9_12) rfl (l' := #[.val (.ref d), .val (.int (0 : Int32)), .val (.int (3 : Int32)), .val (.ref nb1), .val (.int (0 : Int32)), .unset]) rfl (XS.iload X2.here hx rfl (hb hby d9_14) rfl (XS.iloadN X2.here hx rfl (hb hby d9_16) rfl k)))) ?_
  have hc17 : ¬ ((0 : Int32) = (3 : Int32)) := by decide
  refine Goes.pre (U' := T2.setTop (mkF m 23 #[.val (.ref d), .val (.int (0 : Int32)), .val (.int (3 : Int32)), .val (.ref nb1), .val (.int (0 : Int32)), .unset] [(.int (3 : Int32)), (.int (0 : Int32)), (.ref d)])) (fun t k => XS.icmpNo X2.here hx rfl (hb hby d9_17) rfl (feq hc17).1 (XS.aloadN X2.here hx rfl (hb hby d9_20) rfl rfl (XS.iloadN X2.here hx rfl (hb hby d9_21) rfl (XS.iloadN X2.here hx rfl (hb hby d9_22) rfl k)))) ?_
  have lt_d := V_d.lt
  have lt_nb1 := E_nb1.lt
  obtain ⟨_, _, ⟨T4, L4, k4, n4⟩, -, X4, ⟨Lc4, hQ4, l4, y4, z4⟩, st4⟩ := Jvm.LawKit.callS X2 hx (y := (⟨"java/lang/StringUTF16", "toBytes", "([CII)[B"⟩ : MethodName)) hown (mvT hZ (wq hw 90 rfl)) (mvT hZ (wq hw 91 rfl)) (mvT hZ (wq hw 51 rfl)) (mvT hZ (wq hw 92 rfl)) (by decide) (backOf (W := 0) (rm_toB3 l Z a0 hw [] d kd c0 c1 c2 T2.heap n0 Z3 V_d S__assertionsDisabled S_HI_BYTE_SHIFT S_LO_BYTE_SHIFT O) hZ (wq hw 92 rfl) (wq hw 51 rfl) (by decide) (by decide)) (g := (mkF m 23 #[.val (.ref d), .val (.int (0 : Int32)), .val (.int (3 : Int32)), .val (.ref nb1), .val (.int (0 : Int32)), .unset] [(.int (3 : Int32)), (.int (0 : Int32)), (.ref d)])) rfl (by rw [hml]; rfl) (argsL := [(.ref d), (.int (0 : Int32)), (.int (3 : Int32))]) (rest := []) (lenOf pd__28_5bCII_29_5bB rfl) rfl (by show 2 * 0 + _ ≤ _; exact Nat.le_of_eq rfl) (hb hby d9_23) (fun _ _ => ⟨rfl, rfl, (by decide : 1 + 1 ≤ _), (by decide : 3 + 6 ≤ _)⟩)
  dsimp only [Pt.U, Pt.locs, Pt.cells, Pt.slots] at X4 l4 y4 z4 st4 hQ4
  subst l4 y4 z4
  obtain ⟨r4, kr4, rfl, N4q, KQ4, fo0_4, g_r4, sl_r4⟩ := hQ4
  have N4 := Fr.app N2 N4q
  have V_d := V_d.keep KQ4 nin0
  have E_nb1 := E_nb1.keep KQ4
  have V_nb1 := V_nb1.keep KQ4 nin0
  have Z5 : n0 ≤ T4.heap.size := Nat.le_trans Z3 KQ4.1
  have O := O.keep KQ4 all0
  have K5 := K3.trans KQ4 all0
  have ne_d_r4 : d ≠ r4 := Nat.ne_of_lt (Nat.lt_of_lt_of_le lt_d sl_r4)
  have ne_r4_d := ne_d_r4.symm
  have ne_nb1_r4 : nb1 ≠ r4 := Nat.ne_of_lt (Nat.lt_of_lt_of_le lt_nb1 sl_r4)
  have ne_r4_nb1 := ne_nb1_r4.symm
  have sz_r4 : h0.size ≤ r4 := Nat.le_trans K3.1 sl_r4
  have V_r4 := fo0_4
  refine Goes.pre (U' := T4.setTop (mkF m 32 #[.val (.ref d), .val (.int (0 : Int32)), .val (.int (3 : Int32)), .val (.ref nb1), .val (.int (0 : Int32)), .val (.ref r4)] [(.int (0 : Int32)), (.ref r4)])) (fun t k => st4 t (XS.astore X4.here hx rfl (hb hby d9_26) rfl rfl (l' := #[.val (.ref d), .val (.int (0 : Int32)), .val (.int (3 : Int32)), .val (.ref nb1), .val (.int (0 : Int32)), .val (.ref r4)]) rfl (XS.aload X4.here hx rfl (hb hby d9_28) rfl rfl (XS.iload X4.here hx rfl (hb hby d9_30) rfl k)))) ?_
  obtain ⟨_, _, ⟨T6, L6, k6, n6⟩, -, X6, ⟨Lc6, hQ6, l6, y6, z6⟩, st6⟩ := Jvm.LawKit.callS X4 hx (y := (⟨"java/lang/StringUTF16", "getChar", "([BI)C"⟩ : MethodName)) hown (mvT hZ (wq hw 106 rfl)) (mvT hZ (wq hw 107 rfl)) (mvT hZ (wq hw 51 rfl)) (mvT hZ (wq hw 108 rfl)) (by decide) (backOf (W := 0) (rm_getCh30 l Z a0 hw [] r4 kr4 c0 c1 c2 T4.heap n0 Z5 V_r4 S__assertionsDisabled S_HI_BYTE_SHIFT S_LO_BYTE_SHIFT hch O) hZ (wq hw 108 rfl) (wq hw 51 rfl) (by decide) (by decide)) (g := (mkF m 32 #[.val (.ref d), .val (.int (0 : Int32)), .val (.int (3 : Int32)), .val (.ref nb1), .val (.int (0 : Int32)), .val (.ref r4)] [(.int (0 : Int32)), (.ref r4)])) rfl (by rw [hml]; rfl) (argsL := [(.ref r4), (.int (0 : Int32))]) (rest := []) (lenOf pd__28_5bBI_29C rfl) rfl (by show 2 * 0 + _ ≤ _; exact Nat.le_of_eq rfl) (hb hby d9_32) (fun _ _ => ⟨rfl, rfl, (by decide : 2 + 0 ≤ _), (by decide : 9 + 0 ≤ _)⟩)
  dsimp only [Pt.U, Pt.locs, Pt.cells, Pt.slots] at X6 l6 y6 z6 st6 hQ6
  subst l6 y6 z6
  obtain ⟨rfl, N6q, HQ6⟩ := hQ6
  have N6 := Fr.app N4 N6q
  refine Goes.pre (U' := T6.setTop (mkF m 38 #[.val (.ref d), .val (.int (0 : Int32)), .val (.int (3 : Int32)), .val (.ref nb1), .val (.int (0 : Int32)), .val (.ref r4)] [(.int (255 : Int32)), (.int c0)])) (fun t k => st6 t (XS.sipush X6.here hx rfl (hb hby d9_35) k)) ?_
  have hc38 : (255 : Int32) < c0 := hgt
  refine Goes.pre (U' := T6.setTop (mkF m 56 #[.val (.ref d), .val (.int (0 : Int32)), .val (.int (3 : Int32)), .val (.ref nb1), .val (.int (0 : Int32)), .val (.ref r4)] [(.ref r4)])) (fun t k => XS.icmpYes X6.here hx rfl (pc0 := 38) (pc' := 54) rfl (hb hby d9_38) rfl (tlt hc38).2.2.1 (by decide) (by decide) (XS.aload X6.here hx rfl (hb hby d9_54) rfl rfl k)) ?_
  refine Goes.ret X6 (v := (some (.ref r4))) (fun h => by rw [hret] at h; cases h) hlk (by decide) (by decide) HQ6 (fun fs hr => retOut X6 hx hret rfl (Or.inr (Or.inr (Or.inr (Or.inr ⟨rfl, rfl, rfl⟩)))) (hb hby d9_56) hr) ?_
  exact ⟨r4, kr4, rfl, N6, K5, V_r4, g_r4, sz_r4⟩
theorem ef_rm_cmpI31 (m : MethodId) (x0 : Addr) (x1 : Int32) (x2 : Addr) (x3 : Int32) (x4 : Int32) : entryFrame m #[(.ref x0), (.int x1), (.ref x2), (.int x3), (.int x4)] 7 = mkF m 0 #[.val (.ref x0), .val (.int x1), .val (.ref x2), .val (.int x3), .val (.int x4), .unset, .unset] [] := by first | (simp [entryFrame, mkF, argsToLocals, Value.category]; done) | rfl
def Q_rm_cmpI31 (Z : State) (d : Addr) (kd : ClassId) (c0 : Int32) (c1 : Int32) (c2 : Int32) (b : Addr) (kb : ClassId) (h0 : Heap) (n0 : Nat) (v : Option Value) (h : Heap) (L : List Loc) : Prop := v = some (.int (1 : Int32)) ∧ Fr n0 L ∧ Keep h0 h [b] ∧ Arv Z h b kb .byte (3 : Int32) [(.int c0.toInt8.toInt32), (.int (0 : Int32)), (.int (0 : Int32))] (.int (0 : Int32))
set_option maxRecDepth 65536 in
set_option maxHeartbeats 40000000 in
theorem rm_cmpI31 (l : Launch) (Z : State) (a0 : Array Value) (hw : ∀ d ∈ tables_1, d.before a0 Z = true) (ws : List Jvm.Cond) (d : Addr) (kd : ClassId) (c0 : Int32) (c1 : Int32) (c2 : Int32) (b : Addr) (kb : ClassId) (h0 : Heap) (n0 : Nat) (Z0 : n0 ≤ h0.size) (V_d : Arv Z h0 d kd .char (3 : Int32) [(.int c0), (.int c1), (.int c2)] (.int (0 : Int32))) (V_b : Arv Z h0 b kb .byte (3 : Int32) [(.int (0 : Int32)), (.int (0 : Int32)), (.int (0 : Int32))] (.int (0 : Int32))) (hle0 : ¬ ((255 : Int32) < c0)) (hgt : (255 : Int32) < c1) (ne_d_b : d ≠ b) (g_b : n0 ≤ b) :
    Met l Z M10 jdk_52_method_21_code 7 (some .int) ws (Rm 0 0 0 0) #[(.ref d), (.int (0 : Int32)), (.ref b), (.int (0 : Int32)), (.int (3 : Int32))] h0 (Q_rm_cmpI31 Z d kd c0 c1 c2 b kb h0 n0) := by
  refine met_of (plainFor_of_name pn_java_lang_StringUTF16) (own := "java/lang/StringUTF16") rfl (fun m => ef_rm_cmpI31 m d (0 : Int32) b (0 : Int32) (3 : Int32)) ?_
  intro p e s m below meth c s₁ hx hby hml hown hnm hZ X0 e0 hret hlk
  have N0 := Fr.nil n0
  have K0 := Keep.refl h0 [b]
  show Goes p e below s _ _ _ (s₁.setTop (mkF m 0 #[.val (.ref d), .val (.int (0 : Int32)), .val (.ref b), .val (.int (0 : Int32)), .val (.int (3 : Int32)), .unset, .unset] []))
  refine Goes.pre (U' := s₁.setTop (mkF m 7 #[.val (.ref d), .val (.int (0 : Int32)), .val (.ref b), .val (.int (0 : Int32)), .val (.int (3 : Int32)), .val (.int (0 : Int32)), .unset] [(.int (3 : Int32)), (.int (0 : Int32))])) (fun t k => XS.iconst X0.here hx rfl (hb hby d10_0) (XS.istore X0.here hx rfl (hb hby d10_1) rfl (l' := #[.val (.ref d), .val (.int (0 : Int32)), .val (.ref b), .val (.int (0 : Int32)), .val (.int (3 : Int32)), .val (.int (0 : Int32)), .unset]) rfl (XS.iload X0.here hx rfl (hb hby d10_3) rfl (XS.iload X0.here hx rfl (hb hby d10_5) rfl k)))) ?_
  have hc7 : (0 : Int32) < (3 : Int32) := by decide
  refine Goes.pre (U' := s₁.setTop (mkF m 12 #[.val (.ref d), .val (.int (0 : Int32)), .val (.ref b), .val (.int (0 : Int32)), .val (.int (3 : Int32)), .val (.int (0 : Int32)), .unset] [(.int (0 : Int32)), (.ref d)])) (fun t k => XS.icmpNo X0.here hx rfl (hb hby d10_7) rfl (tlt hc7).2.1 (XS.aloadN X0.here hx rfl (hb hby d10_10) rfl rfl (XS.iloadN X0.here hx rfl (hb hby d10_11) rfl k))) ?_
  obtain ⟨cl1, Ar1, q1, Sz1, Ng1, Hs1, Ft1⟩ := id V_d
  have hin1 := inb_of (j := (0 : Int32)) Sz1 ⟨by decide, by decide⟩
  refine Goes.pre (U' := s₁.setTop (mkF m 20 #[.val (.ref d), .val (.int (0 : Int32)), .val (.ref b), .val (.int (0 : Int32)), .val (.int (3 : Int32)), .val (.int (0 : Int32)), .val (.int c0)] [(.int (255 : Int32)), (.int c0)])) (fun t k => X0.caload hx (j := (0 : Int32)) (v := (.int c0)) (by rw [e0]; exact Ar1.1) (State.isArrayOf_alike hZ.alike Ar1.2.1) Ar1.2.2 hin1 (Has.at Hs1 hin1 rfl) (g := (mkF m 12 #[.val (.ref d), .val (.int (0 : Int32)), .val (.ref b), .val (.int (0 : Int32)), .val (.int (3 : Int32)), .val (.int (0 : Int32)), .unset] [(.int (0 : Int32)), (.ref d)])) rfl rfl (hb hby d10_12) _ (XS.istore X0.here hx rfl (hb hby d10_13) rfl (l' := #[.val (.ref d), .val (.int (0 : Int32)), .val (.ref b), .val (.int (0 : Int32)), .val (.int (3 : Int32)), .val (.int (0 : Int32)), .val (.int c0)]) rfl (XS.iload X0.here hx rfl (hb hby d10_15) rfl (XS.sipush X0.here hx rfl (hb hby d10_17) k)))) ?_
  have hc20 : ¬ ((255 : Int32) < c0) := hle0
  refine Goes.pre (U' := s₁.setTop (mkF m 31 #[.val (.ref d), .val (.int (0 : Int32)), .val (.ref b), .val (.int (0 : Int32)), .val (.int (3 : Int32)), .val (.int (0 : Int32)), .val (.int c0)] [(.int (c0.toInt8.toInt32)), (.int (0 : Int32)), (.ref b)])) (fun t k => XS.icmpYes X0.here hx rfl (pc0 := 20) (pc' := 26) rfl (hb hby d10_20) rfl (flt hc20).2.2.2 (by decide) (by decide) (XS.aloadN X0.here hx rfl (hb hby d10_26) rfl rfl (XS.iloadN X0.here hx rfl (hb hby d10_27) rfl (XS.iload X0.here hx rfl (hb hby d10_28) rfl (XS.i2b X0.here hx rfl (hb hby d10_30) rfl k))))) ?_
  obtain ⟨cl2, Ar2, q2, Sz2, Ng2, Hs2, Ft2⟩ := id V_b
  obtain ⟨T2, h2, X2, e2, W2, st2⟩ := stB X0 hx hZ e0 Ar2 (j := (0 : Int32)) (inb_of Sz2 ⟨by decide, by decide⟩) (g := (mkF m 31 #[.val (.ref d), .val (.int (0 : Int32)), .val (.ref b), .val (.int (0 : Int32)), .val (.int (3 : Int32)), .val (.int (0 : Int32)), .val (.int c0)] [(.int (c0.toInt8.toInt32)), (.int (0 : Int32)), (.ref b)])) rfl rfl (hb hby d10_31)
  have nr2 : nar .byte (c0.toInt8.toInt32) = (c0.toInt8.toInt32) := own_bb _
  have ft2 : fits .byte (.int (c0.toInt8.toInt32)) = true := nr2 ▸ (fits_nar_byte (c0.toInt8.toInt32) : fits .byte (.int (nar .byte (c0.toInt8.toInt32))) = true)
  rw [nr2] at W2
  have V_d := V_d.other W2 ne_d_b
  have Z2 : n0 ≤ h2.size := Nat.le_trans Z0 (Keep.of_wr W2).1
  have V_b : Arv Z h2 b kb .byte (3 : Int32) [(.int (c0.toInt8.toInt32)), (.int (0 : Int32)), (.int (0 : Int32))] (.int (0 : Int32)) := Arv.set Ar2 q2 Sz2 Ng2 Hs2 Ft2 ft2 W2 0 rfl (Nat.le_of_ble_eq_true rfl)
  have K2 := K0.wr W2 (Or.inl (List.mem_of_getElem? (i := 0) rfl))
  have N2 := Fr.snoc X2 N0 g_b
  refine Goes.pre (U' := T2.setTop (mkF m 35 #[.val (.ref d), .val (.int ((0 : Int32) + (1 : Int32))), .val (.ref b), .val (.int (0 : Int32)), .val (.int (3 : Int32)), .val (.int (0 : Int32)), .val (.int c0)] [])) (fun t k => st2 t (XT.iincV X2.here hx rfl (1 : Int32) (hb hby d10_32) (by decide) rfl (l' := #[.val (.ref d), .val (.int ((0 : Int32) + (1 : Int32))), .val (.ref b), .val (.int (0 : Int32)), .val (.int (3 : Int32)), .val (.int (0 : Int32)), .val (.int c0)]) rfl k)) ?_
  rw [(by decide : ((0 : Int32) + (1 : Int32)) = (1 : Int32))]
  refine Goes.pre (U' := T2.setTop (mkF m 38 #[.val (.ref d), .val (.int (1 : Int32)), .val (.ref b), .val (.int ((0 : Int32) + (1 : Int32))), .val (.int (3 : Int32)), .val (.int (0 : Int32)), .val (.int c0)] [])) (fun t k => XT.iincV X2.here hx rfl (1 : Int32) (hb hby d10_35) (by decide) rfl (l' := #[.val (.ref d), .val (.int (1 : Int32)), .val (.ref b), .val (.int ((0 : Int32) + (1 : Int32))), .val (.int (3 : Int32)), .val (.int (0 : Int32)), .val (.int c0)]) rfl k) ?_
  rw [(by decide : ((0 : Int32) + (1 : Int32)) = (1 : Int32))]
  refine Goes.pre (U' := T2.setTop (mkF m 41 #[.val (.ref d), .val (.int (1 : Int32)), .val (.ref b), .val (.int (1 : Int32)), .val (.int (3 : Int32)), .val (.int ((0 : Int32) + (1 : Int32))), .val (.int c0)] [])) (fun t k => XT.iincV X2.here hx rfl (1 : Int32) (hb hby d10_38) (by decide) rfl (l' := #[.val (.ref d), .val (.int (1 : Int32)), .val (.ref b), .val (.int (1 : Int32)), .val (.int (3 : Int32)), .val (.int ((0 : Int32) + (1 : Int32))), .val (.int c0)]) rfl k) ?_
  rw [(by decide : ((0 : Int32) + (1 : Int32)) = (1 : Int32))]
  refine Goes.pre (U' := T2.setTop (mkF m 7 #[.val (.ref d), .val (.int (1 : Int32)), .val (.ref b), .val (.int (1 : Int32)), .val (.int (3 : Int32)), .val (.int (1 : Int32)), .val (.int c0)] [(.int (3 : Int32)), (.int (1 : Int32))])) (fun t k => XS.goto X2.here hx rfl (pc0 := 41) (pc' := 3) rfl (hb hby d10_41) (by decide) (by decide) (XS.iload X2.here hx rfl (hb hby d10_3) rfl (XS.iload X2.here hx rfl (hb hby d10_5) rfl k))) ?_
  have hc7 : (1 : Int32) < (3 : Int32) := by decide
  refine Goes.pre (U' := T2.setTop (mkF m 12 #[.val (.ref d), .val (.int (1 : Int32)), .val (.ref b), .val (.int (1 : Int32)), .val (.int (3 : Int32)), .val (.int (1 : Int32)), .val (.int c0)] [(.int (1 : Int32)), (.ref d)])) (fun t k => XS.icmpNo X2.here hx rfl (hb hby d10_7) rfl (tlt hc7).2.1 (XS.aloadN X2.here hx rfl (hb hby d10_10) rfl rfl (XS.iloadN X2.here hx rfl (hb hby d10_11) rfl k))) ?_
  obtain ⟨cl3, Ar3, q3, Sz3, Ng3, Hs3, Ft3⟩ := id V_d
  have hin3 := inb_of (j := (1 : Int32)) Sz3 ⟨by decide, by decide⟩
  refine Goes.pre (U' := T2.setTop (mkF m 20 #[.val (.ref d), .val (.int (1 : Int32)), .val (.ref b), .val (.int (1 : Int32)), .val (.int (3 : Int32)), .val (.int (1 : Int32)), .val (.int c1)] [(.int (255 : Int32)), (.int c1)])) (fun t k => X2.caload hx (j := (1 : Int32)) (v := (.int c1)) (by rw [e2]; exact Ar3.1) (State.isArrayOf_alike hZ.alike Ar3.2.1) Ar3.2.2 hin3 (Has.at Hs3 hin3 rfl) (g := (mkF m 12 #[.val (.ref d), .val (.int (1 : Int32)), .val (.ref b), .val (.int (1 : Int32)), .val (.int (3 : Int32)), .val (.int (1 : Int32)), .val (.int c0)] [(.int (1 : Int32)), (.ref d)])) rfl rfl (hb hby d10_12) _ (XS.istore X2.here hx rfl (hb hby d10_13) rfl (l' := #[.val (.ref d), .val (.int (1 : Int32)), .val (.ref b), .val (.int (1 : Int32)), .val (.int (3 : Int32)), .val (.int (1 : Int32)), .val (.int c1)]) rfl (XS.iload X2.here hx rfl (hb hby d10_15) rfl (XS.sipush X2.here hx rfl (hb hby d10_17) k)))) ?_
  have hc20 : (255 : Int32) < c1 := hgt
  refine Goes.pre (U' := T2.setTop (mkF m 25 #[.val (.ref d), .val (.int (1 : Int32)), .val (.ref b), .val (.int (1 : Int32)), .val (.int (3 : Int32)), .val (.int (1 : Int32)), .val (.int c1)] [(.int (1 : Int32))])) (fun t k => XS.icmpNo X2.here hx rfl (hb hby d10_20) rfl (tlt hc20).2.2.2 (XS.iload X2.here hx rfl (hb hby d10_23) rfl k)) ?_
  refine Goes.ret X2 (v := (some (.int (1 : Int32)))) (fun h => by rw [hret] at h; cases h) hlk (by decide) (by decide) e2 (fun fs hr => retI X2 hx hret (hb hby d10_25) hr) ?_
  exact ⟨rfl, N2, K2, V_b⟩
theorem ef_rm_cmp31 (m : MethodId) (x0 : Addr) (x1 : Int32) (x2 : Int32) : entryFrame m #[(.ref x0), (.int x1), (.int x2)] 6 = mkF m 0 #[.val (.ref x0), .val (.int x1), .val (.int x2), .unset, .unset, .unset] [] := by first | (simp [entryFrame, mkF, argsToLocals, Value.category]; done) | rfl
def Q_rm_cmp31 (Z : State) (d : Addr) (kd : ClassId) (c0 : Int32) (c1 : Int32) (c2 : Int32) (h0 : Heap) (n0 : Nat) (v : Option Value) (h : Heap) (L : List Loc) : Prop := ∃ (r : Addr) (kr : ClassId), v = some (.ref r) ∧ Fr n0 L ∧ Keep h0 h [] ∧ Arv Z h r kr .byte (6 : Int32) [(.int (c0 >>> ((0 : Int32) &&& 31)).toInt8.toInt32), (.int (c0 >>> ((8 : Int32) &&& 31)).toInt8.toInt32), (.int (c1 >>> ((0 : Int32) &&& 31)).toInt8.toInt32), (.int (c1 >>> ((8 : Int32) &&& 31)).toInt8.toInt32), (.int (c2 >>> ((0 : Int32) &&& 31)).toInt8.toInt32), (.int (c2 >>> ((8 : Int32) &&& 31)).toInt8.toInt32)] (.int (0 : Int32)) ∧ n0 ≤ r ∧ h0.size ≤ r
set_option maxRecDepth 65536 in
set_option maxHeartbeats 40000000 in
theorem rm_cmp31 (l : Launch) (Z : State) (a0 : Array Value) (hw : ∀ d ∈ tables_1, d.before a0 Z = true) (ws : List Jvm.Cond) (d : Addr) (kd : ClassId) (c0 : Int32) (c1 : Int32) (c2 : Int32) (h0 : Heap) (n0 : Nat) (Z0 : n0 ≤ h0.size) (V_d : Arv Z h0 d kd .char (3 : Int32) [(.int c0), (.int c1), (.int c2)] (.int (0 : Int32))) (S__assertionsDisabled : Sta Z Z.heap "java/lang/StringUTF16" "$assertionsDisabled" "Z" (.int (1 : Int32))) (S_HI_BYTE_SHIFT : Sta Z Z.heap "java/lang/StringUTF16" "HI_BYTE_SHIFT" "I" (.int (0 : Int32))) (S_LO_BYTE_SHIFT : Sta Z Z.heap "java/lang/StringUTF16" "LO_BYTE_SHIFT" "I" (.int (8 : Int32))) (hle0 : ¬ ((255 : Int32) < c0)) (hgt : (255 : Int32) < c1) (hch : OwnCh c1) (O : Old Z n0 h0) :
    Met l Z M9 jdk_52_method_16_code 6 (some (.array .byte)) ws (Rm 3 2 9 40) #[(.ref d), (.int (0 : Int32)), (.int (3 : Int32))] h0 (Q_rm_cmp31 Z d kd c0 c1 c2 h0 n0) := by
  refine met_of (plainFor_of_name pn_java_lang_StringUTF16) (own := "java/lang/StringUTF16") rfl (fun m => ef_rm_cmp31 m d (0 : Int32) (3 : Int32)) ?_
  intro p e s m below meth c s₁ hx hby hml hown hnm hZ X0 e0 hret hlk
  have N0 := Fr.nil n0
  have K0 := Keep.refl h0 []
  show Goes p e below s _ _ _ (s₁.setTop (mkF m 0 #[.val (.ref d), .val (.int (0 : Int32)), .val (.int (3 : Int32)), .unset, .unset, .unset] []))
  refine Goes.pre (U' := s₁.setTop (mkF m 1 #[.val (.ref d), .val (.int (0 : Int32)), .val (.int (3 : Int32)), .unset, .unset, .unset] [(.int (3 : Int32))])) (fun t k => XS.iloadN X0.here hx rfl (hb hby d9_0) rfl k) ?_
  obtain ⟨T1, h1, k1, X1, e1, E1, A1, B1, st1⟩ := newPE X0 hx hZ (wq hw 23 rfl) e0 (g := (mkF m 1 #[.val (.ref d), .val (.int (0 : Int32)), .val (.int (3 : Int32)), .unset, .unset, .unset] [(.int (3 : Int32))])) rfl (hb hby d9_1) rfl (by decide) (cap := 3) (by decide) (by decide) (by decide) (by decide) (ad := "[B") (by decide)
  obtain ⟨nb1, g1⟩ : ∃ z, z = h0.size := ⟨_, rfl⟩
  rw [← g1] at A1 B1 st1
  have ne_d_nb1 : d ≠ nb1 := Nat.ne_of_lt (Nat.lt_of_lt_of_le V_d.lt (Nat.le_of_eq g1.symm))
  have ne_nb1_d := ne_d_nb1.symm
  have g_nb1 : n0 ≤ nb1 := Nat.le_trans Z0 (Nat.le_of_eq g1.symm)
  have sz_nb1 : h0.size ≤ nb1 := Nat.le_trans K0.1 (Nat.le_of_eq g1.symm)
  have V_d := V_d.ext E1
  have O := O.ext E1
  have Z1 : n0 ≤ h1.size := Nat.le_trans Z0 E1.1
  have K1 := K0.ext E1
  have E_nb1 := B1
  have V_nb1 : Arv Z h1 nb1 k1 .byte (3 : Int32) [(.int (0 : Int32)), (.int (0 : Int32)), (.int (0 : Int32))] (.int (0 : Int32)) := (Arv.new A1 (by decide)).pad (pad_rep [] (.int (0 : Int32)) 3)
  refine Goes.pre (U' := T1.setTop (mkF m 9 #[.val (.ref d), .val (.int (0 : Int32)), .val (.int (3 : Int32)), .val (.ref nb1), .unset, .unset] [(.int (3 : Int32)), (.int (0 : Int32)), (.ref nb1), (.int (0 : Int32)), (.ref d)])) (fun t k => st1 t (XS.astoreN X1.here hx rfl (hb hby d9_3) rfl rfl (l' := #[.val (.ref d), .val (.int (0 : Int32)), .val (.int (3 : Int32)), .val (.ref nb1), .unset, .unset]) rfl (XS.aloadN X1.here hx rfl (hb hby d9_4) rfl rfl (XS.iloadN X1.here hx rfl (hb hby d9_5) rfl (XS.aloadN X1.here hx rfl (hb hby d9_6) rfl rfl (XS.iconst X1.here hx rfl (hb hby d9_7) (XS.iloadN X1.here hx rfl (hb hby d9_8) rfl k))))))) ?_
  obtain ⟨_, _, ⟨T2, L2, k2, n2⟩, -, X2, ⟨Lc2, hQ2, l2, y2, z2⟩, st2⟩ := Jvm.LawKit.callS X1 hx (y := (⟨"java/lang/StringUTF16", "compress", "([CI[BII)I"⟩ : MethodName)) hown (mvT hZ (wq hw 53 rfl)) (mvT hZ (wq hw 54 rfl)) (mvT hZ (wq hw 51 rfl)) (mvT hZ (wq hw 55 rfl)) (by decide) (backOf (W := 0) (rm_cmpI31 l Z a0 hw [] d kd c0 c1 c2 nb1 k1 h1 n0 Z1 V_d V_nb1 hle0 hgt ne_d_nb1 g_nb1) hZ (wq hw 55 rfl) (wq hw 51 rfl) (by decide) (by decide)) (g := (mkF m 9 #[.val (.ref d), .val (.int (0 : Int32)), .val (.int (3 : Int32)), .val (.ref nb1), .unset, .unset] [(.int (3 : Int32)), (.int (0 : Int32)), (.ref nb1), (.int (0 : Int32)), (.ref d)])) rfl (by rw [hml]; rfl) (argsL := [(.ref d), (.int (0 : Int32)), (.ref nb1), (.int (0 : Int32)), (.int (3 : Int32))]) (rest := []) (lenOf pd__28_5bCI_5bBII_29I rfl) rfl (by show 2 * 0 + _ ≤ _; exact Nat.le_of_eq rfl) (hb hby d9_9) (fun _ _ => ⟨rfl, e1, (by decide : 1 + 0 ≤ _), (by decide : 3 + 0 ≤ _)⟩)
  dsimp only [Pt.U, Pt.locs, Pt.cells, Pt.slots] at X2 l2 y2 z2 st2 hQ2
  subst l2 y2 z2
  obtain ⟨rfl, N2q, KQ2, fo0_2⟩ := hQ2
  have N2 := Fr.app N0 N2q
  have V_d := V_d.keep KQ2 (ninS ne_d_nb1 nin0)
  have E_nb1 := E_nb1.keep KQ2
  have Z3 : n0 ≤ T2.heap.size := Nat.le_trans Z1 KQ2.1
  have O := O.keep KQ2 (allS (P := fun x => n0 ≤ x) g_nb1 all0)
  have K3 := K1.trans KQ2 (allS (P := fun x => x ∈ [] ∨ h0.size ≤ x) (Or.inr sz_nb1) all0)
  have V_nb1 := fo0_2
  refine Goes.pre (U' := T2.setTop (mkF m 17 #[.val (.ref d), .val (.int (0 : Int32)), .val (.int (3 : Int32)), .val (.ref nb1), .val (.int (1 : Int32)), .unset] [(.int (3 : Int32)), (.int (1 : Int32))])) (fun t k => st2 t (XS.istore X2.here hx rfl (hb hby d9_12) rfl (l' := #[.val (.ref d), .val (.int (0 : Int32)), .val (.int (3 : Int32)), .val (.ref nb1), .val (.int (1 : Int32)), .unset]) rfl (XS.iload X2.here hx rfl (hb hby d9_14) rfl (XS.iloadN X2.here hx rfl (hb hby d9_16) rfl k)))) ?_
  have hc17 : ¬ ((1 : Int32) = (3 : Int32)) := by decide
  refine Goes.pre (U' := T2.setTop (mkF m 23 #[.val (.ref d), .val (.int (0 : Int32)), .val (.int (3 : Int32)), .val (.ref nb1), .val (.int (1 : Int32)), .unset] [(.int (3 : Int32)), (.int (0 : Int32)), (.ref d)])) (fun t k => XS.icmpNo X2.here hx rfl (hb hby d9_17) rfl (feq hc17).1 (XS.aloadN X2.here hx rfl (hb hby d9_20) rfl rfl (XS.iloadN X2.here hx rfl (hb hby d9_21) rfl (XS.iloadN X2.here hx rfl (hb hby d9_22) rfl k)))) ?_
  have lt_d := V_d.lt
  have lt_nb1 := E_nb1.lt
  obtain ⟨_, _, ⟨T4, L4, k4, n4⟩, -, X4, ⟨Lc4, hQ4, l4, y4, z4⟩, st4⟩ := Jvm.LawKit.callS X2 hx (y := (⟨"java/lang/StringUTF16", "toBytes", "([CII)[B"⟩ : MethodName)) hown (mvT hZ (wq hw 90 rfl)) (mvT hZ (wq hw 91 rfl)) (mvT hZ (wq hw 51 rfl)) (mvT hZ (wq hw 92 rfl)) (by decide) (backOf (W := 0) (rm_toB3 l Z a0 hw [] d kd c0 c1 c2 T2.heap n0 Z3 V_d S__assertionsDisabled S_HI_BYTE_SHIFT S_LO_BYTE_SHIFT O) hZ (wq hw 92 rfl) (wq hw 51 rfl) (by decide) (by decide)) (g := (mkF m 23 #[.val (.ref d), .val (.int (0 : Int32)), .val (.int (3 : Int32)), .val (.ref nb1), .val (.int (1 : Int32)), .unset] [(.int (3 : Int32)), (.int (0 : Int32)), (.ref d)])) rfl (by rw [hml]; rfl) (argsL := [(.ref d), (.int (0 : Int32)), (.int (3 : Int32))]) (rest := []) (lenOf pd__28_5bCII_29_5bB rfl) rfl (by show 2 * 0 + _ ≤ _; exact Nat.le_of_eq rfl) (hb hby d9_23) (fun _ _ => ⟨rfl, rfl, (by decide : 1 + 1 ≤ _), (by decide : 3 + 6 ≤ _)⟩)
  dsimp only [Pt.U, Pt.locs, Pt.cells, Pt.slots] at X4 l4 y4 z4 st4 hQ4
  subst l4 y4 z4
  obtain ⟨r4, kr4, rfl, N4q, KQ4, fo0_4, g_r4, sl_r4⟩ := hQ4
  have N4 := Fr.app N2 N4q
  have V_d := V_d.keep KQ4 nin0
  have E_nb1 := E_nb1.keep KQ4
  have V_nb1 := V_nb1.keep KQ4 nin0
  have Z5 : n0 ≤ T4.heap.size := Nat.le_trans Z3 KQ4.1
  have O := O.keep KQ4 all0
  have K5 := K3.trans KQ4 all0
  have ne_d_r4 : d ≠ r4 := Nat.ne_of_lt (Nat.lt_of_lt_of_le lt_d sl_r4)
  have ne_r4_d := ne_d_r4.symm
  have ne_nb1_r4 : nb1 ≠ r4 := Nat.ne_of_lt (Nat.lt_of_lt_of_le lt_nb1 sl_r4)
  have ne_r4_nb1 := ne_nb1_r4.symm
  have sz_r4 : h0.size ≤ r4 := Nat.le_trans K3.1 sl_r4
  have V_r4 := fo0_4
  refine Goes.pre (U' := T4.setTop (mkF m 32 #[.val (.ref d), .val (.int (0 : Int32)), .val (.int (3 : Int32)), .val (.ref nb1), .val (.int (1 : Int32)), .val (.ref r4)] [(.int (1 : Int32)), (.ref r4)])) (fun t k => st4 t (XS.astore X4.here hx rfl (hb hby d9_26) rfl rfl (l' := #[.val (.ref d), .val (.int (0 : Int32)), .val (.int (3 : Int32)), .val (.ref nb1), .val (.int (1 : Int32)), .val (.ref r4)]) rfl (XS.aload X4.here hx rfl (hb hby d9_28) rfl rfl (XS.iload X4.here hx rfl (hb hby d9_30) rfl k)))) ?_
  obtain ⟨_, _, ⟨T6, L6, k6, n6⟩, -, X6, ⟨Lc6, hQ6, l6, y6, z6⟩, st6⟩ := Jvm.LawKit.callS X4 hx (y := (⟨"java/lang/StringUTF16", "getChar", "([BI)C"⟩ : MethodName)) hown (mvT hZ (wq hw 106 rfl)) (mvT hZ (wq hw 107 rfl)) (mvT hZ (wq hw 51 rfl)) (mvT hZ (wq hw 108 rfl)) (by decide) (backOf (W := 0) (rm_getCh31 l Z a0 hw [] r4 kr4 c0 c1 c2 T4.heap n0 Z5 V_r4 S__assertionsDisabled S_HI_BYTE_SHIFT S_LO_BYTE_SHIFT hch O) hZ (wq hw 108 rfl) (wq hw 51 rfl) (by decide) (by decide)) (g := (mkF m 32 #[.val (.ref d), .val (.int (0 : Int32)), .val (.int (3 : Int32)), .val (.ref nb1), .val (.int (1 : Int32)), .val (.ref r4)] [(.int (1 : Int32)), (.ref r4)])) rfl (by rw [hml]; rfl) (argsL := [(.ref r4), (.int (1 : Int32))]) (rest := []) (lenOf pd__28_5bBI_29C rfl) rfl (by show 2 * 0 + _ ≤ _; exact Nat.le_of_eq rfl) (hb hby d9_32) (fun _ _ => ⟨rfl, rfl, (by decide : 2 + 0 ≤ _), (by decide : 9 + 0 ≤ _)⟩)
  dsimp only [Pt.U, Pt.locs, Pt.cells, Pt.slots] at X6 l6 y6 z6 st6 hQ6
  subst l6 y6 z6
  obtain ⟨rfl, N6q, HQ6⟩ := hQ6
  have N6 := Fr.app N4 N6q
  refine Goes.pre (U' := T6.setTop (mkF m 38 #[.val (.ref d), .val (.int (0 : Int32)), .val (.int (3 : Int32)), .val (.ref nb1), .val (.int (1 : Int32)), .val (.ref r4)] [(.int (255 : Int32)), (.int c1)])) (fun t k => st6 t (XS.sipush X6.here hx rfl (hb hby d9_35) k)) ?_
  have hc38 : (255 : Int32) < c1 := hgt
  refine Goes.pre (U' := T6.setTop (mkF m 56 #[.val (.ref d), .val (.int (0 : Int32)), .val (.int (3 : Int32)), .val (.ref nb1), .val (.int (1 : Int32)), .val (.ref r4)] [(.ref r4)])) (fun t k => XS.icmpYes X6.here hx rfl (pc0 := 38) (pc' := 54) rfl (hb hby d9_38) rfl (tlt hc38).2.2.1 (by decide) (by decide) (XS.aload X6.here hx rfl (hb hby d9_54) rfl rfl k)) ?_
  refine Goes.ret X6 (v := (some (.ref r4))) (fun h => by rw [hret] at h; cases h) hlk (by decide) (by decide) HQ6 (fun fs hr => retOut X6 hx hret rfl (Or.inr (Or.inr (Or.inr (Or.inr ⟨rfl, rfl, rfl⟩)))) (hb hby d9_56) hr) ?_
  exact ⟨r4, kr4, rfl, N6, K5, V_r4, g_r4, sz_r4⟩
theorem ef_rm_cmpI32 (m : MethodId) (x0 : Addr) (x1 : Int32) (x2 : Addr) (x3 : Int32) (x4 : Int32) : entryFrame m #[(.ref x0), (.int x1), (.ref x2), (.int x3), (.int x4)] 7 = mkF m 0 #[.val (.ref x0), .val (.int x1), .val (.ref x2), .val (.int x3), .val (.int x4), .unset, .unset] [] := by first | (simp [entryFrame, mkF, argsToLocals, Value.category]; done) | rfl
def Q_rm_cmpI32 (Z : State) (d : Addr) (kd : ClassId) (c0 : Int32) (c1 : Int32) (c2 : Int32) (b : Addr) (kb : ClassId) (h0 : Heap) (n0 : Nat) (v : Option Value) (h : Heap) (L : List Loc) : Prop := v = some (.int (2 : Int32)) ∧ Fr n0 L ∧ Keep h0 h [b] ∧ Arv Z h b kb .byte (3 : Int32) [(.int c0.toInt8.toInt32), (.int c1.toInt8.toInt32), (.int (0 : Int32))] (.int (0 : Int32))
set_option maxRecDepth 65536 in
set_option maxHeartbeats 40000000 in
theorem rm_cmpI32 (l : Launch) (Z : State) (a0 : Array Value) (hw : ∀ d ∈ tables_1, d.before a0 Z = true) (ws : List Jvm.Cond) (d : Addr) (kd : ClassId) (c0 : Int32) (c1 : Int32) (c2 : Int32) (b : Addr) (kb : ClassId) (h0 : Heap) (n0 : Nat) (Z0 : n0 ≤ h0.size) (V_d : Arv Z h0 d kd .char (3 : Int32) [(.int c0), (.int c1), (.int c2)] (.int (0 : Int32))) (V_b : Arv Z h0 b kb .byte (3 : Int32) [(.int (0 : Int32)), (.int (0 : Int32)), (.int (0 : Int32))] (.int (0 : Int32))) (hle0 : ¬ ((255 : Int32) < c0)) (hle1 : ¬ ((255 : Int32) < c1)) (hgt : (255 : Int32) < c2) (ne_d_b : d ≠ b) (g_b : n0 ≤ b) :
    Met l Z M10 jdk_52_method_21_code 7 (some .int) ws (Rm 0 0 0 0) #[(.ref d), (.int (0 : Int32)), (.ref b), (.int (0 : Int32)), (.int (3 : Int32))] h0 (Q_rm_cmpI32 Z d kd c0 c1 c2 b kb h0 n0) := by
  refine met_of (plainFor_of_name pn_java_lang_StringUTF16) (own := "java/lang/StringUTF16") rfl (fun m => ef_rm_cmpI32 m d (0 : Int32) b (0 : Int32) (3 : Int32)) ?_
  intro p e s m below meth c s₁ hx hby hml hown hnm hZ X0 e0 hret hlk
  have N0 := Fr.nil n0
  have K0 := Keep.refl h0 [b]
  show Goes p e below s _ _ _ (s₁.setTop (mkF m 0 #[.val (.ref d), .val (.int (0 : Int32)), .val (.ref b), .val (.int (0 : Int32)), .val (.int (3 : Int32)), .unset, .unset] []))
  refine Goes.pre (U' := s₁.setTop (mkF m 7 #[.val (.ref d), .val (.int (0 : Int32)), .val (.ref b), .val (.int (0 : Int32)), .val (.int (3 : Int32)), .val (.int (0 : Int32)), .unset] [(.int (3 : Int32)), (.int (0 : Int32))])) (fun t k => XS.iconst X0.here hx rfl (hb hby d10_0) (XS.istore X0.here hx rfl (hb hby d10_1) rfl (l' := #[.val (.ref d), .val (.int (0 : Int32)), .val (.ref b), .val (.int (0 : Int32)), .val (.int (3 : Int32)), .val (.int (0 : Int32)), .unset]) rfl (XS.iload X0.here hx rfl (hb hby d10_3) rfl (XS.iload X0.here hx rfl (hb hby d10_5) rfl k)))) ?_
  have hc7 : (0 : Int32) < (3 : Int32) := by decide
  refine Goes.pre (U' := s₁.setTop (mkF m 12 #[.val (.ref d), .val (.int (0 : Int32)), .val (.ref b), .val (.int (0 : Int32)), .val (.int (3 : Int32)), .val (.int (0 : Int32)), .unset] [(.int (0 : Int32)), (.ref d)])) (fun t k => XS.icmpNo X0.here hx rfl (hb hby d10_7) rfl (tlt hc7).2.1 (XS.aloadN X0.here hx rfl (hb hby d10_10) rfl rfl (XS.iloadN X0.here hx rfl (hb hby d10_11) rfl k))) ?_
  obtain ⟨cl1, Ar1, q1, Sz1, Ng1, Hs1, Ft1⟩ := id V_d
  have hin1 := inb_of (j := (0 : Int32)) Sz1 ⟨by decide, by decide⟩
  refine Goes.pre (U' := s₁.setTop (mkF m 20 #[.val (.ref d), .val (.int (0 : Int32)), .val (.ref b), .val (.int (0 : Int32)), .val (.int (3 : Int32)), .val (.int (0 : Int32)), .val (.int c0)] [(.int (255 : Int32)), (.int c0)])) (fun t k => X0.caload hx (j := (0 : Int32)) (v := (.int c0)) (by rw [e0]; exact Ar1.1) (State.isArrayOf_alike hZ.alike Ar1.2.1) Ar1.2.2 hin1 (Has.at Hs1 hin1 rfl) (g := (mkF m 12 #[.val (.ref d), .val (.int (0 : Int32)), .val (.ref b), .val (.int (0 : Int32)), .val (.int (3 : Int32)), .val (.int (0 : Int32)), .unset] [(.int (0 : Int32)), (.ref d)])) rfl rfl (hb hby d10_12) _ (XS.istore X0.here hx rfl (hb hby d10_13) rfl (l' := #[.val (.ref d), .val (.int (0 : Int32)), .val (.ref b), .val (.int (0 : Int32)), .val (.int (3 : Int32)), .val (.int (0 : Int32)), .val (.int c0)]) rfl (XS.iload X0.here hx rfl (hb hby d10_15) rfl (XS.sipush X0.here hx rfl (hb hby d10_17) k)))) ?_
  have hc20 : ¬ ((255 : Int32) < c0) := hle0
  refine Goes.pre (U' := s₁.setTop (mkF m 31 #[.val (.ref d), .val (.int (0 : Int32)), .val (.ref b), .val (.int (0 : Int32)), .val (.int (3 : Int32)), .val (.int (0 : Int32)), .val (.int c0)] [(.int (c0.toInt8.toInt32)), (.int (0 : Int32)), (.ref b)])) (fun t k => XS.icmpYes X0.here hx rfl (pc0 := 20) (pc' := 26) rfl (hb hby d10_20) rfl (flt hc20).2.2.2 (by decide) (by decide) (XS.aloadN X0.here hx rfl (hb hby d10_26) rfl rfl (XS.iloadN X0.here hx rfl (hb hby d10_27) rfl (XS.iload X0.here hx rfl (hb hby d10_28) rfl (XS.i2b X0.here hx rfl (hb hby d10_30) rfl k))))) ?_
  obtain ⟨cl2, Ar2, q2, Sz2, Ng2, Hs2, Ft2⟩ := id V_b
  obtain ⟨T2, h2, X2, e2, W2, st2⟩ := stB X0 hx hZ e0 Ar2 (j := (0 : Int32)) (inb_of Sz2 ⟨by decide, by decide⟩) (g := (mkF m 31 #[.val (.ref d), .val (.int (0 : Int32)), .val (.ref b), .val (.int (0 : Int32)), .val (.int (3 : Int32)), .val (.int (0 : Int32)), .val (.int c0)] [(.int (c0.toInt8.toInt32)), (.int (0 : Int32)), (.ref b)])) rfl rfl (hb hby d10_31)
  have nr2 : nar .byte (c0.toInt8.toInt32) = (c0.toInt8.toInt32) := own_bb _
  have ft2 : fits .byte (.int (c0.toInt8.toInt32)) = true := nr2 ▸ (fits_nar_byte (c0.toInt8.toInt32) : fits .byte (.int (nar .byte (c0.toInt8.toInt32))) = true)
  rw [nr2] at W2
  have V_d := V_d.other W2 ne_d_b
  have Z2 : n0 ≤ h2.size := Nat.le_trans Z0 (Keep.of_wr W2).1
  have V_b : Arv Z h2 b kb .byte (3 : Int32) [(.int (c0.toInt8.toInt32)), (.int (0 : Int32)), (.int (0 : Int32))] (.int (0 : Int32)) := Arv.set Ar2 q2 Sz2 Ng2 Hs2 Ft2 ft2 W2 0 rfl (Nat.le_of_ble_eq_true rfl)
  have K2 := K0.wr W2 (Or.inl (List.mem_of_getElem? (i := 0) rfl))
  have N2 := Fr.snoc X2 N0 g_b
  refine Goes.pre (U' := T2.setTop (mkF m 35 #[.val (.ref d), .val (.int ((0 : Int32) + (1 : Int32))), .val (.ref b), .val (.int (0 : Int32)), .val (.int (3 : Int32)), .val (.int (0 : Int32)), .val (.int c0)] [])) (fun t k => st2 t (XT.iincV X2.here hx rfl (1 : Int32) (hb hby d10_32) (by decide) rfl (l' := #[.val (.ref d), .val (.int ((0 : Int32) + (1 : Int32))), .val (.ref b), .val (.int (0 : Int32)), .val (.int (3 : Int32)), .val (.int (0 : Int32)), .val (.int c0)]) rfl k)) ?_
  rw [(by decide : ((0 : Int32) + (1 : Int32)) = (1 : Int32))]
  refine Goes.pre (U' := T2.setTop (mkF m 38 #[.val (.ref d), .val (.int (1 : Int32)), .val (.ref b), .val (.int ((0 : Int32) + (1 : Int32))), .val (.int (3 : Int32)), .val (.int (0 : Int32)), .val (.int c0)] [])) (fun t k => XT.iincV X2.here hx rfl (1 : Int32) (hb hby d10_35) (by decide) rfl (l' := #[.val (.ref d), .val (.int (1 : Int32)), .val (.ref b), .val (.int ((0 : Int32) + (1 : Int32))), .val (.int (3 : Int32)), .val (.int (0 : Int32)), .val (.int c0)]) rfl k) ?_
  rw [(by decide : ((0 : Int32) + (1 : Int32)) = (1 : Int32))]
  refine Goes.pre (U' := T2.setTop (mkF m 41 #[.val (.ref d), .val (.int (1 : Int32)), .val (.ref b), .val (.int (1 : Int32)), .val (.int (3 : Int32)), .val (.int ((0 : Int32) + (1 : Int32))), .val (.int c0)] [])) (fun t k => XT.iincV X2.here hx rfl (1 : Int32) (hb hby d10_38) (by decide) rfl (l' := #[.val (.ref d), .val (.int (1 : Int32)), .val (.ref b), .val (.int (1 : Int32)), .val (.int (3 : Int32)), .val (.int ((0 : Int32) + (1 : Int32))), .val (.int c0)]) rfl k) ?_
  rw [(by decide : ((0 : Int32) + (1 : Int32)) = (1 : Int32))]
  refine Goes.pre (U' := T2.setTop (mkF m 7 #[.val (.ref d), .val (.int (1 : Int32)), .val (.ref b), .val (.int (1 : Int32)), .val (.int (3 : Int32)), .val (.int (1 : Int32)), .val (.int c0)] [(.int (3 : Int32)), (.int (1 : Int32))])) (fun t k => XS.goto X2.here hx rfl (pc0 := 41) (pc' := 3) rfl (hb hby d10_41) (by decide) (by decide) (XS.iload X2.here hx rfl (hb hby d10_3) rfl (XS.iload X2.here hx rfl (hb hby d10_5) rfl k))) ?_
  have hc7 : (1 : Int32) < (3 : Int32) := by decide
  refine Goes.pre (U' := T2.setTop (mkF m 12 #[.val (.ref d), .val (.int (1 : Int32)), .val (.ref b), .val (.int (1 : Int32)), .val (.int (3 : Int32)), .val (.int (1 : Int32)), .val (.int c0)] [(.int (1 : Int32)), (.ref d)])) (fun t k => XS.icmpNo X2.here hx rfl (hb hby d10_7) rfl (tlt hc7).2.1 (XS.aloadN X2.here hx rfl (hb hby d10_10) rfl rfl (XS.iloadN X2.here hx rfl (hb hby d10_11) rfl k))) ?_
  obtain ⟨cl3, Ar3, q3, Sz3, Ng3, Hs3, Ft3⟩ := id V_d
  have hin3 := inb_of (j := (1 : Int32)) Sz3 ⟨by decide, by decide⟩
  refine Goes.pre (U' := T2.setTop (mkF m 20 #[.val (.ref d), .val (.int (1 : Int32)), .val (.ref b), .val (.int (1 : Int32)), .val (.int (3 : Int32)), .val (.int (1 : Int32)), .val (.int c1)] [(.int (255 : Int32)), (.int c1)])) (fun t k => X2.caload hx (j := (1 : Int32)) (v := (.int c1)) (by rw [e2]; exact Ar3.1) (State.isArrayOf_alike hZ.alike Ar3.2.1) Ar3.2.2 hin3 (Has.at Hs3 hin3 rfl) (g := (mkF m 12 #[.val (.ref d), .val (.int (1 : Int32)), .val (.ref b), .val (.int (1 : Int32)), .val (.int (3 : Int32)), .val (.int (1 : Int32)), .val (.int c0)] [(.int (1 : Int32)), (.ref d)])) rfl rfl (hb hby d10_12) _ (XS.istore X2.here hx rfl (hb hby d10_13) rfl (l' := #[.val (.ref d), .val (.int (1 : Int32)), .val (.ref b), .val (.int (1 : Int32)), .val (.int (3 : Int32)), .val (.int (1 : Int32)), .val (.int c1)]) rfl (XS.iload X2.here hx rfl (hb hby d10_15) rfl (XS.sipush X2.here hx rfl (hb hby d10_17) k)))) ?_
  have hc20 : ¬ ((255 : Int32) < c1) := hle1
  refine Goes.pre (U' := T2.setTop (mkF m 31 #[.val (.ref d), .val (.int (1 : Int32)), .val (.ref b), .val (.int (1 : Int32)), .val (.int (3 : Int32)), .val (.int (1 : Int32)), .val (.int c1)] [(.int (c1.toInt8.toInt32)), (.int (1 : Int32)), (.ref b)])) (fun t k => XS.icmpYes X2.here hx rfl (pc0 := 20) (pc' := 26) rfl (hb hby d10_20) rfl (flt hc20).2.2.2 (by decide) (by decide) (XS.aloadN X2.here hx rfl (hb hby d10_26) rfl rfl (XS.iloadN X2.here hx rfl (hb hby d10_27) rfl (XS.iload X2.here hx rfl (hb hby d10_28) rfl (XS.i2b X2.here hx rfl (hb hby d10_30) rfl k))))) ?_
  obtain ⟨cl4, Ar4, q4, Sz4, Ng4, Hs4, Ft4⟩ := id V_b
  obtain ⟨T4, h4, X4, e4, W4, st4⟩ := stB X2 hx hZ e2 Ar4 (j := (1 : Int32)) (inb_of Sz4 ⟨by decide, by decide⟩) (g := (mkF m 31 #[.val (.ref d), .val (.int (1 : Int32)), .val (.ref b), .val (.int (1 : Int32)), .val (.int (3 : Int32)), .val (.int (1 : Int32)), .val (.int c1)] [(.int (c1.toInt8.toInt32)), (.int (1 : Int32)), (.ref b)])) rfl rfl (hb hby d10_31)
  have nr4 : nar .byte (c1.toInt8.toInt32) = (c1.toInt8.toInt32) := own_bb _
  have ft4 : fits .byte (.int (c1.toInt8.toInt32)) = true := nr4 ▸ (fits_nar_byte (c1.toInt8.toInt32) : fits .byte (.int (nar .byte (c1.toInt8.toInt32))) = true)
  rw [nr4] at W4
  have V_d := V_d.other W4 ne_d_b
  have Z4 : n0 ≤ h4.size := Nat.le_trans Z2 (Keep.of_wr W4).1
  have V_b : Arv Z h4 b kb .byte (3 : Int32) [(.int (c0.toInt8.toInt32)), (.int (c1.toInt8.toInt32)), (.int (0 : Int32))] (.int (0 : Int32)) := Arv.set Ar4 q4 Sz4 Ng4 Hs4 Ft4 ft4 W4 1 rfl (Nat.le_of_ble_eq_true rfl)
  have K4 := K2.wr W4 (Or.inl (List.mem_of_getElem? (i := 0) rfl))
  have N4 := Fr.snoc X4 N2 g_b
  refine Goes.pre (U' := T4.setTop (mkF m 35 #[.val (.ref d), .val (.int ((1 : Int32) + (1 : Int32))), .val (.ref b), .val (.int (1 : Int32)), .val (.int (3 : Int32)), .val (.int (1 : Int32)), .val (.int c1)] [])) (fun t k => st4 t (XT.iincV X4.here hx rfl (1 : Int32) (hb hby d10_32) (by decide) rfl (l' := #[.val (.ref d), .val (.int ((1 : Int32) + (1 : Int32))), .val (.ref b), .val (.int (1 : Int32)), .val (.int (3 : Int32)), .val (.int (1 : Int32)), .val (.int c1)]) rfl k)) ?_
  rw [(by decide : ((1 : Int32) + (1 : Int32)) = (2 : Int32))]
  refine Goes.pre (U' := T4.setTop (mkF m 38 #[.val (.ref d), .val (.int (2 : Int32)), .val (.ref b), .val (.int ((1 : Int32) + (1 : Int32))), .val (.int (3 : Int32)), .val (.int (1 : Int32)), .val (.int c1)] [])) (fun t k => XT.iincV X4.here hx rfl (1 : Int32) (hb hby d10_35) (by decide) rfl (l' := #[.val (.ref d), .val (.int (2 : Int32)), .val (.ref b), .val (.int ((1 : Int32) + (1 : Int32))), .val (.int (3 : Int32)), .val (.int (1 : Int32)), .val (.int c1)]) rfl k) ?_
  rw [(by decide : ((1 : Int32) + (1 : Int32)) = (2 : Int32))]
  refine Goes.pre (U' := T4.setTop (mkF m 41 #[.val (.ref d), .val (.int (2 : Int32)), .val (.ref b), .val (.int (2 : Int32)), .val (.int (3 : Int32)), .val (.int ((1 : Int32) + (1 : Int32))), .val (.int c1)] [])) (fun t k => XT.iincV X4.here hx rfl (1 : Int32) (hb hby d10_38) (by decide) rfl (l' := #[.val (.ref d), .val (.int (2 : Int32)), .val (.ref b), .val (.int (2 : Int32)), .val (.int (3 : Int32)), .val (.int ((1 : Int32) + (1 : Int32))), .val (.int c1)]) rfl k) ?_
  rw [(by decide : ((1 : Int32) + (1 : Int32)) = (2 : Int32))]
  refine Goes.pre (U' := T4.setTop (mkF m 7 #[.val (.ref d), .val (.int (2 : Int32)), .val (.ref b), .val (.int (2 : Int32)), .val (.int (3 : Int32)), .val (.int (2 : Int32)), .val (.int c1)] [(.int (3 : Int32)), (.int (2 : Int32))])) (fun t k => XS.goto X4.here hx rfl (pc0 := 41) (pc' := 3) rfl (hb hby d10_41) (by decide) (by decide) (XS.iload X4.here hx rfl (hb hby d10_3) rfl (XS.iload X4.here hx rfl (hb hby d10_5) rfl k))) ?_
  have hc7 : (2 : Int32) < (3 : Int32) := by decide
  refine Goes.pre (U' := T4.setTop (mkF m 12 #[.val (.ref d), .val (.int (2 : Int32)), .val (.ref b), .val (.int (2 : Int32)), .val (.int (3 : Int32)), .val (.int (2 : Int32)), .val (.int c1)] [(.int (2 : Int32)), (.ref d)])) (fun t k => XS.icmpNo X4.here hx rfl (hb hby d10_7) rfl (tlt hc7).2.1 (XS.aloadN X4.here hx rfl (hb hby d10_10) rfl rfl (XS.iloadN X4.here hx rfl (hb hby d10_11) rfl k))) ?_
  obtain ⟨cl5, Ar5, q5, Sz5, Ng5, Hs5, Ft5⟩ := id V_d
  have hin5 := inb_of (j := (2 : Int32)) Sz5 ⟨by decide, by decide⟩
  refine Goes.pre (U' := T4.setTop (mkF m 20 #[.val (.ref d), .val (.int (2 : Int32)), .val (.ref b), .val (.int (2 : Int32)), .val (.int (3 : Int32)), .val (.int (2 : Int32)), .val (.int c2)] [(.int (255 : Int32)), (.int c2)])) (fun t k => X4.caload hx (j := (2 : Int32)) (v := (.int c2)) (by rw [e4]; exact Ar5.1) (State.isArrayOf_alike hZ.alike Ar5.2.1) Ar5.2.2 hin5 (Has.at Hs5 hin5 rfl) (g := (mkF m 12 #[.val (.ref d), .val (.int (2 : Int32)), .val (.ref b), .val (.int (2 : Int32)), .val (.int (3 : Int32)), .val (.int (2 : Int32)), .val (.int c1)] [(.int (2 : Int32)), (.ref d)])) rfl rfl (hb hby d10_12) _ (XS.istore X4.here hx rfl (hb hby d10_13) rfl (l' := #[.val (.ref d), .val (.int (2 : Int32)), .val (.ref b), .val (.int (2 : Int32)), .val (.int (3 : Int32)), .val (.int (2 : Int32)), .val (.int c2)]) rfl (XS.iload X4.here hx rfl (hb hby d10_15) rfl (XS.sipush X4.here hx rfl (hb hby d10_17) k)))) ?_
  have hc20 : (255 : Int32) < c2 := hgt
  refine Goes.pre (U' := T4.setTop (mkF m 25 #[.val (.ref d), .val (.int (2 : Int32)), .val (.ref b), .val (.int (2 : Int32)), .val (.int (3 : Int32)), .val (.int (2 : Int32)), .val (.int c2)] [(.int (2 : Int32))])) (fun t k => XS.icmpNo X4.here hx rfl (hb hby d10_20) rfl (tlt hc20).2.2.2 (XS.iload X4.here hx rfl (hb hby d10_23) rfl k)) ?_
  refine Goes.ret X4 (v := (some (.int (2 : Int32)))) (fun h => by rw [hret] at h; cases h) hlk (by decide) (by decide) e4 (fun fs hr => retI X4 hx hret (hb hby d10_25) hr) ?_
  exact ⟨rfl, N4, K4, V_b⟩
theorem ef_rm_cmp32 (m : MethodId) (x0 : Addr) (x1 : Int32) (x2 : Int32) : entryFrame m #[(.ref x0), (.int x1), (.int x2)] 6 = mkF m 0 #[.val (.ref x0), .val (.int x1), .val (.int x2), .unset, .unset, .unset] [] := by first | (simp [entryFrame, mkF, argsToLocals, Value.category]; done) | rfl
def Q_rm_cmp32 (Z : State) (d : Addr) (kd : ClassId) (c0 : Int32) (c1 : Int32) (c2 : Int32) (h0 : Heap) (n0 : Nat) (v : Option Value) (h : Heap) (L : List Loc) : Prop := ∃ (r : Addr) (kr : ClassId), v = some (.ref r) ∧ Fr n0 L ∧ Keep h0 h [] ∧ Arv Z h r kr .byte (6 : Int32) [(.int (c0 >>> ((0 : Int32) &&& 31)).toInt8.toInt32), (.int (c0 >>> ((8 : Int32) &&& 31)).toInt8.toInt32), (.int (c1 >>> ((0 : Int32) &&& 31)).toInt8.toInt32), (.int (c1 >>> ((8 : Int32) &&& 31)).toInt8.toInt32), (.int (c2 >>> ((0 : Int32) &&& 31)).toInt8.toInt32), (.int (c2 >>> ((8 : Int32) &&& 31)).toInt8.toInt32)] (.int (0 : Int32)) ∧ n0 ≤ r ∧ h0.size ≤ r
set_option maxRecDepth 65536 in
set_option maxHeartbeats 40000000 in
theorem rm_cmp32 (l : Launch) (Z : State) (a0 : Array Value) (hw : ∀ d ∈ tables_1, d.before a0 Z = true) (ws : List Jvm.Cond) (d : Addr) (kd : ClassId) (c0 : Int32) (c1 : Int32) (c2 : Int32) (h0 : Heap) (n0 : Nat) (Z0 : n0 ≤ h0.size) (V_d : Arv Z h0 d kd .char (3 : Int32) [(.int c0), (.int c1), (.int c2)] (.int (0 : Int32))) (S__assertionsDisabled : Sta Z Z.heap "java/lang/StringUTF16" "$assertionsDisabled" "Z" (.int (1 : Int32))) (S_HI_BYTE_SHIFT : Sta Z Z.heap "java/lang/StringUTF16" "HI_BYTE_SHIFT" "I" (.int (0 : Int32))) (S_LO_BYTE_SHIFT : Sta Z Z.heap "java/lang/StringUTF16" "LO_BYTE_SHIFT" "I" (.int (8 : Int32))) (hle0 : ¬ ((255 : Int32) < c0)) (hle1 : ¬ ((255 : Int32) < c1)) (hgt : (255 : Int32) < c2) (hch : OwnCh c2) (O : Old Z n0 h0) :
    Met l Z M9 jdk_52_method_16_code 6 (some (.array .byte)) ws (Rm 3 2 9 40) #[(.ref d), (.int (0 : Int32)), (.int (3 : Int32))] h0 (Q_rm_cmp32 Z d kd c0 c1 c2 h0 n0) := by
  refine met_of (plainFor_of_name pn_java_lang_StringUTF16) (own := "java/lang/StringUTF16") rfl (fun m => ef_rm_cmp32 m d (0 : Int32) (3 : Int32)) ?_
  intro p e s m below meth c s₁ hx hby hml hown hnm hZ X0 e0 hret hlk
  have N0 := Fr.nil n0
  have K0 := Keep.refl h0 []
  show Goes p e below s _ _ _ (s₁.setTop (mkF m 0 #[.val (.ref d), .val (.int (0 : Int32)), .val (.int (3 : Int32)), .unset, .unset, .unset] []))
  refine Goes.pre (U' := s₁.setTop (mkF m 1 #[.val (.ref d), .val (.int (0 : Int32)), .val (.int (3 : Int32)), .unset, .unset, .unset] [(.int (3 : Int32))])) (fun t k => XS.iloadN X0.here hx rfl (hb hby d9_0) rfl k) ?_
  obtain ⟨T1, h1, k1, X1, e1, E1, A1, B1, st1⟩ := newPE X0 hx hZ (wq hw 23 rfl) e0 (g := (mkF m 1 #[.val (.ref d), .val (.int (0 : Int32)), .val (.int (3 : Int32)), .unset, .unset, .unset] [(.int (3 : Int32))])) rfl (hb hby d9_1) rfl (by decide) (cap := 3) (by decide) (by decide) (by decide) (by decide) (ad := "[B") (by decide)
  obtain ⟨nb1, g1⟩ : ∃ z, z = h0.size := ⟨_, rfl⟩
  rw [← g1] at A1 B1 st1
  have ne_d_nb1 : d ≠ nb1 := Nat.ne_of_lt (Nat.lt_of_lt_of_le V_d.lt (Nat.le_of_eq g1.symm))
  have ne_nb1_d := ne_d_nb1.symm
  have g_nb1 : n0 ≤ nb1 := Nat.le_trans Z0 (Nat.le_of_eq g1.symm)
  have sz_nb1 : h0.size ≤ nb1 := Nat.le_trans K0.1 (Nat.le_of_eq g1.symm)
  have V_d := V_d.ext E1
  have O := O.ext E1
  have Z1 : n0 ≤ h1.size := Nat.le_trans Z0 E1.1
  have K1 := K0.ext E1
  have E_nb1 := B1
  have V_nb1 : Arv Z h1 nb1 k1 .byte (3 : Int32) [(.int (0 : Int32)), (.int (0 : Int32)), (.int (0 : Int32))] (.int (0 : Int32)) := (Arv.new A1 (by decide)).pad (pad_rep [] (.int (0 : Int32)) 3)
  refine Goes.pre (U' := T1.setTop (mkF m 9 #[.val (.ref d), .val (.int (0 : Int32)), .val (.int (3 : Int32)), .val (.ref nb1), .unset, .unset] [(.int (3 : Int32)), (.int (0 : Int32)), (.ref nb1), (.int (0 : Int32)), (.ref d)])) (fun t k => st1 t (XS.astoreN X1.here hx rfl (hb hby d9_3) rfl rfl (l' := #[.val (.ref d), .val (.int (0 : Int32)), .val (.int (3 : Int32)), .val (.ref nb1), .unset, .unset]) rfl (XS.aloadN X1.here hx rfl (hb hby d9_4) rfl rfl (XS.iloadN X1.here hx rfl (hb hby d9_5) rfl (XS.aloadN X1.here hx rfl (hb hby d9_6) rfl rfl (XS.iconst X1.here hx rfl (hb hby d9_7) (XS.iloadN X1.here hx rfl (hb hby d9_8) rfl k))))))) ?_
  obtain ⟨_, _, ⟨T2, L2, k2, n2⟩, -, X2, ⟨Lc2, hQ2, l2, y2, z2⟩, st2⟩ := Jvm.LawKit.callS X1 hx (y := (⟨"java/lang/StringUTF16", "compress", "([CI[BII)I"⟩ : MethodName)) hown (mvT hZ (wq hw 53 rfl)) (mvT hZ (wq hw 54 rfl)) (mvT hZ (wq hw 51 rfl)) (mvT hZ (wq hw 55 rfl)) (by decide) (backOf (W := 0) (rm_cmpI32 l Z a0 hw [] d kd c0 c1 c2 nb1 k1 h1 n0 Z1 V_d V_nb1 hle0 hle1 hgt ne_d_nb1 g_nb1) hZ (wq hw 55 rfl) (wq hw 51 rfl) (by decide) (by decide)) (g := (mkF m 9 #[.val (.ref d), .val (.int (0 : Int32)), .val (.int (3 : Int32)), .val (.ref nb1), .unset, .unset] [(.int (3 : Int32)), (.int (0 : Int32)), (.ref nb1), (.int (0 : Int32)), (.ref d)])) rfl (by rw [hml]; rfl) (argsL := [(.ref d), (.int (0 : Int32)), (.ref nb1), (.int (0 : Int32)), (.int (3 : Int32))]) (rest := []) (lenOf pd__28_5bCI_5bBII_29I rfl) rfl (by show 2 * 0 + _ ≤ _; exact Nat.le_of_eq rfl) (hb hby d9_9) (fun _ _ => ⟨rfl, e1, (by decide : 1 + 0 ≤ _), (by decide : 3 + 0 ≤ _)⟩)
  dsimp only [Pt.U, Pt.locs, Pt.cells, Pt.slots] at X2 l2 y2 z2 st2 hQ2
  subst l2 y2 z2
  obtain ⟨rfl, N2q, KQ2, fo0_2⟩ := hQ2
  have N2 := Fr.app N0 N2q
  have V_d := V_d.keep KQ2 (ninS ne_d_nb1 nin0)
  have E_nb1 := E_nb1.keep KQ2
  have Z3 : n0 ≤ T2.heap.size := Nat.le_trans Z1 KQ2.1
  have O := O.keep KQ2 (allS (P := fun x => n0 ≤ x) g_nb1 all0)
  have K3 := K1.trans KQ2 (allS (P := fun x => x ∈ [] ∨ h0.size ≤ x) (Or.inr sz_nb1) all0)
  have V_nb1 := fo0_2
  refine Goes.pre (U' := T2.setTop (mkF m 17 #[.val (.ref d), .val (.int (0 : Int32)), .val (.int (3 : Int32)), .val (.ref nb1), .val (.int (2 : Int32)), .unset] [(.int (3 : Int32)), (.int (2 : Int32))])) (fun t k => st2 t (XS.istore X2.here hx rfl (hb hby d9_12) rfl (l' := #[.val (.ref d), .val (.int (0 : Int32)), .val (.int (3 : Int32)), .val (.ref nb1), .val (.int (2 : Int32)), .unset]) rfl (XS.iload X2.here hx rfl (hb hby d9_14) rfl (XS.iloadN X2.here hx rfl (hb hby d9_16) rfl k)))) ?_
  have hc17 : ¬ ((2 : Int32) = (3 : Int32)) := by decide
  refine Goes.pre (U' := T2.setTop (mkF m 23 #[.val (.ref d), .val (.int (0 : Int32)), .val (.int (3 : Int32)), .val (.ref nb1), .val (.int (2 : Int32)), .unset] [(.int (3 : Int32)), (.int (0 : Int32)), (.ref d)])) (fun t k => XS.icmpNo X2.here hx rfl (hb hby d9_17) rfl (feq hc17).1 (XS.aloadN X2.here hx rfl (hb hby d9_20) rfl rfl (XS.iloadN X2.here hx rfl (hb hby d9_21) rfl (XS.iloadN X2.here hx rfl (hb hby d9_22) rfl k)))) ?_
  have lt_d := V_d.lt
  have lt_nb1 := E_nb1.lt
  obtain ⟨_, _, ⟨T4, L4, k4, n4⟩, -, X4, ⟨Lc4, hQ4, l4, y4, z4⟩, st4⟩ := Jvm.LawKit.callS X2 hx (y := (⟨"java/lang/StringUTF16", "toBytes", "([CII)[B"⟩ : MethodName)) hown (mvT hZ (wq hw 90 rfl)) (mvT hZ (wq hw 91 rfl)) (mvT hZ (wq hw 51 rfl)) (mvT hZ (wq hw 92 rfl)) (by decide) (backOf (W := 0) (rm_toB3 l Z a0 hw [] d kd c0 c1 c2 T2.heap n0 Z3 V_d S__assertionsDisabled S_HI_BYTE_SHIFT S_LO_BYTE_SHIFT O) hZ (wq hw 92 rfl) (wq hw 51 rfl) (by decide) (by decide)) (g := (mkF m 23 #[.val (.ref d), .val (.int (0 : Int32)), .val (.int (3 : Int32)), .val (.ref nb1), .val (.int (2 : Int32)), .unset] [(.int (3 : Int32)), (.int (0 : Int32)), (.ref d)])) rfl (by rw [hml]; rfl) (argsL := [(.ref d), (.int (0 : Int32)), (.int (3 : Int32))]) (rest := []) (lenOf pd__28_5bCII_29_5bB rfl) rfl (by show 2 * 0 + _ ≤ _; exact Nat.le_of_eq rfl) (hb hby d9_23) (fun _ _ => ⟨rfl, rfl, (by decide : 1 + 1 ≤ _), (by decide : 3 + 6 ≤ _)⟩)
  dsimp only [Pt.U, Pt.locs, Pt.cells, Pt.slots] at X4 l4 y4 z4 st4 hQ4
  subst l4 y4 z4
  obtain ⟨r4, kr4, rfl, N4q, KQ4, fo0_4, g_r4, sl_r4⟩ := hQ4
  have N4 := Fr.app N2 N4q
  have V_d := V_d.keep KQ4 nin0
  have E_nb1 := E_nb1.keep KQ4
  have V_nb1 := V_nb1.keep KQ4 nin0
  have Z5 : n0 ≤ T4.heap.size := Nat.le_trans Z3 KQ4.1
  have O := O.keep KQ4 all0
  have K5 := K3.trans KQ4 all0
  have ne_d_r4 : d ≠ r4 := Nat.ne_of_lt (Nat.lt_of_lt_of_le lt_d sl_r4)
  have ne_r4_d := ne_d_r4.symm
  have ne_nb1_r4 : nb1 ≠ r4 := Nat.ne_of_lt (Nat.lt_of_lt_of_le lt_nb1 sl_r4)
  have ne_r4_nb1 := ne_nb1_r4.symm
  have sz_r4 : h0.size ≤ r4 := Nat.le_trans K3.1 sl_r4
  have V_r4 := fo0_4
  refine Goes.pre (U' := T4.setTop (mkF m 32 #[.val (.ref d), .val (.int (0 : Int32)), .val (.int (3 : Int32)), .val (.ref nb1), .val (.int (2 : Int32)), .val (.ref r4)] [(.int (2 : Int32)), (.ref r4)])) (fun t k => st4 t (XS.astore X4.here hx rfl (hb hby d9_26) rfl rfl (l' := #[.val (.ref d), .val (.int (0 : Int32)), .val (.int (3 : Int32)), .val (.ref nb1), .val (.int (2 : Int32)), .val (.ref r4)]) rfl (XS.aload X4.here hx rfl (hb hby d9_28) rfl rfl (XS.iload X4.here hx rfl (hb hby d9_30) rfl k)))) ?_
  obtain ⟨_, _, ⟨T6, L6, k6, n6⟩, -, X6, ⟨Lc6, hQ6, l6, y6, z6⟩, st6⟩ := Jvm.LawKit.callS X4 hx (y := (⟨"java/lang/StringUTF16", "getChar", "([BI)C"⟩ : MethodName)) hown (mvT hZ (wq hw 106 rfl)) (mvT hZ (wq hw 107 rfl)) (mvT hZ (wq hw 51 rfl)) (mvT hZ (wq hw 108 rfl)) (by decide) (backOf (W := 0) (rm_getCh32 l Z a0 hw [] r4 kr4 c0 c1 c2 T4.heap n0 Z5 V_r4 S__assertionsDisabled S_HI_BYTE_SHIFT S_LO_BYTE_SHIFT hch O) hZ (wq hw 108 rfl) (wq hw 51 rfl) (by decide) (by decide)) (g := (mkF m 32 #[.val (.ref d), .val (.int (0 : Int32)), .val (.int (3 : Int32)), .val (.ref nb1), .val (.int (2 : Int32)), .val (.ref r4)] [(.int (2 : Int32)), (.ref r4)])) rfl (by rw [hml]; rfl) (argsL := [(.ref r4), (.int (2 : Int32))]) (rest := []) (lenOf pd__28_5bBI_29C rfl) rfl (by show 2 * 0 + _ ≤ _; exact Nat.le_of_eq rfl) (hb hby d9_32) (fun _ _ => ⟨rfl, rfl, (by decide : 2 + 0 ≤ _), (by decide : 9 + 0 ≤ _)⟩)
  dsimp only [Pt.U, Pt.locs, Pt.cells, Pt.slots] at X6 l6 y6 z6 st6 hQ6
  subst l6 y6 z6
  obtain ⟨rfl, N6q, HQ6⟩ := hQ6
  have N6 := Fr.app N4 N6q
  refine Goes.pre (U' := T6.setTop (mkF m 38 #[.val (.ref d), .val (.int (0 : Int32)), .val (.int (3 : Int32)), .val (.ref nb1), .val (.int (2 : Int32)), .val (.ref r4)] [(.int (255 : Int32)), (.int c2)])) (fun t k => st6 t (XS.sipush X6.here hx rfl (hb hby d9_35) k)) ?_
  have hc38 : (255 : Int32) < c2 := hgt
  refine Goes.pre (U' := T6.setTop (mkF m 56 #[.val (.ref d), .val (.int (0 : Int32)), .val (.int (3 : Int32)), .val (.ref nb1), .val (.int (2 : Int32)), .val (.ref r4)] [(.ref r4)])) (fun t k => XS.icmpYes X6.here hx rfl (pc0 := 38) (pc' := 54) rfl (hb hby d9_38) rfl (tlt hc38).2.2.1 (by decide) (by decide) (XS.aload X6.here hx rfl (hb hby d9_54) rfl rfl k)) ?_
  refine Goes.ret X6 (v := (some (.ref r4))) (fun h => by rw [hret] at h; cases h) hlk (by decide) (by decide) HQ6 (fun fs hr => retOut X6 hx hret rfl (Or.inr (Or.inr (Or.inr (Or.inr ⟨rfl, rfl, rfl⟩)))) (hb hby d9_56) hr) ?_
  exact ⟨r4, kr4, rfl, N6, K5, V_r4, g_r4, sz_r4⟩
theorem ef_rm_cmpI33 (m : MethodId) (x0 : Addr) (x1 : Int32) (x2 : Addr) (x3 : Int32) (x4 : Int32) : entryFrame m #[(.ref x0), (.int x1), (.ref x2), (.int x3), (.int x4)] 7 = mkF m 0 #[.val (.ref x0), .val (.int x1), .val (.ref x2), .val (.int x3), .val (.int x4), .unset, .unset] [] := by first | (simp [entryFrame, mkF, argsToLocals, Value.category]; done) | rfl
def Q_rm_cmpI33 (Z : State) (d : Addr) (kd : ClassId) (c0 : Int32) (c1 : Int32) (c2 : Int32) (b : Addr) (kb : ClassId) (h0 : Heap) (n0 : Nat) (v : Option Value) (h : Heap) (L : List Loc) : Prop := v = some (.int (3 : Int32)) ∧ Fr n0 L ∧ Keep h0 h [b] ∧ Arv Z h b kb .byte (3 : Int32) [(.int c0.toInt8.toInt32), (.int c1.toInt8.toInt32), (.int c2.toInt8.toInt32)] (.int (0 : Int32))
set_option maxRecDepth 65536 in
set_option maxHeartbeats 40000000 in
theorem rm_cmpI33 (l : Launch) (Z : State) (a0 : Array Value) (hw : ∀ d ∈ tables_1, d.before a0 Z = true) (ws : List Jvm.Cond) (d : Addr) (kd : ClassId) (c0 : Int32) (c1 : Int32) (c2 : Int32) (b : Addr) (kb : ClassId) (h0 : Heap) (n0 : Nat) (Z0 : n0 ≤ h0.size) (V_d : Arv Z h0 d kd .char (3 : Int32) [(.int c0), (.int c1), (.int c2)] (.int (0 : Int32))) (V_b : Arv Z h0 b kb .byte (3 : Int32) [(.int (0 : Int32)), (.int (0 : Int32)), (.int (0 : Int32))] (.int (0 : Int32))) (hle0 : ¬ ((255 : Int32) < c0)) (hle1 : ¬ ((255 : Int32) < c1)) (hle2 : ¬ ((255 : Int32) < c2)) (ne_d_b : d ≠ b) (g_b : n0 ≤ b) :
    Met l Z M10 jdk_52_method_21_code 7 (some .int) ws (Rm 0 0 0 0) #[(.ref d), (.int (0 : Int32)), (.ref b), (.int (0 : Int32)), (.int (3 : Int32))] h0 (Q_rm_cmpI33 Z d kd c0 c1 c2 b kb h0 n0) := by
  refine met_of (plainFor_of_name pn_java_lang_StringUTF16) (own := "java/lang/StringUTF16") rfl (fun m => ef_rm_cmpI33 m d (0 : Int32) b (0 : Int32) (3 : Int32)) ?_
  intro p e s m below meth c s₁ hx hby hml hown hnm hZ X0 e0 hret hlk
  have N0 := Fr.nil n0
  have K0 := Keep.refl h0 [b]
  show Goes p e below s _ _ _ (s₁.setTop (mkF m 0 #[.val (.ref d), .val (.int (0 : Int32)), .val (.ref b), .val (.int (0 : Int32)), .val (.int (3 : Int32)), .unset, .unset] []))
  refine Goes.pre (U' := s₁.setTop (mkF m 7 #[.val (.ref d), .val (.int (0 : Int32)), .val (.ref b), .val (.int (0 : Int32)), .val (.int (3 : Int32)), .val (.int (0 : Int32)), .unset] [(.int (3 : Int32)), (.int (0 : Int32))])) (fun t k => XS.iconst X0.here hx rfl (hb hby d10_0) (XS.istore X0.here hx rfl (hb hby d10_1) rfl (l' := #[.val (.ref d), .val (.int (0 : Int32)), .val (.ref b), .val (.int (0 : Int32)), .val (.int (3 : Int32)), .val (.int (0 : Int32)), .unset]) rfl (XS.iload X0.here hx rfl (hb hby d10_3) rfl (XS.iload X0.here hx rfl (hb hby d10_5) rfl k)))) ?_
  have hc7 : (0 : Int32) < (3 : Int32) := by decide
  refine Goes.pre (U' := s₁.setTop (mkF m 12 #[.val (.ref d), .val (.int (0 : Int32)), .val (.ref b), .val (.int (0 : Int32)), .val (.int (3 : Int32)), .val (.int (0 : Int32)), .unset] [(.int (0 : Int32)), (.ref d)])) (fun t k => XS.icmpNo X0.here hx rfl (hb hby d10_7) rfl (tlt hc7).2.1 (XS.aloadN X0.here hx rfl (hb hby d10_10) rfl rfl (XS.iloadN X0.here hx rfl (hb hby d10_11) rfl k))) ?_
  obtain ⟨cl1, Ar1, q1, Sz1, Ng1, Hs1, Ft1⟩ := id V_d
  have hin1 := inb_of (j := (0 : Int32)) Sz1 ⟨by decide, by decide⟩
  refine Goes.pre (U' := s₁.setTop (mkF m 20 #[.val (.ref d), .val (.int (0 : Int32)), .val (.ref b), .val (.int (0 : Int32)), .val (.int (3 : Int32)), .val (.int (0 : Int32)), .val (.int c0)] [(.int (255 : Int32)), (.int c0)])) (fun t k => X0.caload hx (j := (0 : Int32)) (v := (.int c0)) (by rw [e0]; exact Ar1.1) (State.isArrayOf_alike hZ.alike Ar1.2.1) Ar1.2.2 hin1 (Has.at Hs1 hin1 rfl) (g := (mkF m 12 #[.val (.ref d), .val (.int (0 : Int32)), .val (.ref b), .val (.int (0 : Int32)), .val (.int (3 : Int32)), .val (.int (0 : Int32)), .unset] [(.int (0 : Int32)), (.ref d)])) rfl rfl (hb hby d10_12) _ (XS.istore X0.here hx rfl (hb hby d10_13) rfl (l' := #[.val (.ref d), .val (.int (0 : Int32)), .val (.ref b), .val (.int (0 : Int32)), .val (.int (3 : Int32)), .val (.int (0 : Int32)), .val (.int c0)]) rfl (XS.iload X0.here hx rfl (hb hby d10_15) rfl (XS.sipush X0.here hx rfl (hb hby d10_17) k)))) ?_
  have hc20 : ¬ ((255 : Int32) < c0) := hle0
  refine Goes.pre (U' := s₁.setTop (mkF m 31 #[.val (.ref d), .val (.int (0 : Int32)), .val (.ref b), .val (.int (0 : Int32)), .val (.int (3 : Int32)), .val (.int (0 : Int32)), .val (.int c0)] [(.int (c0.toInt8.toInt32)), (.int (0 : Int32)), (.ref b)])) (fun t k => XS.icmpYes X0.here hx rfl (pc0 := 20) (pc' := 26) rfl (hb hby d10_20) rfl (flt hc20).2.2.2 (by decide) (by decide) (XS.aloadN X0.here hx rfl (hb hby d10_26) rfl rfl (XS.iloadN X0.here hx rfl (hb hby d10_27) rfl (XS.iload X0.here hx rfl (hb hby d10_28) rfl (XS.i2b X0.here hx rfl (hb hby d10_30) rfl k))))) ?_
  obtain ⟨cl2, Ar2, q2, Sz2, Ng2, Hs2, Ft2⟩ := id V_b
  obtain ⟨T2, h2, X2, e2, W2, st2⟩ := stB X0 hx hZ e0 Ar2 (j := (0 : Int32)) (inb_of Sz2 ⟨by decide, by decide⟩) (g := (mkF m 31 #[.val (.ref d), .val (.int (0 : Int32)), .val (.ref b), .val (.int (0 : Int32)), .val (.int (3 : Int32)), .val (.int (0 : Int32)), .val (.int c0)] [(.int (c0.toInt8.toInt32)), (.int (0 : Int32)), (.ref b)])) rfl rfl (hb hby d10_31)
  have nr2 : nar .byte (c0.toInt8.toInt32) = (c0.toInt8.toInt32) := own_bb _
  have ft2 : fits .byte (.int (c0.toInt8.toInt32)) = true := nr2 ▸ (fits_nar_byte (c0.toInt8.toInt32) : fits .byte (.int (nar .byte (c0.toInt8.toInt32))) = true)
  rw [nr2] at W2
  have V_d := V_d.other W2 ne_d_b
  have Z2 : n0 ≤ h2.size := Nat.le_trans Z0 (Keep.of_wr W2).1
  have V_b : Arv Z h2 b kb .byte (3 : Int32) [(.int (c0.toInt8.toInt32)), (.int (0 : Int32)), (.int (0 : Int32))] (.int (0 : Int32)) := Arv.set Ar2 q2 Sz2 Ng2 Hs2 Ft2 ft2 W2 0 rfl (Nat.le_of_ble_eq_true rfl)
  have K2 := K0.wr W2 (Or.inl (List.mem_of_getElem? (i := 0) rfl))
  have N2 := Fr.snoc X2 N0 g_b
  refine Goes.pre (U' := T2.setTop (mkF m 35 #[.val (.ref d), .val (.int ((0 : Int32) + (1 : Int32))), .val (.ref b), .val (.int (0 : Int32)), .val (.int (3 : Int32)), .val (.int (0 : Int32)), .val (.int c0)] [])) (fun t k => st2 t (XT.iincV X2.here hx rfl (1 : Int32) (hb hby d10_32) (by decide) rfl (l' := #[.val (.ref d), .val (.int ((0 : Int32) + (1 : Int32))), .val (.ref b), .val (.int (0 : Int32)), .val (.int (3 : Int32)), .val (.int (0 : Int32)), .val (.int c0)]) rfl k)) ?_
  rw [(by decide : ((0 : Int32) + (1 : Int32)) = (1 : Int32))]
  refine Goes.pre (U' := T2.setTop (mkF m 38 #[.val (.ref d), .val (.int (1 : Int32)), .val (.ref b), .val (.int ((0 : Int32) + (1 : Int32))), .val (.int (3 : Int32)), .val (.int (0 : Int32)), .val (.int c0)] [])) (fun t k => XT.iincV X2.here hx rfl (1 : Int32) (hb hby d10_35) (by decide) rfl (l' := #[.val (.ref d), .val (.int (1 : Int32)), .val (.ref b), .val (.int ((0 : Int32) + (1 : Int32))), .val (.int (3 : Int32)), .val (.int (0 : Int32)), .val (.int c0)]) rfl k) ?_
  rw [(by decide : ((0 : Int32) + (1 : Int32)) = (1 : Int32))]
  refine Goes.pre (U' := T2.setTop (mkF m 41 #[.val (.ref d), .val (.int (1 : Int32)), .val (.ref b), .val (.int (1 : Int32)), .val (.int (3 : Int32)), .val (.int ((0 : Int32) + (1 : Int32))), .val (.int c0)] [])) (fun t k => XT.iincV X2.here hx rfl (1 : Int32) (hb hby d10_38) (by decide) rfl (l' := #[.val (.ref d), .val (.int (1 : Int32)), .val (.ref b), .val (.int (1 : Int32)), .val (.int (3 : Int32)), .val (.int ((0 : Int32) + (1 : Int32))), .val (.int c0)]) rfl k) ?_
  rw [(by decide : ((0 : Int32) + (1 : Int32)) = (1 : Int32))]
  refine Goes.pre (U' := T2.setTop (mkF m 7 #[.val (.ref d), .val (.int (1 : Int32)), .val (.ref b), .val (.int (1 : Int32)), .val (.int (3 : Int32)), .val (.int (1 : Int32)), .val (.int c0)] [(.int (3 : Int32)), (.int (1 : Int32))])) (fun t k => XS.goto X2.here hx rfl (pc0 := 41) (pc' := 3) rfl (hb hby d10_41) (by decide) (by decide) (XS.iload X2.here hx rfl (hb hby d10_3) rfl (XS.iload X2.here hx rfl (hb hby d10_5) rfl k))) ?_
  have hc7 : (1 : Int32) < (3 : Int32) := by decide
  refine Goes.pre (U' := T2.setTop (mkF m 12 #[.val (.ref d), .val (.int (1 : Int32)), .val (.ref b), .val (.int (1 : Int32)), .val (.int (3 : Int32)), .val (.int (1 : Int32)), .val (.int c0)] [(.int (1 : Int32)), (.ref d)])) (fun t k => XS.icmpNo X2.here hx rfl (hb hby d10_7) rfl (tlt hc7).2.1 (XS.aloadN X2.here hx rfl (hb hby d10_10) rfl rfl (XS.iloadN X2.here hx rfl (hb hby d10_11) rfl k))) ?_
  obtain ⟨cl3, Ar3, q3, Sz3, Ng3, Hs3, Ft3⟩ := id V_d
  have hin3 := inb_of (j := (1 : Int32)) Sz3 ⟨by decide, by decide⟩
  refine Goes.pre (U' := T2.setTop (mkF m 20 #[.val (.ref d), .val (.int (1 : Int32)), .val (.ref b), .val (.int (1 : Int32)), .val (.int (3 : Int32)), .val (.int (1 : Int32)), .val (.int c1)] [(.int (255 : Int32)), (.int c1)])) (fun t k => X2.caload hx (j := (1 : Int32)) (v := (.int c1)) (by rw [e2]; exact Ar3.1) (State.isArrayOf_alike hZ.alike Ar3.2.1) Ar3.2.2 hin3 (Has.at Hs3 hin3 rfl) (g := (mkF m 12 #[.val (.ref d), .val (.int (1 : Int32)), .val (.ref b), .val (.int (1 : Int32)), .val (.int (3 : Int32)), .val (.int (1 : Int32)), .val (.int c0)] [(.int (1 : Int32)), (.ref d)])) rfl rfl (hb hby d10_12) _ (XS.istore X2.here hx rfl (hb hby d10_13) rfl (l' := #[.val (.ref d), .val (.int (1 : Int32)), .val (.ref b), .val (.int (1 : Int32)), .val (.int (3 : Int32)), .val (.int (1 : Int32)), .val (.int c1)]) rfl (XS.iload X2.here hx rfl (hb hby d10_15) rfl (XS.sipush X2.here hx rfl (hb hby d10_17) k)))) ?_
  have hc20 : ¬ ((255 : Int32) < c1) := hle1
  refine Goes.pre (U' := T2.setTop (mkF m 31 #[.val (.ref d), .val (.int (1 : Int32)), .val (.ref b), .val (.int (1 : Int32)), .val (.int (3 : Int32)), .val (.int (1 : Int32)), .val (.int c1)] [(.int (c1.toInt8.toInt32)), (.int (1 : Int32)), (.ref b)])) (fun t k => XS.icmpYes X2.here hx rfl (pc0 := 20) (pc' := 26) rfl (hb hby d10_20) rfl (flt hc20).2.2.2 (by decide) (by decide) (XS.aloadN X2.here hx rfl (hb hby d10_26) rfl rfl (XS.iloadN X2.here hx rfl (hb hby d10_27) rfl (XS.iload X2.here hx rfl (hb hby d10_28) rfl (XS.i2b X2.here hx rfl (hb hby d10_30) rfl k))))) ?_
  obtain ⟨cl4, Ar4, q4, Sz4, Ng4, Hs4, Ft4⟩ := id V_b
  obtain ⟨T4, h4, X4, e4, W4, st4⟩ := stB X2 hx hZ e2 Ar4 (j := (1 : Int32)) (inb_of Sz4 ⟨by decide, by decide⟩) (g := (mkF m 31 #[.val (.ref d), .val (.int (1 : Int32)), .val (.ref b), .val (.int (1 : Int32)), .val (.int (3 : Int32)), .val (.int (1 : Int32)), .val (.int c1)] [(.int (c1.toInt8.toInt32)), (.int (1 : Int32)), (.ref b)])) rfl rfl (hb hby d10_31)
  have nr4 : nar .byte (c1.toInt8.toInt32) = (c1.toInt8.toInt32) := own_bb _
  have ft4 : fits .byte (.int (c1.toInt8.toInt32)) = true := nr4 ▸ (fits_nar_byte (c1.toInt8.toInt32) : fits .byte (.int (nar .byte (c1.toInt8.toInt32))) = true)
  rw [nr4] at W4
  have V_d := V_d.other W4 ne_d_b
  have Z4 : n0 ≤ h4.size := Nat.le_trans Z2 (Keep.of_wr W4).1
  have V_b : Arv Z h4 b kb .byte (3 : Int32) [(.int (c0.toInt8.toInt32)), (.int (c1.toInt8.toInt32)), (.int (0 : Int32))] (.int (0 : Int32)) := Arv.set Ar4 q4 Sz4 Ng4 Hs4 Ft4 ft4 W4 1 rfl (Nat.le_of_ble_eq_true rfl)
  have K4 := K2.wr W4 (Or.inl (List.mem_of_getElem? (i := 0) rfl))
  have N4 := Fr.snoc X4 N2 g_b
  refine Goes.pre (U' := T4.setTop (mkF m 35 #[.val (.ref d), .val (.int ((1 : Int32) + (1 : Int32))), .val (.ref b), .val (.int (1 : Int32)), .val (.int (3 : Int32)), .val (.int (1 : Int32)), .val (.int c1)] [])) (fun t k => st4 t (XT.iincV X4.here hx rfl (1 : Int32) (hb hby d10_32) (by decide) rfl (l' := #[.val (.ref d), .val (.int ((1 : Int32) + (1 : Int32))), .val (.ref b), .val (.int (1 : Int32)), .val (.int (3 : Int32)), .val (.int (1 : Int32)), .val (.int c1)]) rfl k)) ?_
  rw [(by decide : ((1 : Int32) + (1 : Int32)) = (2 : Int32))]
  refine Goes.pre (U' := T4.setTop (mkF m 38 #[.val (.ref d), .val (.int (2 : Int32)), .val (.ref b), .val (.int ((1 : Int32) + (1 : Int32))), .val (.int (3 : Int32)), .val (.int (1 : Int32)), .val (.int c1)] [])) (fun t k => XT.iincV X4.here hx rfl (1 : Int32) (hb hby d10_35) (by decide) rfl (l' := #[.val (.ref d), .val (.int (2 : Int32)), .val (.ref b), .val (.int ((1 : Int32) + (1 : Int32))), .val (.int (3 : Int32)), .val (.int (1 : Int32)), .val (.int c1)]) rfl k) ?_
  rw [(by decide : ((1 : Int32) + (1 : Int32)) = (2 : Int32))]
  refine Goes.pre (U' := T4.setTop (mkF m 41 #[.val (.ref d), .val (.int (2 : Int32)), .val (.ref b), .val (.int (2 : Int32)), .val (.int (3 : Int32)), .val (.int ((1 : Int32) + (1 : Int32))), .val (.int c1)] [])) (fun t k => XT.iincV X4.here hx rfl (1 : Int32) (hb hby d10_38) (by decide) rfl (l' := #[.val (.ref d), .val (.int (2 : Int32)), .val (.ref b), .val (.int (2 : Int32)), .val (.int (3 : Int32)), .val (.int ((1 : Int32) + (1 : Int32))), .val (.int c1)]) rfl k) ?_
  rw [(by decide : ((1 : Int32) + (1 : Int32)) = (2 : Int32))]
  refine Goes.pre (U' := T4.setTop (mkF m 7 #[.val (.ref d), .val (.int (2 : Int32)), .val (.ref b), .val (.int (2 : Int32)), .val (.int (3 : Int32)), .val (.int (2 : Int32)), .val (.int c1)] [(.int (3 : Int32)), (.int (2 : Int32))])) (fun t k => XS.goto X4.here hx rfl (pc0 := 41) (pc' := 3) rfl (hb hby d10_41) (by decide) (by decide) (XS.iload X4.here hx rfl (hb hby d10_3) rfl (XS.iload X4.here hx rfl (hb hby d10_5) rfl k))) ?_
  have hc7 : (2 : Int32) < (3 : Int32) := by decide
  refine Goes.pre (U' := T4.setTop (mkF m 12 #[.val (.ref d), .val (.int (2 : Int32)), .val (.ref b), .val (.int (2 : Int32)), .val (.int (3 : Int32)), .val (.int (2 : Int32)), .val (.int c1)] [(.int (2 : Int32)), (.ref d)])) (fun t k => XS.icmpNo X4.here hx rfl (hb hby d10_7) rfl (tlt hc7).2.1 (XS.aloadN X4.here hx rfl (hb hby d10_10) rfl rfl (XS.iloadN X4.here hx rfl (hb hby d10_11) rfl k))) ?_
  obtain ⟨cl5, Ar5, q5, Sz5, Ng5, Hs5, Ft5⟩ := id V_d
  have hin5 := inb_of (j := (2 : Int32)) Sz5 ⟨by decide, by decide⟩
  refine Goes.pre (U' := T4.setTop (mkF m 20 #[.val (.ref d), .val (.int (2 : Int32)), .val (.ref b), .val (.int (2 : Int32)), .val (.int (3 : Int32)), .val (.int (2 : Int32)), .val (.int c2)] [(.int (255 : Int32)), (.int c2)])) (fun t k => X4.caload hx (j := (2 : Int32)) (v := (.int c2)) (by rw [e4]; exact Ar5.1) (State.isArrayOf_alike hZ.alike Ar5.2.1) Ar5.2.2 hin5 (Has.at Hs5 hin5 rfl) (g := (mkF m 12 #[.val (.ref d), .val (.int (2 : Int32)), .val (.ref b), .val (.int (2 : Int32)), .val (.int (3 : Int32)), .val (.int (2 : Int32)), .val (.int c1)] [(.int (2 : Int32)), (.ref d)])) rfl rfl (hb hby d10_12) _ (XS.istore X4.here hx rfl (hb hby d10_13) rfl (l' := #[.val (.ref d), .val (.int (2 : Int32)), .val (.ref b), .val (.int (2 : Int32)), .val (.int (3 : Int32)), .val (.int (2 : Int32)), .val (.int c2)]) rfl (XS.iload X4.here hx rfl (hb hby d10_15) rfl (XS.sipush X4.here hx rfl (hb hby d10_17) k)))) ?_
  have hc20 : ¬ ((255 : Int32) < c2) := hle2
  refine Goes.pre (U' := T4.setTop (mkF m 31 #[.val (.ref d), .val (.int (2 : Int32)), .val (.ref b), .val (.int (2 : Int32)), .val (.int (3 : Int32)), .val (.int (2 : Int32)), .val (.int c2)] [(.int (c2.toInt8.toInt32)), (.int (2 : Int32)), (.ref b)])) (fun t k => XS.icmpYes X4.here hx rfl (pc0 := 20) (pc' := 26) rfl (hb hby d10_20) rfl (flt hc20).2.2.2 (by decide) (by decide) (XS.aloadN X4.here hx rfl (hb hby d10_26) rfl rfl (XS.iloadN X4.here hx rfl (hb hby d10_27) rfl (XS.iload X4.here hx rfl (hb hby d10_28) rfl (XS.i2b X4.here hx rfl (hb hby d10_30) rfl k))))) ?_
  obtain ⟨cl6, Ar6, q6, Sz6, Ng6, Hs6, Ft6⟩ := id V_b
  obtain ⟨T6, h6, X6, e6, W6, st6⟩ := stB X4 hx hZ e4 Ar6 (j := (2 : Int32)) (inb_of Sz6 ⟨by decide, by decide⟩) (g := (mkF m 31 #[.val (.ref d), .val (.int (2 : Int32)), .val (.ref b), .val (.int (2 : Int32)), .val (.int (3 : Int32)), .val (.int (2 : Int32)), .val (.int c2)] [(.int (c2.toInt8.toInt32)), (.int (2 : Int32)), (.ref b)])) rfl rfl (hb hby d10_31)
  have nr6 : nar .byte (c2.toInt8.toInt32) = (c2.toInt8.toInt32) := own_bb _
  have ft6 : fits .byte (.int (c2.toInt8.toInt32)) = true := nr6 ▸ (fits_nar_byte (c2.toInt8.toInt32) : fits .byte (.int (nar .byte (c2.toInt8.toInt32))) = true)
  rw [nr6] at W6
  have V_d := V_d.other W6 ne_d_b
  have Z6 : n0 ≤ h6.size := Nat.le_trans Z4 (Keep.of_wr W6).1
  have V_b : Arv Z h6 b kb .byte (3 : Int32) [(.int (c0.toInt8.toInt32)), (.int (c1.toInt8.toInt32)), (.int (c2.toInt8.toInt32))] (.int (0 : Int32)) := Arv.set Ar6 q6 Sz6 Ng6 Hs6 Ft6 ft6 W6 2 rfl (Nat.le_of_ble_eq_true rfl)
  have K6 := K4.wr W6 (Or.inl (List.mem_of_getElem? (i := 0) rfl))
  have N6 := Fr.snoc X6 N4 g_b
  refine Goes.pre (U' := T6.setTop (mkF m 35 #[.val (.ref d), .val (.int ((2 : Int32) + (1 : Int32))), .val (.ref b), .val (.int (2 : Int32)), .val (.int (3 : Int32)), .val (.int (2 : Int32)), .val (.int c2)] [])) (fun t k => st6 t (XT.iincV X6.here hx rfl (1 : Int32) (hb hby d10_32) (by decide) rfl (l' := #[.val (.ref d), .val (.int ((2 : Int32) + (1 : Int32))), .val (.ref b), .val (.int (2 : Int32)), .val (.int (3 : Int32)), .val (.int (2 : Int32)), .val (.int c2)]) rfl k)) ?_
  rw [(by decide : ((2 : Int32) + (1 : Int32)) = (3 : Int32))]
  refine Goes.pre (U' := T6.setTop (mkF m 38 #[.val (.ref d), .val (.int (3 : Int32)), .val (.ref b), .val (.int ((2 : Int32) + (1 : Int32))), .val (.int (3 : Int32)), .val (.int (2 : Int32)), .val (.int c2)] [])) (fun t k => XT.iincV X6.here hx rfl (1 : Int32) (hb hby d10_35) (by decide) rfl (l' := #[.val (.ref d), .val (.int (3 : Int32)), .val (.ref b), .val (.int ((2 : Int32) + (1 : Int32))), .val (.int (3 : Int32)), .val (.int (2 : Int32)), .val (.int c2)]) rfl k) ?_
  rw [(by decide : ((2 : Int32) + (1 : Int32)) = (3 : Int32))]
  refine Goes.pre (U' := T6.setTop (mkF m 41 #[.val (.ref d), .val (.int (3 : Int32)), .val (.ref b), .val (.int (3 : Int32)), .val (.int (3 : Int32)), .val (.int ((2 : Int32) + (1 : Int32))), .val (.int c2)] [])) (fun t k => XT.iincV X6.here hx rfl (1 : Int32) (hb hby d10_38) (by decide) rfl (l' := #[.val (.ref d), .val (.int (3 : Int32)), .val (.ref b), .val (.int (3 : Int32)), .val (.int (3 : Int32)), .val (.int ((2 : Int32) + (1 : Int32))), .val (.int c2)]) rfl k) ?_
  rw [(by decide : ((2 : Int32) + (1 : Int32)) = (3 : Int32))]
  refine Goes.pre (U' := T6.setTop (mkF m 7 #[.val (.ref d), .val (.int (3 : Int32)), .val (.ref b), .val (.int (3 : Int32)), .val (.int (3 : Int32)), .val (.int (3 : Int32)), .val (.int c2)] [(.int (3 : Int32)), (.int (3 : Int32))])) (fun t k => XS.goto X6.here hx rfl (pc0 := 41) (pc' := 3) rfl (hb hby d10_41) (by decide) (by decide) (XS.iload X6.here hx rfl (hb hby d10_3) rfl (XS.iload X6.here hx rfl (hb hby d10_5) rfl k))) ?_
  have hc7 : ¬ ((3 : Int32) < (3 : Int32)) := by decide
  refine Goes.pre (U' := T6.setTop (mkF m 46 #[.val (.ref d), .val (.int (3 : Int32)), .val (.ref b), .val (.int (3 : Int32)), .val (.int (3 : Int32)), .val (.int (3 : Int32)), .val (.int c2)] [(.int (3 : Int32))])) (fun t k => XS.icmpYes X6.here hx rfl (pc0 := 7) (pc' := 44) rfl (hb hby d10_7) rfl (flt hc7).2.1 (by decide) (by decide) (XS.iload X6.here hx rfl (hb hby d10_44) rfl k)) ?_
  refine Goes.ret X6 (v := (some (.int (3 : Int32)))) (fun h => by rw [hret] at h; cases h) hlk (by decide) (by decide) e6 (fun fs hr => retI X6 hx hret (hb hby d10_46) hr) ?_
  exact ⟨rfl, N6, K6, V_b⟩
theorem ef_rm_cmp33 (m : MethodId) (x0 : Addr) (x1 : Int32) (x2 : Int32) : entryFrame m #[(.ref x0), (.int x1), (.int x2)] 6 = mkF m 0 #[.val (.ref x0), .val (.int x1), .val (.int x2), .unset, .unset, .unset] [] := by first | (simp [entryFrame, mkF, argsToLocals, Value.category]; done) | rfl
def Q_rm_cmp33 (Z : State) (d : Addr) (kd : ClassId) (c0 : Int32) (c1 : Int32) (c2 : Int32) (h0 : Heap) (n0 : Nat) (v : Option Value) (h : Heap) (L : List Loc) : Prop := ∃ (r : Addr) (kr : ClassId), v = some (.ref r) ∧ Fr n0 L ∧ Keep h0 h [] ∧ Arv Z h r kr .byte (3 : Int32) [(.int c0.toInt8.toInt32), (.int c1.toInt8.toInt32), (.int c2.toInt8.toInt32)] (.int (0 : Int32)) ∧ n0 ≤ r ∧ h0.size ≤ r
set_option maxRecDepth 65536 in
set_option maxHeartbeats 40000000 in
theorem rm_cmp33 (l : Launch) (Z : State) (a0 : Array Value) (hw : ∀ d ∈ tables_1, d.before a0 Z = true) (ws : List Jvm.Cond) (d : Addr) (kd : ClassId) (c0 : Int32) (c1 : Int32) (c2 : Int32) (h0 : Heap) (n0 : Nat) (Z0 : n0 ≤ h0.size) (V_d : Arv Z h0 d kd .char (3 : Int32) [(.int c0), (.int c1), (.int c2)] (.int (0 : Int32))) (S__assertionsDisabled : Sta Z Z.heap "java/lang/StringUTF16" "$assertionsDisabled" "Z" (.int (1 : Int32))) (S_HI_BYTE_SHIFT : Sta Z Z.heap "java/lang/StringUTF16" "HI_BYTE_SHIFT" "I" (.int (0 : Int32))) (S_LO_BYTE_SHIFT : Sta Z Z.heap "java/lang/StringUTF16" "LO_BYTE_SHIFT" "I" (.int (8 : Int32))) (hle0 : ¬ ((255 : Int32) < c0)) (hle1 : ¬ ((255 : Int32) < c1)) (hle2 : ¬ ((255 : Int32) < c2)) (O : Old Z n0 h0) :
    Met l Z M9 jdk_52_method_16_code 6 (some (.array .byte)) ws (Rm 1 1 3 18) #[(.ref d), (.int (0 : Int32)), (.int (3 : Int32))] h0 (Q_rm_cmp33 Z d kd c0 c1 c2 h0 n0) := by
  refine met_of (plainFor_of_name pn_java_lang_StringUTF16) (own := "java/lang/StringUTF16") rfl (fun m => ef_rm_cmp33 m d (0 : Int32) (3 : Int32)) ?_
  intro p e s m below meth c s₁ hx hby hml hown hnm hZ X0 e0 hret hlk
  have N0 := Fr.nil n0
  have K0 := Keep.refl h0 []
  show Goes p e below s _ _ _ (s₁.setTop (mkF m 0 #[.val (.ref d), .val (.int (0 : Int32)), .val (.int (3 : Int32)), .unset, .unset, .unset] []))
  refine Goes.pre (U' := s₁.setTop (mkF m 1 #[.val (.ref d), .val (.int (0 : Int32)), .val (.int (3 : Int32)), .unset, .unset, .unset] [(.int (3 : Int32))])) (fun t k => XS.iloadN X0.here hx rfl (hb hby d9_0) rfl k) ?_
  obtain ⟨T1, h1, k1, X1, e1, E1, A1, B1, st1⟩ := newPE X0 hx hZ (wq hw 23 rfl) e0 (g := (mkF m 1 #[.val (.ref d), .val (.int (0 : Int32)), .val (.int (3 : Int32)), .unset, .unset, .unset] [(.int (3 : Int32))])) rfl (hb hby d9_1) rfl (by decide) (cap := 3) (by decide) (by decide) (by decide) (by decide) (ad := "[B") (by decide)
  obtain ⟨nb1, g1⟩ : ∃ z, z = h0.size := ⟨_, rfl⟩
  rw [← g1] at A1 B1 st1
  have ne_d_nb1 : d ≠ nb1 := Nat.ne_of_lt (Nat.lt_of_lt_of_le V_d.lt (Nat.le_of_eq g1.symm))
  have ne_nb1_d := ne_d_nb1.symm
  have g_nb1 : n0 ≤ nb1 := Nat.le_trans Z0 (Nat.le_of_eq g1.symm)
  have sz_nb1 : h0.size ≤ nb1 := Nat.le_trans K0.1 (Nat.le_of_eq g1.symm)
  have V_d := V_d.ext E1
  have O := O.ext E1
  have Z1 : n0 ≤ h1.size := Nat.le_trans Z0 E1.1
  have K1 := K0.ext E1
  have E_nb1 := B1
  have V_nb1 : Arv Z h1 nb1 k1 .byte (3 : Int32) [(.int (0 : Int32)), (.int (0 : Int32)), (.int (0 : Int32))] (.int (0 : Int32)) := (Arv.new A1 (by decide)).pad (pad_rep [] (.int (0 : Int32)) 3)
  refine Goes.pre (U' := T1.setTop (mkF m 9 #[.val (.ref d), .val (.int (0 : Int32)), .val (.int (3 : Int32)), .val (.ref nb1), .unset, .unset] [(.int (3 : Int32)), (.int (0 : Int32)), (.ref nb1), (.int (0 : Int32)), (.ref d)])) (fun t k => st1 t (XS.astoreN X1.here hx rfl (hb hby d9_3) rfl rfl (l' := #[.val (.ref d), .val (.int (0 : Int32)), .val (.int (3 : Int32)), .val (.ref nb1), .unset, .unset]) rfl (XS.aloadN X1.here hx rfl (hb hby d9_4) rfl rfl (XS.iloadN X1.here hx rfl (hb hby d9_5) rfl (XS.aloadN X1.here hx rfl (hb hby d9_6) rfl rfl (XS.iconst X1.here hx rfl (hb hby d9_7) (XS.iloadN X1.here hx rfl (hb hby d9_8) rfl k))))))) ?_
  obtain ⟨_, _, ⟨T2, L2, k2, n2⟩, -, X2, ⟨Lc2, hQ2, l2, y2, z2⟩, st2⟩ := Jvm.LawKit.callS X1 hx (y := (⟨"java/lang/StringUTF16", "compress", "([CI[BII)I"⟩ : MethodName)) hown (mvT hZ (wq hw 53 rfl)) (mvT hZ (wq hw 54 rfl)) (mvT hZ (wq hw 51 rfl)) (mvT hZ (wq hw 55 rfl)) (by decide) (backOf (W := 0) (rm_cmpI33 l Z a0 hw [] d kd c0 c1 c2 nb1 k1 h1 n0 Z1 V_d V_nb1 hle0 hle1 hle2 ne_d_nb1 g_nb1) hZ (wq hw 55 rfl) (wq hw 51 rfl) (by decide) (by decide)) (g := (mkF m 9 #[.val (.ref d), .val (.int (0 : Int32)), .val (.int (3 : Int32)), .val (.ref nb1), .unset, .unset] [(.int (3 : Int32)), (.int (0 : Int32)), (.ref nb1), (.int (0 : Int32)), (.ref d)])) rfl (by rw [hml]; rfl) (argsL := [(.ref d), (.int (0 : Int32)), (.ref nb1), (.int (0 : Int32)), (.int (3 : Int32))]) (rest := []) (lenOf pd__28_5bCI_5bBII_29I rfl) rfl (by show 2 * 0 + _ ≤ _; exact Nat.le_of_eq rfl) (hb hby d9_9) (fun _ _ => ⟨rfl, e1, (by decide : 1 + 0 ≤ _), (by decide : 3 + 0 ≤ _)⟩)
  dsimp only [Pt.U, Pt.locs, Pt.cells, Pt.slots] at X2 l2 y2 z2 st2 hQ2
  subst l2 y2 z2
  obtain ⟨rfl, N2q, KQ2, fo0_2⟩ := hQ2
  have N2 := Fr.app N0 N2q
  have V_d := V_d.keep KQ2 (ninS ne_d_nb1 nin0)
  have E_nb1 := E_nb1.keep KQ2
  have Z3 : n0 ≤ T2.heap.size := Nat.le_trans Z1 KQ2.1
  have O := O.keep KQ2 (allS (P := fun x => n0 ≤ x) g_nb1 all0)
  have K3 := K1.trans KQ2 (allS (P := fun x => x ∈ [] ∨ h0.size ≤ x) (Or.inr sz_nb1) all0)
  have V_nb1 := fo0_2
  refine Goes.pre (U' := T2.setTop (mkF m 17 #[.val (.ref d), .val (.int (0 : Int32)), .val (.int (3 : Int32)), .val (.ref nb1), .val (.int (3 : Int32)), .unset] [(.int (3 : Int32)), (.int (3 : Int32))])) (fun t k => st2 t (XS.istore X2.here hx rfl (hb hby d9_12) rfl (l' := #[.val (.ref d), .val (.int (0 : Int32)), .val (.int (3 : Int32)), .val (.ref nb1), .val (.int (3 : Int32)), .unset]) rfl (XS.iload X2.here hx rfl (hb hby d9_14) rfl (XS.iloadN X2.here hx rfl (hb hby d9_16) rfl k)))) ?_
  have hc17 : (3 : Int32) = (3 : Int32) := rfl
  refine Goes.pre (U' := T2.setTop (mkF m 58 #[.val (.ref d), .val (.int (0 : Int32)), .val (.int (3 : Int32)), .val (.ref nb1), .val (.int (3 : Int32)), .unset] [(.ref nb1)])) (fun t k => XS.icmpYes X2.here hx rfl (pc0 := 17) (pc' := 57) rfl (hb hby d9_17) rfl (teq hc17).1 (by decide) (by decide) (XS.aloadN X2.here hx rfl (hb hby d9_57) rfl rfl k)) ?_
  refine Goes.ret X2 (v := (some (.ref nb1))) (fun h => by rw [hret] at h; cases h) hlk (by decide) (by decide) rfl (fun fs hr => retOut X2 hx hret rfl (Or.inr (Or.inr (Or.inr (Or.inr ⟨rfl, rfl, rfl⟩)))) (hb hby d9_58) hr) ?_
  exact ⟨nb1, k1, rfl, N2, K3, V_nb1, g_nb1, sz_nb1⟩
theorem ef_rm_cfl30 (m : MethodId) (x0 : Addr) (x1 : Int32) : entryFrame m #[(.ref x0), (.int x1)] 2 = mkF m 0 #[.val (.ref x0), .val (.int x1)] [] := by first | (simp [entryFrame, mkF, argsToLocals, Value.category]; done) | rfl
def Q_rm_cfl30 (Z : State) (b : Addr) (kb : ClassId) (c0 : Int32) (c1 : Int32) (c2 : Int32) (h0 : Heap) (n0 : Nat) (v : Option Value) (h : Heap) (L : List Loc) : Prop := v = some (.int (0 : Int32)) ∧ Fr n0 L ∧ h = h0
set_option maxRecDepth 65536 in
set_option maxHeartbeats 40000000 in
theorem rm_cfl30 (l : Launch) (Z : State) (a0 : Array Value) (hw : ∀ d ∈ tables_1, d.before a0 Z = true) (ws : List Jvm.Cond) (b : Addr) (kb : ClassId) (c0 : Int32) (c1 : Int32) (c2 : Int32) (h0 : Heap) (n0 : Nat) (Z0 : n0 ≤ h0.size) (V_b : Arv Z h0 b kb .byte (3 : Int32) [(.int c0.toInt8.toInt32), (.int c1.toInt8.toInt32), (.int c2.toInt8.toInt32)] (.int (0 : Int32))) :
    Met l Z M11 jdk_52_method_15_code 2 (some .byte) ws (Rm 0 0 0 0) #[(.ref b), (.int (3 : Int32))] h0 (Q_rm_cfl30 Z b kb c0 c1 c2 h0 n0) := by
  refine met_of (plainFor_of_name pn_java_lang_StringUTF16) (own := "java/lang/StringUTF16") rfl (fun m => ef_rm_cfl30 m b (3 : Int32)) ?_
  intro p e s m below meth c s₁ hx hby hml hown hnm hZ X0 e0 hret hlk
  have N0 := Fr.nil n0
  show Goes p e below s _ _ _ (s₁.setTop (mkF m 0 #[.val (.ref b), .val (.int (3 : Int32))] []))
  refine Goes.pre (U' := s₁.setTop (mkF m 2 #[.val (.ref b), .val (.int (3 : Int32))] [(.ref b), (.int (3 : Int32))])) (fun t k => XS.iloadN X0.here hx rfl (hb hby d11_0) rfl (XS.aloadN X0.here hx rfl (hb hby d11_1) rfl rfl k)) ?_
  obtain ⟨cl1, Ar1, q1, Sz1, Ng1, -, -⟩ := id V_b
  have ln1 := len_of Sz1 Ng1
  refine Goes.pre (U' := s₁.setTop (mkF m 4 #[.val (.ref b), .val (.int (3 : Int32))] [(.int ((3 : Int32) - (3 : Int32)))])) (fun t k => X0.arraylength hx (by rw [e0]; exact Ar1.1) (State.isArrayOf_alike hZ.alike Ar1.2.1) (g := (mkF m 2 #[.val (.ref b), .val (.int (3 : Int32))] [(.ref b), (.int (3 : Int32))])) rfl rfl (hb hby d11_2) _ (by rw [ln1]; exact (XS.isub X0.here hx rfl (hb hby d11_3) rfl k))) ?_
  rw [(by decide : ((3 : Int32) - (3 : Int32)) = (0 : Int32))]
  refine Goes.pre (U' := s₁.setTop (mkF m 7 #[.val (.ref b), .val (.int (3 : Int32))] [(.int (((0 : Int32).toUInt32 >>> ((31 : Int32) &&& 31).toUInt32).toInt32))])) (fun t k => XS.bipush X0.here hx rfl (hb hby d11_4) (XS.iushr X0.here hx rfl (hb hby d11_6) rfl k)) ?_
  rw [(by decide : (((0 : Int32).toUInt32 >>> ((31 : Int32) &&& 31).toUInt32).toInt32) = (0 : Int32))]
  refine Goes.pre (U' := s₁.setTop (mkF m 8 #[.val (.ref b), .val (.int (3 : Int32))] [(.int ((0 : Int32).toInt8.toInt32))])) (fun t k => XS.i2b X0.here hx rfl (hb hby d11_7) rfl k) ?_
  rw [(by decide : ((0 : Int32).toInt8.toInt32) = (0 : Int32))]
  refine Goes.ret X0 (v := (some (.int (0 : Int32)))) (fun h => by rw [hret] at h; cases h) hlk (by decide) (by decide) e0 (fun fs hr => retN X0 hx (t := .byte) hret (by simp) (hb hby d11_8) hr) ?_
  exact ⟨rfl, N0, rfl⟩
theorem ef_rm_cfl31 (m : MethodId) (x0 : Addr) (x1 : Int32) : entryFrame m #[(.ref x0), (.int x1)] 2 = mkF m 0 #[.val (.ref x0), .val (.int x1)] [] := by first | (simp [entryFrame, mkF, argsToLocals, Value.category]; done) | rfl
def Q_rm_cfl31 (Z : State) (b : Addr) (kb : ClassId) (c0 : Int32) (c1 : Int32) (c2 : Int32) (h0 : Heap) (n0 : Nat) (v : Option Value) (h : Heap) (L : List Loc) : Prop := v = some (.int (1 : Int32)) ∧ Fr n0 L ∧ h = h0
set_option maxRecDepth 65536 in
set_option maxHeartbeats 40000000 in
theorem rm_cfl31 (l : Launch) (Z : State) (a0 : Array Value) (hw : ∀ d ∈ tables_1, d.before a0 Z = true) (ws : List Jvm.Cond) (b : Addr) (kb : ClassId) (c0 : Int32) (c1 : Int32) (c2 : Int32) (h0 : Heap) (n0 : Nat) (Z0 : n0 ≤ h0.size) (V_b : Arv Z h0 b kb .byte (6 : Int32) [(.int (c0 >>> ((0 : Int32) &&& 31)).toInt8.toInt32), (.int (c0 >>> ((8 : Int32) &&& 31)).toInt8.toInt32), (.int (c1 >>> ((0 : Int32) &&& 31)).toInt8.toInt32), (.int (c1 >>> ((8 : Int32) &&& 31)).toInt8.toInt32), (.int (c2 >>> ((0 : Int32) &&& 31)).toInt8.toInt32), (.int (c2 >>> ((8 : Int32) &&& 31)).toInt8.toInt32)] (.int (0 : Int32))) :
    Met l Z M11 jdk_52_method_15_code 2 (some .byte) ws (Rm 0 0 0 0) #[(.ref b), (.int (3 : Int32))] h0 (Q_rm_cfl31 Z b kb c0 c1 c2 h0 n0) := by
  refine met_of (plainFor_of_name pn_java_lang_StringUTF16) (own := "java/lang/StringUTF16") rfl (fun m => ef_rm_cfl31 m b (3 : Int32)) ?_
  intro p e s m below meth c s₁ hx hby hml hown hnm hZ X0 e0 hret hlk
  have N0 := Fr.nil n0
  show Goes p e below s _ _ _ (s₁.setTop (mkF m 0 #[.val (.ref b), .val (.int (3 : Int32))] []))
  refine Goes.pre (U' := s₁.setTop (mkF m 2 #[.val (.ref b), .val (.int (3 : Int32))] [(.ref b), (.int (3 : Int32))])) (fun t k => XS.iloadN X0.here hx rfl (hb hby d11_0) rfl (XS.aloadN X0.here hx rfl (hb hby d11_1) rfl rfl k)) ?_
  obtain ⟨cl1, Ar1, q1, Sz1, Ng1, -, -⟩ := id V_b
  have ln1 := len_of Sz1 Ng1
  refine Goes.pre (U' := s₁.setTop (mkF m 4 #[.val (.ref b), .val (.int (3 : Int32))] [(.int ((3 : Int32) - (6 : Int32)))])) (fun t k => X0.arraylength hx (by rw [e0]; exact Ar1.1) (State.isArrayOf_alike hZ.alike Ar1.2.1) (g := (mkF m 2 #[.val (.ref b), .val (.int (3 : Int32))] [(.ref b), (.int (3 : Int32))])) rfl rfl (hb hby d11_2) _ (by rw [ln1]; exact (XS.isub X0.here hx rfl (hb hby d11_3) rfl k))) ?_
  rw [(by decide : ((3 : Int32) - (6 : Int32)) = (-3 : Int32))]
  refine Goes.pre (U' := s₁.setTop (mkF m 7 #[.val (.ref b), .val (.int (3 : Int32))] [(.int (((-3 : Int32).toUInt32 >>> ((31 : Int32) &&& 31).toUInt32).toInt32))])) (fun t k => XS.bipush X0.here hx rfl (hb hby d11_4) (XS.iushr X0.here hx rfl (hb hby d11_6) rfl k)) ?_
  rw [(by decide : (((-3 : Int32).toUInt32 >>> ((31 : Int32) &&& 31).toUInt32).toInt32) = (1 : Int32))]
  refine Goes.pre (U' := s₁.setTop (mkF m 8 #[.val (.ref b), .val (.int (3 : Int32))] [(.int ((1 : Int32).toInt8.toInt32))])) (fun t k => XS.i2b X0.here hx rfl (hb hby d11_7) rfl k) ?_
  rw [(by decide : ((1 : Int32).toInt8.toInt32) = (1 : Int32))]
  refine Goes.ret X0 (v := (some (.int (1 : Int32)))) (fun h => by rw [hret] at h; cases h) hlk (by decide) (by decide) e0 (fun fs hr => retN X0 hx (t := .byte) hret (by simp) (hb hby d11_8) hr) ?_
  exact ⟨rfl, N0, rfl⟩
theorem ef_rm_init4_3 (m : MethodId) (x0 : Addr) (x1 : Addr) (x2 : Int32) (x3 : Int32) : entryFrame m #[(.ref x0), (.ref x1), (.int x2), (.int x3), .null] 6 = mkF m 0 #[.val (.ref x0), .val (.ref x1), .val (.int x2), .val (.int x3), .val .null, .unset] [] := by first | (simp [entryFrame, mkF, argsToLocals, Value.category]; done) | rfl
def Q_rm_init4_3 (Z : State) (a : Addr) (d : Addr) (kd : ClassId) (c0 : Int32) (c1 : Int32) (c2 : Int32) (cs : Int32) (h0 : Heap) (n0 : Nat) (v : Option Value) (h : Heap) (L : List Loc) : Prop := ∃ (b : Addr) (kb : ClassId), v = none ∧ Fr n0 L ∧ Keep h0 h [a] ∧ OwnStr Z h a b kb [c0, c1, c2] ∧ n0 ≤ b ∧ h0.size ≤ b
set_option maxRecDepth 65536 in
set_option maxHeartbeats 40000000 in
theorem rm_init4_3 (l : Launch) (Z : State) (a0 : Array Value) (hw : ∀ d ∈ tables_1, d.before a0 Z = true) (ws : List Jvm.Cond) (a : Addr) (d : Addr) (kd : ClassId) (c0 : Int32) (c1 : Int32) (c2 : Int32) (cs : Int32) (h0 : Heap) (n0 : Nat) (Z0 : n0 ≤ h0.size) (E_a : Exa Z h0 a "java/lang/String") (F_value_a : Fld Z h0 a "java/lang/String" "value" "[B" .null) (F_coder_a : Fld Z h0 a "java/lang/String" "coder" "B" (.int (0 : Int32))) (V_d : Arv Z h0 d kd .char (3 : Int32) [(.int c0), (.int c1), (.int c2)] (.int (0 : Int32))) (S_COMPACT_STRINGS : Sta Z Z.heap "java/lang/String" "COMPACT_STRINGS" "Z" (.int cs)) (S__assertionsDisabled : Sta Z Z.heap "java/lang/StringUTF16" "$assertionsDisabled" "Z" (.int (1 : Int32))) (S_HI_BYTE_SHIFT : Sta Z Z.heap "java/lang/StringUTF16" "HI_BYTE_SHIFT" "I" (.int (0 : Int32))) (S_LO_BYTE_SHIFT : Sta Z Z.heap "java/lang/StringUTF16" "LO_BYTE_SHIFT" "I" (.int (8 : Int32))) (hch0 : OwnCh c0) (hch1 : OwnCh c1) (hch2 : OwnCh c2) (hcs : ¬ (cs = (0 : Int32))) (ne_d_a : d ≠ a) (g_a : n0 ≤ a) (O : Old Z n0 h0) :
    Met l Z M4 jdk_42_method_149_code 6 none ws (Rm 4 2 9 57) #[(.ref a), (.ref d), (.int (0 : Int32)), (.int (3 : Int32)), .null] h0 (Q_rm_init4_3 Z a d kd c0 c1 c2 cs h0 n0) := by
  refine met_of (plainFor_of_name pn_java_lang_String) (own := "java/lang/String") rfl (fun m => ef_rm_init4_3 m a d (0 : Int32) (3 : Int32)) ?_
  intro p e s m below meth c s₁ hx hby hml hown hnm hZ X0 e0 hret hlk
  have N0 := Fr.nil n0
  have K0 := Keep.refl h0 [a]
  show Goes p e below s _ _ _ (s₁.setTop (mkF m 0 #[.val (.ref a), .val (.ref d), .val (.int (0 : Int32)), .val (.int (3 : Int32)), .val .null, .unset] []))
  refine Goes.pre (U' := s₁.setTop (mkF m 1 #[.val (.ref a), .val (.ref d), .val (.int (0 : Int32)), .val (.int (3 : Int32)), .val .null, .unset] [(.ref a)])) (fun t k => XS.aloadN X0.here hx rfl (hb hby d4_0) rfl rfl k) ?_
  obtain ⟨T1, X1, e1, st1⟩ := initO X0 hx hZ hown (wq hw 19 rfl) (wq hw 20 rfl) (wq hw 21 rfl) e0 (g := (mkF m 1 #[.val (.ref a), .val (.ref d), .val (.int (0 : Int32)), .val (.int (3 : Int32)), .val .null, .unset] [(.ref a)])) rfl (by rw [hml]; rfl) rfl (hb hby d4_1) (by decide) (W := 0) (by show 2 * 0 + _ ≤ _; exact Nat.le_of_eq rfl) (by decide)
  refine Goes.pre (U' := T1.setTop (mkF m 5 #[.val (.ref a), .val (.ref d), .val (.int (0 : Int32)), .val (.int (3 : Int32)), .val .null, .unset] [(.int (3 : Int32))])) (fun t k => st1 t (XS.iloadN X1.here hx rfl (hb hby d4_4) rfl k)) ?_
  have hc5 : ¬ ((3 : Int32) = (0 : Int32)) := by decide
  refine Goes.pre (U' := T1.setTop (mkF m 27 #[.val (.ref a), .val (.ref d), .val (.int (0 : Int32)), .val (.int (3 : Int32)), .val .null, .unset] [])) (fun t k => XS.ifYes X1.here hx rfl (pc0 := 5) (pc' := 27) rfl (hb hby d4_5) rfl ((if0 _ _).trans (feq hc5).2) (by decide) (by decide) k) ?_
  obtain ⟨T2, X2, e2, st2⟩ := getS2 X1 hx hZ hown (host := "") (Or.inl (wq hw 48 rfl)) Via.refl e1 (S_COMPACT_STRINGS.ext O.2) (g := (mkF m 27 #[.val (.ref a), .val (.ref d), .val (.int (0 : Int32)), .val (.int (3 : Int32)), .val .null, .unset] [])) rfl (hb hby d4_27)
  refine Goes.pre (U' := T2.setTop (mkF m 30 #[.val (.ref a), .val (.ref d), .val (.int (0 : Int32)), .val (.int (3 : Int32)), .val .null, .unset] [(.int cs)])) (fun t k => st2 t k) ?_
  have hc30 : ¬ (cs = (0 : Int32)) := hcs
  refine Goes.pre (U' := T2.setTop (mkF m 33 #[.val (.ref a), .val (.ref d), .val (.int (0 : Int32)), .val (.int (3 : Int32)), .val .null, .unset] [])) (fun t k => XS.ifNo X2.here hx rfl (hb hby d4_30) rfl ((if0 _ _).trans (feq hc30).1) k) ?_
  by_cases hgt : (255 : Int32) < c0
  ·
    refine Goes.pre (U' := T2.setTop (mkF m 36 #[.val (.ref a), .val (.ref d), .val (.int (0 : Int32)), .val (.int (3 : Int32)), .val .null, .unset] [(.int (3 : Int32)), (.int (0 : Int32)), (.ref d)])) (fun t k => XS.aloadN X2.here hx rfl (hb hby d4_33) rfl rfl (XS.iloadN X2.here hx rfl (hb hby d4_34) rfl (XS.iloadN X2.here hx rfl (hb hby d4_35) rfl k))) ?_
    have lt_a := E_a.lt
    have lt_d := V_d.lt
    obtain ⟨_, _, ⟨T3, L3, k3, n3⟩, -, X3, ⟨Lc3, hQ3, l3, y3, z3⟩, st3⟩ := Jvm.LawKit.callS X2 hx (y := (⟨"java/lang/StringUTF16", "compress", "([CII)[B"⟩ : MethodName)) hown (mvT hZ (wq hw 49 rfl)) (mvT hZ (wq hw 50 rfl)) (mvT hZ (wq hw 51 rfl)) (mvT hZ (wq hw 52 rfl)) (by decide) (backOf (W := 0) (rm_cmp30 l Z a0 hw [] d kd c0 c1 c2 h0 n0 Z0 V_d S__assertionsDisabled S_HI_BYTE_SHIFT S_LO_BYTE_SHIFT hgt hch0 O) hZ (wq hw 52 rfl) (wq hw 51 rfl) (by decide) (by decide)) (g := (mkF m 36 #[.val (.ref a), .val (.ref d), .val (.int (0 : Int32)), .val (.int (3 : Int32)), .val .null, .unset] [(.int (3 : Int32)), (.int (0 : Int32)), (.ref d)])) rfl (by rw [hml]; rfl) (argsL := [(.ref d), (.int (0 : Int32)), (.int (3 : Int32))]) (rest := []) (lenOf pd__28_5bCII_29_5bB rfl) rfl (by show 2 * 0 + _ ≤ _; exact Nat.le_of_eq rfl) (hb hby d4_36) (fun _ _ => ⟨rfl, e2, (by decide : 0 + 2 ≤ _), (by decide : 0 + 9 ≤ _)⟩)
    dsimp only [Pt.U, Pt.locs, Pt.cells, Pt.slots] at X3 l3 y3 z3 st3 hQ3
    subst l3 y3 z3
    obtain ⟨r3, kr3, rfl, N3q, KQ3, fo0_3, g_r3, sl_r3⟩ := hQ3
    have N3 := Fr.app N0 N3q
    have E_a := E_a.keep KQ3
    have F_value_a := F_value_a.keep KQ3 nin0
    have F_coder_a := F_coder_a.keep KQ3 nin0
    have V_d := V_d.keep KQ3 nin0
    have Z4 : n0 ≤ T3.heap.size := Nat.le_trans Z0 KQ3.1
    have O := O.keep KQ3 all0
    have K4 := K0.trans KQ3 all0
    have ne_a_r3 : a ≠ r3 := Nat.ne_of_lt (Nat.lt_of_lt_of_le lt_a sl_r3)
    have ne_r3_a := ne_a_r3.symm
    have ne_d_r3 : d ≠ r3 := Nat.ne_of_lt (Nat.lt_of_lt_of_le lt_d sl_r3)
    have ne_r3_d := ne_d_r3.symm
    have sz_r3 : h0.size ≤ r3 := Nat.le_trans K0.1 sl_r3
    have V_r3 := fo0_3
    refine Goes.pre (U' := T3.setTop (mkF m 45 #[.val (.ref a), .val (.ref d), .val (.int (0 : Int32)), .val (.int (3 : Int32)), .val .null, .val (.ref r3)] [(.int (3 : Int32)), (.ref r3), (.ref a)])) (fun t k => st3 t (XS.astore X3.here hx rfl (hb hby d4_39) rfl rfl (l' := #[.val (.ref a), .val (.ref d), .val (.int (0 : Int32)), .val (.int (3 : Int32)), .val .null, .val (.ref r3)]) rfl (XS.aloadN X3.here hx rfl (hb hby d4_41) rfl rfl (XS.aload X3.here hx rfl (hb hby d4_42) rfl rfl (XS.iloadN X3.here hx rfl (hb hby d4_44) rfl k))))) ?_
    obtain ⟨_, _, ⟨T5, L5, k5, n5⟩, -, X5, ⟨Lc5, hQ5, l5, y5, z5⟩, st5⟩ := Jvm.LawKit.callS X3 hx (y := (⟨"java/lang/StringUTF16", "coderFromArrayLen", "([BI)B"⟩ : MethodName)) hown (mvT hZ (wq hw 56 rfl)) (mvT hZ (wq hw 57 rfl)) (mvT hZ (wq hw 51 rfl)) (mvT hZ (wq hw 58 rfl)) (by decide) (backOf (W := 1) (rm_cfl31 l Z a0 hw [] r3 kr3 c0 c1 c2 T3.heap n0 Z4 V_r3) hZ (wq hw 58 rfl) (wq hw 51 rfl) (by decide) (by decide)) (g := (mkF m 45 #[.val (.ref a), .val (.ref d), .val (.int (0 : Int32)), .val (.int (3 : Int32)), .val .null, .val (.ref r3)] [(.int (3 : Int32)), (.ref r3), (.ref a)])) rfl (by rw [hml]; rfl) (argsL := [(.ref r3), (.int (3 : Int32))]) (rest := [(.ref a)]) (lenOf pd__28_5bBI_29B rfl) rfl (by show 2 * 0 + _ ≤ _; exact Nat.le_of_eq rfl) (hb hby d4_45) (fun _ _ => ⟨rfl, rfl, (by decide : 2 + 0 ≤ _), (by decide : 9 + 0 ≤ _)⟩)
    dsimp only [Pt.U, Pt.locs, Pt.cells, Pt.slots] at X5 l5 y5 z5 st5 hQ5
    subst l5 y5 z5
    obtain ⟨rfl, N5q, HQ5⟩ := hQ5
    have N5 := Fr.app N3 N5q
    refine Goes.pre (U' := T5.setTop (mkF m 48 #[.val (.ref a), .val (.ref d), .val (.int (0 : Int32)), .val (.int (3 : Int32)), .val .null, .val (.ref r3)] [(.int (1 : Int32)), (.ref a)])) (fun t k => st5 t k) ?_
    obtain ⟨T6, h6, X6, e6, W6, st6⟩ := putFN X5 hx hZ hown (wq hw 29 rfl) Via.refl HQ5 F_coder_a E_a (Or.inr ⟨(wq hw 25 rfl), rfl, hnm⟩) (wq hw 9 rfl) (ty := .byte) (v' := (.int (1 : Int32))) (by decide) rfl (by decide) (g := (mkF m 48 #[.val (.ref a), .val (.ref d), .val (.int (0 : Int32)), .val (.int (3 : Int32)), .val .null, .val (.ref r3)] [(.int (1 : Int32)), (.ref a)])) rfl rfl (hb hby d4_48)
    have E_a := E_a.wr W6
    have F_value_a := F_value_a.other W6 (Or.inr (slot_ne (Or.inr (wq hw 24 rfl)) (Or.inr (wq hw 25 rfl)) (by decide) (t := (.array .byte)) (t' := .byte) (by decide) (by decide)))
    have V_d := V_d.other W6 ne_d_a
    have V_r3 := V_r3.other W6 ne_r3_a
    have Z6 : n0 ≤ h6.size := Nat.le_trans Z4 (Keep.of_wr W6).1
    have O := O.wr W6 g_a
    have F_coder_a := F_coder_a.same W6
    have K6 := K4.wr W6 (Or.inl (List.mem_of_getElem? (i := 0) rfl))
    have N6 := Fr.snoc X6 N5 g_a
    refine Goes.pre (U' := T6.setTop (mkF m 54 #[.val (.ref a), .val (.ref d), .val (.int (0 : Int32)), .val (.int (3 : Int32)), .val .null, .val (.ref r3)] [(.ref r3), (.ref a)])) (fun t k => st6 t (XS.aloadN X6.here hx rfl (hb hby d4_51) rfl rfl (XS.aload X6.here hx rfl (hb hby d4_52) rfl rfl k))) ?_
    obtain ⟨T7, h7, X7, e7, W7, st7⟩ := putF X6 hx hZ hown (host := "") (Or.inl (wq hw 28 rfl)) Via.refl e6 F_value_a E_a (Or.inr ⟨(wq hw 24 rfl), rfl, hnm⟩) (wq hw 9 rfl) (ty := (.array .byte)) (by decide) rfl rfl (g := (mkF m 54 #[.val (.ref a), .val (.ref d), .val (.int (0 : Int32)), .val (.int (3 : Int32)), .val .null, .val (.ref r3)] [(.ref r3), (.ref a)])) rfl rfl (hb hby d4_54)
    have E_a := E_a.wr W7
    have F_coder_a := F_coder_a.other W7 (Or.inr (slot_ne (Or.inr (wq hw 25 rfl)) (Or.inr (wq hw 24 rfl)) (by decide) (t := .byte) (t' := (.array .byte)) (by decide) (by decide)))
    have V_d := V_d.other W7 ne_d_a
    have V_r3 := V_r3.other W7 ne_r3_a
    have Z7 : n0 ≤ h7.size := Nat.le_trans Z6 (Keep.of_wr W7).1
    have O := O.wr W7 g_a
    have F_value_a := F_value_a.same W7
    have K7 := K6.wr W7 (Or.inl (List.mem_of_getElem? (i := 0) rfl))
    have N7 := Fr.snoc X7 N6 g_a
    refine Goes.pre (U' := T7.setTop (mkF m 57 #[.val (.ref a), .val (.ref d), .val (.int (0 : Int32)), .val (.int (3 : Int32)), .val .null, .val (.ref r3)] [])) (fun t k => st7 t k) ?_
    refine Goes.ret X7 (v := none) (fun _ => rfl) hlk (by decide) (by decide) e7 (fun fs hr => X7.returnOut hx hret (hb hby d4_57) hr) ?_
    exact ⟨r3, kr3, rfl, N7, K7, ⟨E_a, F_value_a, (by intro c hc; simp only [List.mem_cons, List.not_mem_nil, or_false] at hc; rcases hc with rfl | rfl | rfl <;> assumption), Or.inr ⟨F_coder_a, V_r3, c0, List.mem_of_getElem? (i := 0) rfl, hgt⟩⟩, g_r3, sz_r3⟩
  ·
    have hle0 := hgt
    by_cases hgt : (255 : Int32) < c1
    ·
      refine Goes.pre (U' := T2.setTop (mkF m 36 #[.val (.ref a), .val (.ref d), .val (.int (0 : Int32)), .val (.int (3 : Int32)), .val .null, .unset] [(.int (3 : Int32)), (.int (0 : Int32)), (.ref d)])) (fun t k => XS.aloadN X2.here hx rfl (hb hby d4_33) rfl rfl (XS.iloadN X2.here hx rfl (hb hby d4_34) rfl (XS.iloadN X2.here hx rfl (hb hby d4_35) rfl k))) ?_
      have lt_a := E_a.lt
      have lt_d := V_d.lt
      obtain ⟨_, _, ⟨T8, L8, k8, n8⟩, -, X8, ⟨Lc8, hQ8, l8, y8, z8⟩, st8⟩ := Jvm.LawKit.callS X2 hx (y := (⟨"java/lang/StringUTF16", "compress", "([CII)[B"⟩ : MethodName)) hown (mvT hZ (wq hw 49 rfl)) (mvT hZ (wq hw 50 rfl)) (mvT hZ (wq hw 51 rfl)) (mvT hZ (wq hw 52 rfl)) (by decide) (backOf (W := 0) (rm_cmp31 l Z a0 hw [] d kd c0 c1 c2 h0 n0 Z0 V_d S__assertionsDisabled S_HI_BYTE_SHIFT S_LO_BYTE_SHIFT hle0 hgt hch1 O) hZ (wq hw 52 rfl) (wq hw 51 rfl) (by decide) (by decide)) (g := (mkF m 36 #[.val (.ref a), .val (.ref d), .val (.int (0 : Int32)), .val (.int (3 : Int32)), .val .null, .unset] [(.int (3 : Int32)), (.int (0 : Int32)), (.ref d)])) rfl (by rw [hml]; rfl) (argsL := [(.ref d), (.int (0 : Int32)), (.int (3 : Int32))]) (rest := []) (lenOf pd__28_5bCII_29_5bB rfl) rfl (by show 2 * 0 + _ ≤ _; exact Nat.le_of_eq rfl) (hb hby d4_36) (fun _ _ => ⟨rfl, e2, (by decide : 0 + 2 ≤ _), (by decide : 0 + 9 ≤ _)⟩)
      dsimp only [Pt.U, Pt.locs, Pt.cells, Pt.slots] at X8 l8 y8 z8 st8 hQ8
      subst l8 y8 z8
      obtain ⟨r8, kr8, rfl, N8q, KQ8, fo0_8, g_r8, sl_r8⟩ := hQ8
      have N8 := Fr.app N0 N8q
      have E_a := E_a.keep KQ8
      have F_value_a := F_value_a.keep KQ8 nin0
      have F_coder_a := F_coder_a.keep KQ8 nin0
      have V_d := V_d.keep KQ8 nin0
      have Z9 : n0 ≤ T8.heap.size := Nat.le_trans Z0 KQ8.1
      have O := O.keep KQ8 all0
      have K9 := K0.trans KQ8 all0
      have ne_a_r8 : a ≠ r8 := Nat.ne_of_lt (Nat.lt_of_lt_of_le lt_a sl_r8)
      have ne_r8_a := ne_a_r8.symm
      have ne_d_r8 : d ≠ r8 := Nat.ne_of_lt (Nat.lt_of_lt_of_le lt_d sl_r8)
      have ne_r8_d := ne_d_r8.symm
      have sz_r8 : h0.size ≤ r8 := Nat.le_trans K0.1 sl_r8
      have V_r8 := fo0_8
      refine Goes.pre (U' := T8.setTop (mkF m 45 #[.val (.ref a), .val (.ref d), .val (.int (0 : Int32)), .val (.int (3 : Int32)), .val .null, .val (.ref r8)] [(.int (3 : Int32)), (.ref r8), (.ref a)])) (fun t k => st8 t (XS.astore X8.here hx rfl (hb hby d4_39) rfl rfl (l' := #[.val (.ref a), .val (.ref d), .val (.int (0 : Int32)), .val (.int (3 : Int32)), .val .null, .val (.ref r8)]) rfl (XS.aloadN X8.here hx rfl (hb hby d4_41) rfl rfl (XS.aload X8.here hx rfl (hb hby d4_42) rfl rfl (XS.iloadN X8.here hx rfl (hb hby d4_44) rfl k))))) ?_
      obtain ⟨_, _, ⟨T10, L10, k10, n10⟩, -, X10, ⟨Lc10, hQ10, l10, y10, z10⟩, st10⟩ := Jvm.LawKit.callS X8 hx (y := (⟨"java/lang/StringUTF16", "coderFromArrayLen", "([BI)B"⟩ : MethodName)) hown (mvT hZ (wq hw 56 rfl)) (mvT hZ (wq hw 57 rfl)) (mvT hZ (wq hw 51 rfl)) (mvT hZ (wq hw 58 rfl)) (by decide) (backOf (W := 1) (rm_cfl31 l Z a0 hw [] r8 kr8 c0 c1 c2 T8.heap n0 Z9 V_r8) hZ (wq hw 58 rfl) (wq hw 51 rfl) (by decide) (by decide)) (g := (mkF m 45 #[.val (.ref a), .val (.ref d), .val (.int (0 : Int32)), .val (.int (3 : Int32)), .val .null, .val (.ref r8)] [(.int (3 : Int32)), (.ref r8), (.ref a)])) rfl (by rw [hml]; rfl) (argsL := [(.ref r8), (.int (3 : Int32))]) (rest := [(.ref a)]) (lenOf pd__28_5bBI_29B rfl) rfl (by show 2 * 0 + _ ≤ _; exact Nat.le_of_eq rfl) (hb hby d4_45) (fun _ _ => ⟨rfl, rfl, (by decide : 2 + 0 ≤ _), (by decide : 9 + 0 ≤ _)⟩)
      dsimp only [Pt.U, Pt.locs, Pt.cells, Pt.slots] at X10 l10 y10 z10 st10 hQ10
      subst l10 y10 z10
      obtain ⟨rfl, N10q, HQ10⟩ := hQ10
      have N10 := Fr.app N8 N10q
      refine Goes.pre (U' := T10.setTop (mkF m 48 #[.val (.ref a), .val (.ref d), .val (.int (0 : Int32)), .val (.int (3 : Int32)), .val .null, .val (.ref r8)] [(.int (1 : Int32)), (.ref a)])) (fun t k => st10 t k) ?_
      obtain ⟨T11, h11, X11, e11, W11, st11⟩ := putFN X10 hx hZ hown (wq hw 29 rfl) Via.refl HQ10 F_coder_a E_a (Or.inr ⟨(wq hw 25 rfl), rfl, hnm⟩) (wq hw 9 rfl) (ty := .byte) (v' := (.int (1 : Int32))) (by decide) rfl (by decide) (g := (mkF m 48 #[.val (.ref a), .val (.ref d), .val (.int (0 : Int32)), .val (.int (3 : Int32)), .val .null, .val (.ref r8)] [(.int (1 : Int32)), (.ref a)])) rfl rfl (hb hby d4_48)
      have E_a := E_a.wr W11
      have F_value_a := F_value_a.other W11 (Or.inr (slot_ne (Or.inr (wq hw 24 rfl)) (Or.inr (wq hw 25 rfl)) (by decide) (t := (.array .byte)) (t' := .byte) (by decide) (by decide)))
      have V_d := V_d.other W11 ne_d_a
      have V_r8 := V_r8.other W11 ne_r8_a
      have Z11 : n0 ≤ h11.size := Nat.le_trans Z9 (Keep.of_wr W11).1
      have O := O.wr W11 g_a
      have F_coder_a := F_coder_a.same W11
      have K11 := K9.wr W11 (Or.inl (List.mem_of_getElem? (i := 0) rfl))
      have N11 := Fr.snoc X11 N10 g_a
      refine Goes.pre (U' := T11.setTop (mkF m 54 #[.val (.ref a), .val (.ref d), .val (.int (0 : Int32)), .val (.int (3 : Int32)), .val .null, .val (.ref r8)] [(.ref r8), (.ref a)])) (fun t k => st11 t (XS.aloadN X11.here hx rfl (hb hby d4_51) rfl rfl (XS.aload X11.here hx rfl (hb hby d4_52) rfl rfl k))) ?_
      obtain ⟨T12, h12, X12, e12, W12, st12⟩ := putF X11 hx hZ hown (host := "") (Or.inl (wq hw 28 rfl)) Via.refl e11 F_value_a E_a (Or.inr ⟨(wq hw 24 rfl), rfl, hnm⟩) (wq hw 9 rfl) (ty := (.array .byte)) (by decide) rfl rfl (g := (mkF m 54 #[.val (.ref a), .val (.ref d), .val (.int (0 : Int32)), .val (.int (3 : Int32)), .val .null, .val (.ref r8)] [(.ref r8), (.ref a)])) rfl rfl (hb hby d4_54)
      have E_a := E_a.wr W12
      have F_coder_a := F_coder_a.other W12 (Or.inr (slot_ne (Or.inr (wq hw 25 rfl)) (Or.inr (wq hw 24 rfl)) (by decide) (t := .byte) (t' := (.array .byte)) (by decide) (by decide)))
      have V_d := V_d.other W12 ne_d_a
      have V_r8 := V_r8.other W12 ne_r8_a
      have Z12 : n0 ≤ h12.size := Nat.le_trans Z11 (Keep.of_wr W12).1
      have O := O.wr W12 g_a
      have F_value_a := F_value_a.same W12
      have K12 := K11.wr W12 (Or.inl (List.mem_of_getElem? (i := 0) rfl))
      have N12 := Fr.snoc X12 N11 g_a
      refine Goes.pre (U' := T12.setTop (mkF m 57 #[.val (.ref a), .val (.ref d), .val (.int (0 : Int32)), .val (.int (3 : Int32)), .val .null, .val (.ref r8)] [])) (fun t k => st12 t k) ?_
      refine Goes.ret X12 (v := none) (fun _ => rfl) hlk (by decide) (by decide) e12 (fun fs hr => X12.returnOut hx hret (hb hby d4_57) hr) ?_
      exact ⟨r8, kr8, rfl, N12, K12, ⟨E_a, F_value_a, (by intro c hc; simp only [List.mem_cons, List.not_mem_nil, or_false] at hc; rcases hc with rfl | rfl | rfl <;> assumption), Or.inr ⟨F_coder_a, V_r8, c1, List.mem_of_getElem? (i := 1) rfl, hgt⟩⟩, g_r8, sz_r8⟩
    ·
      have hle1 := hgt
      by_cases hgt : (255 : Int32) < c2
      ·
        refine Goes.pre (U' := T2.setTop (mkF m 36 #[.val (.ref a), .val (.ref d), .val (.int (0 : Int32)), .val (.int (3 : Int32)), .val .null, .unset] [(.int (3 : Int32)), (.int (0 : Int32)), (.ref d)])) (fun t k => XS.aloadN X2.here hx rfl (hb hby d4_33) rfl rfl (XS.iloadN X2.here hx rfl (hb hby d4_34) rfl (XS.iloadN X2.here hx rfl (hb hby d4_35) rfl k))) ?_
        have lt_a := E_a.lt
        have lt_d := V_d.lt
        obtain ⟨_, _, ⟨T13, L13, k13, n13⟩, -, X13, ⟨Lc13, hQ13, l13, y13, z13⟩, st13⟩ := Jvm.LawKit.callS X2 hx (y := (⟨"java/lang/StringUTF16", "compress", "([CII)[B"⟩ : MethodName)) hown (mvT hZ (wq hw 49 rfl)) (mvT hZ (wq hw 50 rfl)) (mvT hZ (wq hw 51 rfl)) (mvT hZ (wq hw 52 rfl)) (by decide) (backOf (W := 0) (rm_cmp32 l Z a0 hw [] d kd c0 c1 c2 h0 n0 Z0 V_d S__assertionsDisabled S_HI_BYTE_SHIFT S_LO_BYTE_SHIFT hle0 hle1 hgt hch2 O) hZ (wq hw 52 rfl) (wq hw 51 rfl) (by decide) (by decide)) (g := (mkF m 36 #[.val (.ref a), .val (.ref d), .val (.int (0 : Int32)), .val (.int (3 : Int32)), .val .null, .unset] [(.int (3 : Int32)), (.int (0 : Int32)), (.ref d)])) rfl (by rw [hml]; rfl) (argsL := [(.ref d), (.int (0 : Int32)), (.int (3 : Int32))]) (rest := []) (lenOf pd__28_5bCII_29_5bB rfl) rfl (by show 2 * 0 + _ ≤ _; exact Nat.le_of_eq rfl) (hb hby d4_36) (fun _ _ => ⟨rfl, e2, (by decide : 0 + 2 ≤ _), (by decide : 0 + 9 ≤ _)⟩)
        dsimp only [Pt.U, Pt.locs, Pt.cells, Pt.slots] at X13 l13 y13 z13 st13 hQ13
        subst l13 y13 z13
        obtain ⟨r13, kr13, rfl, N13q, KQ13, fo0_13, g_r13, sl_r13⟩ := hQ13
        have N13 := Fr.app N0 N13q
        have E_a := E_a.keep KQ13
        have F_value_a := F_value_a.keep KQ13 nin0
        have F_coder_a := F_coder_a.keep KQ13 nin0
        have V_d := V_d.keep KQ13 nin0
        have Z14 : n0 ≤ T13.heap.size := Nat.le_trans Z0 KQ13.1
        have O := O.keep KQ13 all0
        have K14 := K0.trans KQ13 all0
        have ne_a_r13 : a ≠ r13 := Nat.ne_of_lt (Nat.lt_of_lt_of_le lt_a sl_r13)
        have ne_r13_a := ne_a_r13.symm
        have ne_d_r13 : d ≠ r13 := Nat.ne_of_lt (Nat.lt_of_lt_of_le lt_d sl_r13)
        have ne_r13_d := ne_d_r13.symm
        have sz_r13 : h0.size ≤ r13 := Nat.le_trans K0.1 sl_r13
        have V_r13 := fo0_13
        refine Goes.pre (U' := T13.setTop (mkF m 45 #[.val (.ref a), .val (.ref d), .val (.int (0 : Int32)), .val (.int (3 : Int32)), .val .null, .val (.ref r13)] [(.int (3 : Int32)), (.ref r13), (.ref a)])) (fun t k => st13 t (XS.astore X13.here hx rfl (hb hby d4_39) rfl rfl (l' := #[.val (.ref a), .val (.ref d), .val (.int (0 : Int32)), .val (.int (3 : Int32)), .val .null, .val (.ref r13)]) rfl (XS.aloadN X13.here hx rfl (hb hby d4_41) rfl rfl (XS.aload X13.here hx rfl (hb hby d4_42) rfl rfl (XS.iloadN X13.here hx rfl (hb hby d4_44) rfl k))))) ?_
        obtain ⟨_, _, ⟨T15, L15, k15, n15⟩, -, X15, ⟨Lc15, hQ15, l15, y15, z15⟩, st15⟩ := Jvm.LawKit.callS X13 hx (y := (⟨"java/lang/StringUTF16", "coderFromArrayLen", "([BI)B"⟩ : MethodName)) hown (mvT hZ (wq hw 56 rfl)) (mvT hZ (wq hw 57 rfl)) (mvT hZ (wq hw 51 rfl)) (mvT hZ (wq hw 58 rfl)) (by decide) (backOf (W := 1) (rm_cfl31 l Z a0 hw [] r13 kr13 c0 c1 c2 T13.heap n0 Z14 V_r13) hZ (wq hw 58 rfl) (wq hw 51 rfl) (by decide) (by decide)) (g := (mkF m 45 #[.val (.ref a), .val (.ref d), .val (.int (0 : Int32)), .val (.int (3 : Int32)), .val .null, .val (.ref r13)] [(.int (3 : Int32)), (.ref r13), (.ref a)])) rfl (by rw [hml]; rfl) (argsL := [(.ref r13), (.int (3 : Int32))]) (rest := [(.ref a)]) (lenOf pd__28_5bBI_29B rfl) rfl (by show 2 * 0 + _ ≤ _; exact Nat.le_of_eq rfl) (hb hby d4_45) (fun _ _ => ⟨rfl, rfl, (by decide : 2 + 0 ≤ _), (by decide : 9 + 0 ≤ _)⟩)
        dsimp only [Pt.U, Pt.locs, Pt.cells, Pt.slots] at X15 l15 y15 z15 st15 hQ15
        subst l15 y15 z15
        obtain ⟨rfl, N15q, HQ15⟩ := hQ15
        have N15 := Fr.app N13 N15q
        refine Goes.pre (U' := T15.setTop (mkF m 48 #[.val (.ref a), .val (.ref d), .val (.int (0 : Int32)), .val (.int (3 : Int32)), .val .null, .val (.ref r13)] [(.int (1 : Int32)), (.ref a)])) (fun t k => st15 t k) ?_
        obtain ⟨T16, h16, X16, e16, W16, st16⟩ := putFN X15 hx hZ hown (wq hw 29 rfl) Via.refl HQ15 F_coder_a E_a (Or.inr ⟨(wq hw 25 rfl), rfl, hnm⟩) (wq hw 9 rfl) (ty := .byte) (v' := (.int (1 : Int32))) (by decide) rfl (by decide) (g := (mkF m 48 #[.val (.ref a), .val (.ref d), .val (.int (0 : Int32)), .val (.int (3 : Int32)), .val .null, .val (.ref r13)] [(.int (1 : Int32)), (.ref a)])) rfl rfl (hb hby d4_48)
        have E_a := E_a.wr W16
        have F_value_a := F_value_a.other W16 (Or.inr (slot_ne (Or.inr (wq hw 24 rfl)) (Or.inr (wq hw 25 rfl)) (by decide) (t := (.array .byte)) (t' := .byte) (by decide) (by decide)))
        have V_d := V_d.other W16 ne_d_a
        have V_r13 := V_r13.other W16 ne_r13_a
        have Z16 : n0 ≤ h16.size := Nat.le_trans Z14 (Keep.of_wr W16).1
        have O := O.wr W16 g_a
        have F_coder_a := F_coder_a.same W16
        have K16 := K14.wr W16 (Or.inl (List.mem_of_getElem? (i := 0) rfl))
        have N16 := Fr.snoc X16 N15 g_a
        refine Goes.pre (U' := T16.setTop (mkF m 54 #[.val (.ref a), .val (.ref d), .val (.int (0 : Int32)), .val (.int (3 : Int32)), .val .null, .val (.ref r13)] [(.ref r13), (.ref a)])) (fun t k => st16 t (XS.aloadN X16.here hx rfl (hb hby d4_51) rfl rfl (XS.aload X16.here hx rfl (hb hby d4_52) rfl rfl k))) ?_
        obtain ⟨T17, h17, X17, e17, W17, st17⟩ := putF X16 hx hZ hown (host := "") (Or.inl (wq hw 28 rfl)) Via.refl e16 F_value_a E_a (Or.inr ⟨(wq hw 24 rfl), rfl, hnm⟩) (wq hw 9 rfl) (ty := (.array .byte)) (by decide) rfl rfl (g := (mkF m 54 #[.val (.ref a), .val (.ref d), .val (.int (0 : Int32)), .val (.int (3 : Int32)), .val .null, .val (.ref r13)] [(.ref r13), (.ref a)])) rfl rfl (hb hby d4_54)
        have E_a := E_a.wr W17
        have F_coder_a := F_coder_a.other W17 (Or.inr (slot_ne (Or.inr (wq hw 25 rfl)) (Or.inr (wq hw 24 rfl)) (by decide) (t := .byte) (t' := (.array .byte)) (by decide) (by decide)))
        have V_d := V_d.other W17 ne_d_a
        have V_r13 := V_r13.other W17 ne_r13_a
        have Z17 : n0 ≤ h17.size := Nat.le_trans Z16 (Keep.of_wr W17).1
        have O := O.wr W17 g_a
        have F_value_a := F_value_a.same W17
        have K17 := K16.wr W17 (Or.inl (List.mem_of_getElem? (i := 0) rfl))
        have N17 := Fr.snoc X17 N16 g_a
        refine Goes.pre (U' := T17.setTop (mkF m 57 #[.val (.ref a), .val (.ref d), .val (.int (0 : Int32)), .val (.int (3 : Int32)), .val .null, .val (.ref r13)] [])) (fun t k => st17 t k) ?_
        refine Goes.ret X17 (v := none) (fun _ => rfl) hlk (by decide) (by decide) e17 (fun fs hr => X17.returnOut hx hret (hb hby d4_57) hr) ?_
        exact ⟨r13, kr13, rfl, N17, K17, ⟨E_a, F_value_a, (by intro c hc; simp only [List.mem_cons, List.not_mem_nil, or_false] at hc; rcases hc with rfl | rfl | rfl <;> assumption), Or.inr ⟨F_coder_a, V_r13, c2, List.mem_of_getElem? (i := 2) rfl, hgt⟩⟩, g_r13, sz_r13⟩
      ·
        have hle2 := hgt
        refine Goes.pre (U' := T2.setTop (mkF m 36 #[.val (.ref a), .val (.ref d), .val (.int (0 : Int32)), .val (.int (3 : Int32)), .val .null, .unset] [(.int (3 : Int32)), (.int (0 : Int32)), (.ref d)])) (fun t k => XS.aloadN X2.here hx rfl (hb hby d4_33) rfl rfl (XS.iloadN X2.here hx rfl (hb hby d4_34) rfl (XS.iloadN X2.here hx rfl (hb hby d4_35) rfl k))) ?_
        have lt_a := E_a.lt
        have lt_d := V_d.lt
        obtain ⟨_, _, ⟨T18, L18, k18, n18⟩, -, X18, ⟨Lc18, hQ18, l18, y18, z18⟩, st18⟩ := Jvm.LawKit.callS X2 hx (y := (⟨"java/lang/StringUTF16", "compress", "([CII)[B"⟩ : MethodName)) hown (mvT hZ (wq hw 49 rfl)) (mvT hZ (wq hw 50 rfl)) (mvT hZ (wq hw 51 rfl)) (mvT hZ (wq hw 52 rfl)) (by decide) (backOf (W := 0) (rm_cmp33 l Z a0 hw [] d kd c0 c1 c2 h0 n0 Z0 V_d S__assertionsDisabled S_HI_BYTE_SHIFT S_LO_BYTE_SHIFT hle0 hle1 hle2 O) hZ (wq hw 52 rfl) (wq hw 51 rfl) (by decide) (by decide)) (g := (mkF m 36 #[.val (.ref a), .val (.ref d), .val (.int (0 : Int32)), .val (.int (3 : Int32)), .val .null, .unset] [(.int (3 : Int32)), (.int (0 : Int32)), (.ref d)])) rfl (by rw [hml]; rfl) (argsL := [(.ref d), (.int (0 : Int32)), (.int (3 : Int32))]) (rest := []) (lenOf pd__28_5bCII_29_5bB rfl) rfl (by show 2 * 0 + _ ≤ _; exact Nat.le_of_eq rfl) (hb hby d4_36) (fun _ _ => ⟨rfl, e2, (by decide : 0 + 1 ≤ _), (by decide : 0 + 3 ≤ _)⟩)
        dsimp only [Pt.U, Pt.locs, Pt.cells, Pt.slots] at X18 l18 y18 z18 st18 hQ18
        subst l18 y18 z18
        obtain ⟨r18, kr18, rfl, N18q, KQ18, fo0_18, g_r18, sl_r18⟩ := hQ18
        have N18 := Fr.app N0 N18q
        have E_a := E_a.keep KQ18
        have F_value_a := F_value_a.keep KQ18 nin0
        have F_coder_a := F_coder_a.keep KQ18 nin0
        have V_d := V_d.keep KQ18 nin0
        have Z19 : n0 ≤ T18.heap.size := Nat.le_trans Z0 KQ18.1
        have O := O.keep KQ18 all0
        have K19 := K0.trans KQ18 all0
        have ne_a_r18 : a ≠ r18 := Nat.ne_of_lt (Nat.lt_of_lt_of_le lt_a sl_r18)
        have ne_r18_a := ne_a_r18.symm
        have ne_d_r18 : d ≠ r18 := Nat.ne_of_lt (Nat.lt_of_lt_of_le lt_d sl_r18)
        have ne_r18_d := ne_d_r18.symm
        have sz_r18 : h0.size ≤ r18 := Nat.le_trans K0.1 sl_r18
        have V_r18 := fo0_18
        refine Goes.pre (U' := T18.setTop (mkF m 45 #[.val (.ref a), .val (.ref d), .val (.int (0 : Int32)), .val (.int (3 : Int32)), .val .null, .val (.ref r18)] [(.int (3 : Int32)), (.ref r18), (.ref a)])) (fun t k => st18 t (XS.astore X18.here hx rfl (hb hby d4_39) rfl rfl (l' := #[.val (.ref a), .val (.ref d), .val (.int (0 : Int32)), .val (.int (3 : Int32)), .val .null, .val (.ref r18)]) rfl (XS.aloadN X18.here hx rfl (hb hby d4_41) rfl rfl (XS.aload X18.here hx rfl (hb hby d4_42) rfl rfl (XS.iloadN X18.here hx rfl (hb hby d4_44) rfl k))))) ?_
        obtain ⟨_, _, ⟨T20, L20, k20, n20⟩, -, X20, ⟨Lc20, hQ20, l20, y20, z20⟩, st20⟩ := Jvm.LawKit.callS X18 hx (y := (⟨"java/lang/StringUTF16", "coderFromArrayLen", "([BI)B"⟩ : MethodName)) hown (mvT hZ (wq hw 56 rfl)) (mvT hZ (wq hw 57 rfl)) (mvT hZ (wq hw 51 rfl)) (mvT hZ (wq hw 58 rfl)) (by decide) (backOf (W := 1) (rm_cfl30 l Z a0 hw [] r18 kr18 c0 c1 c2 T18.heap n0 Z19 V_r18) hZ (wq hw 58 rfl) (wq hw 51 rfl) (by decide) (by decide)) (g := (mkF m 45 #[.val (.ref a), .val (.ref d), .val (.int (0 : Int32)), .val (.int (3 : Int32)), .val .null, .val (.ref r18)] [(.int (3 : Int32)), (.ref r18), (.ref a)])) rfl (by rw [hml]; rfl) (argsL := [(.ref r18), (.int (3 : Int32))]) (rest := [(.ref a)]) (lenOf pd__28_5bBI_29B rfl) rfl (by show 2 * 0 + _ ≤ _; exact Nat.le_of_eq rfl) (hb hby d4_45) (fun _ _ => ⟨rfl, rfl, (by decide : 1 + 0 ≤ _), (by decide : 3 + 0 ≤ _)⟩)
        dsimp only [Pt.U, Pt.locs, Pt.cells, Pt.slots] at X20 l20 y20 z20 st20 hQ20
        subst l20 y20 z20
        obtain ⟨rfl, N20q, HQ20⟩ := hQ20
        have N20 := Fr.app N18 N20q
        refine Goes.pre (U' := T20.setTop (mkF m 48 #[.val (.ref a), .val (.ref d), .val (.int (0 : Int32)), .val (.int (3 : Int32)), .val .null, .val (.ref r18)] [(.int (0 : Int32)), (.ref a)])) (fun t k => st20 t k) ?_
        obtain ⟨T21, h21, X21, e21, W21, st21⟩ := putFN X20 hx hZ hown (wq hw 29 rfl) Via.refl HQ20 F_coder_a E_a (Or.inr ⟨(wq hw 25 rfl), rfl, hnm⟩) (wq hw 9 rfl) (ty := .byte) (v' := (.int (0 : Int32))) (by decide) rfl (by decide) (g := (mkF m 48 #[.val (.ref a), .val (.ref d), .val (.int (0 : Int32)), .val (.int (3 : Int32)), .val .null, .val (.ref r18)] [(.int (0 : Int32)), (.ref a)])) rfl rfl (hb hby d4_48)
        have E_a := E_a.wr W21
        have F_value_a := F_value_a.other W21 (Or.inr (slot_ne (Or.inr (wq hw 24 rfl)) (Or.inr (wq hw 25 rfl)) (by decide) (t := (.array .byte)) (t' := .byte) (by decide) (by decide)))
        have V_d := V_d.other W21 ne_d_a
        have V_r18 := V_r18.other W21 ne_r18_a
        have Z21 : n0 ≤ h21.size := Nat.le_trans Z19 (Keep.of_wr W21).1
        have O := O.wr W21 g_a
        have F_coder_a := F_coder_a.same W21
        have K21 := K19.wr W21 (Or.inl (List.mem_of_getElem? (i := 0) rfl))
        have N21 := Fr.snoc X21 N20 g_a
        refine Goes.pre (U' := T21.setTop (mkF m 54 #[.val (.ref a), .val (.ref d), .val (.int (0 : Int32)), .val (.int (3 : Int32)), .val .null, .val (.ref r18)] [(.ref r18), (.ref a)])) (fun t k => st21 t (XS.aloadN X21.here hx rfl (hb hby d4_51) rfl rfl (XS.aload X21.here hx rfl (hb hby d4_52) rfl rfl k))) ?_
        obtain ⟨T22, h22, X22, e22, W22, st22⟩ := putF X21 hx hZ hown (host := "") (Or.inl (wq hw 28 rfl)) Via.refl e21 F_value_a E_a (Or.inr ⟨(wq hw 24 rfl), rfl, hnm⟩) (wq hw 9 rfl) (ty := (.array .byte)) (by decide) rfl rfl (g := (mkF m 54 #[.val (.ref a), .val (.ref d), .val (.int (0 : Int32)), .val (.int (3 : Int32)), .val .null, .val (.ref r18)] [(.ref r18), (.ref a)])) rfl rfl (hb hby d4_54)
        have E_a := E_a.wr W22
        have F_coder_a := F_coder_a.other W22 (Or.inr (slot_ne (Or.inr (wq hw 25 rfl)) (Or.inr (wq hw 24 rfl)) (by decide) (t := .byte) (t' := (.array .byte)) (by decide) (by decide)))
        have V_d := V_d.other W22 ne_d_a
        have V_r18 := V_r18.other W22 ne_r18_a
        have Z22 : n0 ≤ h22.size := Nat.le_trans Z21 (Keep.of_wr W22).1
        have O := O.wr W22 g_a
        have F_value_a := F_value_a.same W22
        have K22 := K21.wr W22 (Or.inl (List.mem_of_getElem? (i := 0) rfl))
        have N22 := Fr.snoc X22 N21 g_a
        refine Goes.pre (U' := T22.setTop (mkF m 57 #[.val (.ref a), .val (.ref d), .val (.int (0 : Int32)), .val (.int (3 : Int32)), .val .null, .val (.ref r18)] [])) (fun t k => st22 t k) ?_
        refine Goes.ret X22 (v := none) (fun _ => rfl) hlk (by decide) (by decide) e22 (fun fs hr => X22.returnOut hx hret (hb hby d4_57) hr) ?_
        exact ⟨r18, kr18, rfl, N22, K22, ⟨E_a, F_value_a, (by intro c hc; simp only [List.mem_cons, List.not_mem_nil, or_false] at hc; rcases hc with rfl | rfl | rfl <;> assumption), Or.inl ⟨F_coder_a, V_r18, (by intro c hc; simp only [List.mem_cons, List.not_mem_nil, or_false] at hc; rcases hc with rfl | rfl | rfl <;> assumption)⟩⟩, g_r18, sz_r18⟩
theorem ef_rm_init1_3 (m : MethodId) (x0 : Addr) (x1 : Addr) : entryFrame m #[(.ref x0), (.ref x1)] 2 = mkF m 0 #[.val (.ref x0), .val (.ref x1)] [] := by first | (simp [entryFrame, mkF, argsToLocals, Value.category]; done) | rfl
def Q_rm_init1_3 (Z : State) (a : Addr) (d : Addr) (kd : ClassId) (c0 : Int32) (c1 : Int32) (c2 : Int32) (cs : Int32) (h0 : Heap) (n0 : Nat) (v : Option Value) (h : Heap) (L : List Loc) : Prop := ∃ (b : Addr) (kb : ClassId), v = none ∧ Fr n0 L ∧ Keep h0 h [a] ∧ OwnStr Z h a b kb [c0, c1, c2] ∧ n0 ≤ b ∧ h0.size ≤ b
set_option maxRecDepth 65536 in
set_option maxHeartbeats 40000000 in
theorem rm_init1_3 (l : Launch) (Z : State) (a0 : Array Value) (hw : ∀ d ∈ tables_1, d.before a0 Z = true) (ws : List Jvm.Cond) (a : Addr) (d : Addr) (kd : ClassId) (c0 : Int32) (c1 : Int32) (c2 : Int32) (cs : Int32) (h0 : Heap) (n0 : Nat) (Z0 : n0 ≤ h0.size) (E_a : Exa Z h0 a "java/lang/String") (F_value_a : Fld Z h0 a "java/lang/String" "value" "[B" .null) (F_coder_a : Fld Z h0 a "java/lang/String" "coder" "B" (.int (0 : Int32))) (V_d : Arv Z h0 d kd .char (3 : Int32) [(.int c0), (.int c1), (.int c2)] (.int (0 : Int32))) (S_COMPACT_STRINGS : Sta Z Z.heap "java/lang/String" "COMPACT_STRINGS" "Z" (.int cs)) (S__assertionsDisabled : Sta Z Z.heap "java/lang/StringUTF16" "$assertionsDisabled" "Z" (.int (1 : Int32))) (S_HI_BYTE_SHIFT : Sta Z Z.heap "java/lang/StringUTF16" "HI_BYTE_SHIFT" "I" (.int (0 : Int32))) (S_LO_BYTE_SHIFT : Sta Z Z.heap "java/lang/StringUTF16" "LO_BYTE_SHIFT" "I" (.int (8 : Int32))) (hch0 : OwnCh c0) (hch1 : OwnCh c1) (hch2 : OwnCh c2) (hcs : ¬ (cs = (0 : Int32))) (ne_d_a : d ≠ a) (g_a : n0 ≤ a) (O : Old Z n0 h0) :
    Met l Z M3 jdk_42_method_3_code 2 none ws (Rm 5 2 9 74) #[(.ref a), (.ref d)] h0 (Q_rm_init1_3 Z a d kd c0 c1 c2 cs h0 n0) := by
  refine met_of (plainFor_of_name pn_java_lang_String) (own := "java/lang/String") rfl (fun m => ef_rm_init1_3 m a d) ?_
  intro p e s m below meth c s₁ hx hby hml hown hnm hZ X0 e0 hret hlk
  have N0 := Fr.nil n0
  have K0 := Keep.refl h0 [a]
  show Goes p e below s _ _ _ (s₁.setTop (mkF m 0 #[.val (.ref a), .val (.ref d)] []))
  refine Goes.pre (U' := s₁.setTop (mkF m 4 #[.val (.ref a), .val (.ref d)] [(.ref d), (.int (0 : Int32)), (.ref d), (.ref a)])) (fun t k => XS.aloadN X0.here hx rfl (hb hby d3_0) rfl rfl (XS.aloadN X0.here hx rfl (hb hby d3_1) rfl rfl (XS.iconst X0.here hx rfl (hb hby d3_2) (XS.aloadN X0.here hx rfl (hb hby d3_3) rfl rfl k)))) ?_
  obtain ⟨cl1, Ar1, q1, Sz1, Ng1, -, -⟩ := id V_d
  have ln1 := len_of Sz1 Ng1
  refine Goes.pre (U' := s₁.setTop (mkF m 6 #[.val (.ref a), .val (.ref d)] [.null, (.int (3 : Int32)), (.int (0 : Int32)), (.ref d), (.ref a)])) (fun t k => X0.arraylength hx (by rw [e0]; exact Ar1.1) (State.isArrayOf_alike hZ.alike Ar1.2.1) (g := (mkF m 4 #[.val (.ref a), .val (.ref d)] [(.ref d), (.int (0 : Int32)), (.ref d), (.ref a)])) rfl rfl (hb hby d3_4) _ (by rw [ln1]; exact (XS.aconstNull X0.here hx rfl (hb hby d3_5) k))) ?_
  have lt_a := E_a.lt
  have lt_d := V_d.lt
  obtain ⟨_, _, ⟨T2, L2, k2, n2⟩, -, X2, ⟨Lc2, hQ2, l2, y2, z2⟩, st2⟩ := X0.specialBack hx (y := (⟨"java/lang/String", "<init>", "([CIILjava/lang/Void;)V"⟩ : MethodName)) rfl hown (mvT hZ (wq hw 15 rfl)) (mvT hZ (wq hw 16 rfl)) (mvT hZ (wq hw 18 rfl)) (by decide) (backOf (W := 0) (rm_init4_3 l Z a0 hw [] a d kd c0 c1 c2 cs h0 n0 Z0 E_a F_value_a F_coder_a V_d S_COMPACT_STRINGS S__assertionsDisabled S_HI_BYTE_SHIFT S_LO_BYTE_SHIFT hch0 hch1 hch2 hcs ne_d_a g_a O) hZ (wq hw 18 rfl) (wq hw 10 rfl) (by decide) (by decide)) (g := (mkF m 6 #[.val (.ref a), .val (.ref d)] [.null, (.int (3 : Int32)), (.int (0 : Int32)), (.ref d), (.ref a)])) rfl (by rw [hml]; rfl) (Steps.refl _) (a := a) (argsL := [(.ref d), (.int (0 : Int32)), (.int (3 : Int32)), .null]) (rest := []) (lenOf pd__28_5bCIILjava_2flang_2fVoid_3b_29V rfl) rfl (by show 2 * 0 + _ ≤ _; exact Nat.le_of_eq rfl) (hb hby d3_6) (fun _ _ => ⟨rfl, e0, (by decide : 0 + 2 ≤ _), (by decide : 0 + 9 ≤ _)⟩)
  dsimp only [Pt.U, Pt.locs, Pt.cells, Pt.slots] at X2 l2 y2 z2 st2 hQ2
  subst l2 y2 z2
  obtain ⟨b2, kb2, rfl, N2q, KQ2, fo0_2, g_b2, sl_b2⟩ := hQ2
  have N2 := Fr.app N0 N2q
  have E_a := E_a.keep KQ2
  have V_d := V_d.keep KQ2 (ninS ne_d_a nin0)
  have Z3 : n0 ≤ T2.heap.size := Nat.le_trans Z0 KQ2.1
  have O := O.keep KQ2 (allS (P := fun x => n0 ≤ x) g_a all0)
  have K3 := K0.trans KQ2 (allS (P := fun x => x ∈ [a] ∨ h0.size ≤ x) (Or.inl (List.mem_of_getElem? (i := 0) rfl)) all0)
  have ne_a_b2 : a ≠ b2 := Nat.ne_of_lt (Nat.lt_of_lt_of_le lt_a sl_b2)
  have ne_b2_a := ne_a_b2.symm
  have ne_d_b2 : d ≠ b2 := Nat.ne_of_lt (Nat.lt_of_lt_of_le lt_d sl_b2)
  have ne_b2_d := ne_d_b2.symm
  have sz_b2 : h0.size ≤ b2 := Nat.le_trans K0.1 sl_b2
  have S_a := fo0_2
  refine Goes.pre (U' := T2.setTop (mkF m 9 #[.val (.ref a), .val (.ref d)] [])) (fun t k => st2.trans k) ?_
  refine Goes.ret X2 (v := none) (fun _ => rfl) hlk (by decide) (by decide) rfl (fun fs hr => X2.returnOut hx hret (hb hby d3_9) hr) ?_
  exact ⟨b2, kb2, rfl, N2, K3, S_a, g_b2, sz_b2⟩
theorem ef_rm_space (m : MethodId) (x0 : Int32) : entryFrame m #[(.int x0)] 1 = mkF m 0 #[.val (.int x0)] [] := by first | (simp [entryFrame, mkF, argsToLocals, Value.category]; done) | rfl
theorem pn_com_example_restate_restate_plan_Spaces : plainName "com/example/restate/restate/plan/Spaces" = true := by first | (simp [plainName, overriddenIn]; done) | decide +kernel
abbrev M18 : MethodName := ⟨"com/example/restate/restate/plan/Spaces", "space", "(C)Z"⟩
theorem d18_0 : decode prog_34_method_2_code 0 = .ok (.iload_n 0, 1) := by decide +kernel
theorem d18_1 : decode prog_34_method_2_code 1 = .ok (.sipush 160, 3) := by decide +kernel
theorem d18_4 : decode prog_34_method_2_code 4 = .ok (.if_icmp .ge 23, 3) := by decide +kernel
theorem d18_7 : decode prog_34_method_2_code 7 = .ok (.iload_n 0, 1) := by decide +kernel
theorem d18_8 : decode prog_34_method_2_code 8 = .ok (.bipush 32, 2) := by decide +kernel
theorem d18_10 : decode prog_34_method_2_code 10 = .ok (.if_icmp .eq 9, 3) := by decide +kernel
theorem d18_19 : decode prog_34_method_2_code 19 = .ok (.iconst 1, 1) := by decide +kernel
theorem d18_20 : decode prog_34_method_2_code 20 = .ok (.goto 68, 3) := by decide +kernel
theorem d18_88 : decode prog_34_method_2_code 88 = .ok (.ireturn, 1) := by decide +kernel
theorem d18_13 : decode prog_34_method_2_code 13 = .ok (.iload_n 0, 1) := by decide +kernel
theorem d18_14 : decode prog_34_method_2_code 14 = .ok (.bipush 9, 2) := by decide +kernel
theorem d18_16 : decode prog_34_method_2_code 16 = .ok (.if_icmp .ne 7, 3) := by decide +kernel
theorem d18_23 : decode prog_34_method_2_code 23 = .ok (.iconst 0, 1) := by decide +kernel
theorem d18_24 : decode prog_34_method_2_code 24 = .ok (.goto 64, 3) := by decide +kernel
theorem d18_27 : decode prog_34_method_2_code 27 = .ok (.iload_n 0, 1) := by decide +kernel
theorem d18_28 : decode prog_34_method_2_code 28 = .ok (.sipush 160, 3) := by decide +kernel
theorem d18_31 : decode prog_34_method_2_code 31 = .ok (.if_icmp .eq 52, 3) := by decide +kernel
theorem d18_83 : decode prog_34_method_2_code 83 = .ok (.iconst 1, 1) := by decide +kernel
theorem d18_84 : decode prog_34_method_2_code 84 = .ok (.goto 4, 3) := by decide +kernel
theorem d18_34 : decode prog_34_method_2_code 34 = .ok (.iload_n 0, 1) := by decide +kernel
theorem d18_35 : decode prog_34_method_2_code 35 = .ok (.sipush 5760, 3) := by decide +kernel
theorem d18_38 : decode prog_34_method_2_code 38 = .ok (.if_icmp .eq 45, 3) := by decide +kernel
theorem d18_41 : decode prog_34_method_2_code 41 = .ok (.iload_n 0, 1) := by decide +kernel
theorem d18_42 : decode prog_34_method_2_code 42 = .ok (.sipush 6158, 3) := by decide +kernel
theorem d18_45 : decode prog_34_method_2_code 45 = .ok (.if_icmp .eq 38, 3) := by decide +kernel
theorem d18_48 : decode prog_34_method_2_code 48 = .ok (.iload_n 0, 1) := by decide +kernel
theorem d18_49 : decode prog_34_method_2_code 49 = .ok (.sipush 8192, 3) := by decide +kernel
theorem d18_52 : decode prog_34_method_2_code 52 = .ok (.if_icmp .lt 10, 3) := by decide +kernel
theorem d18_62 : decode prog_34_method_2_code 62 = .ok (.iload_n 0, 1) := by decide +kernel
theorem d18_63 : decode prog_34_method_2_code 63 = .ok (.sipush 8239, 3) := by decide +kernel
theorem d18_66 : decode prog_34_method_2_code 66 = .ok (.if_icmp .eq 17, 3) := by decide +kernel
theorem d18_69 : decode prog_34_method_2_code 69 = .ok (.iload_n 0, 1) := by decide +kernel
theorem d18_70 : decode prog_34_method_2_code 70 = .ok (.sipush 8287, 3) := by decide +kernel
theorem d18_73 : decode prog_34_method_2_code 73 = .ok (.if_icmp .eq 10, 3) := by decide +kernel
theorem d18_76 : decode prog_34_method_2_code 76 = .ok (.iload_n 0, 1) := by decide +kernel
theorem d18_77 : decode prog_34_method_2_code 77 = .ok (.sipush 12288, 3) := by decide +kernel
theorem d18_80 : decode prog_34_method_2_code 80 = .ok (.if_icmp .ne 7, 3) := by decide +kernel
theorem d18_87 : decode prog_34_method_2_code 87 = .ok (.iconst 0, 1) := by decide +kernel
theorem d18_55 : decode prog_34_method_2_code 55 = .ok (.iload_n 0, 1) := by decide +kernel
theorem d18_56 : decode prog_34_method_2_code 56 = .ok (.sipush 8202, 3) := by decide +kernel
theorem d18_59 : decode prog_34_method_2_code 59 = .ok (.if_icmp .le 24, 3) := by decide +kernel
def own_space (q : Int32) : Int32 := (if q < (160 : Int32) then (if q = (32 : Int32) then (1 : Int32) else (if q = (9 : Int32) then (1 : Int32) else (0 : Int32))) else (if q = (160 : Int32) then (1 : Int32) else (if q = (5760 : Int32) then (1 : Int32) else (if q = (6158 : Int32) then (1 : Int32) else (if q < (8192 : Int32) then (if q = (8239 : Int32) then (1 : Int32) else (if q = (8287 : Int32) then (1 : Int32) else (if q = (12288 : Int32) then (1 : Int32) else (0 : Int32)))) else (if (8202 : Int32) < q then (if q = (8239 : Int32) then (1 : Int32) else (if q = (8287 : Int32) then (1 : Int32) else (if q = (12288 : Int32) then (1 : Int32) else (0 : Int32)))) else (1 : Int32)))))))
def Q_rm_space (Z : State) (q : Int32) (h0 : Heap) (n0 : Nat) (v : Option Value) (h : Heap) (L : List Loc) : Prop := v = some (.int (own_space q)) ∧ Fr n0 L ∧ h = h0
set_option maxRecDepth 65536 in
set_option maxHeartbeats 40000000 in
theorem rm_space (l : Launch) (Z : State) (a0 : Array Value) (hw : ∀ d ∈ tables_1, d.before a0 Z = true) (ws : List Jvm.Cond) (q : Int32) (h0 : Heap) (n0 : Nat) (Z0 : n0 ≤ h0.size)  :
    Met l Z M18 prog_34_method_2_code 1 (some .boolean) ws (Rm 0 0 0 0) #[(.int q)] h0 (Q_rm_space Z q h0 n0) := by
  refine met_of (plainFor_of_name pn_com_example_restate_restate_plan_Spaces) (own := "com/example/restate/restate/plan/Spaces") rfl (fun m => ef_rm_space m q) ?_
  intro p e s m below meth c s₁ hx hby hml hown hnm hZ X0 e0 hret hlk
  have N0 := Fr.nil n0
  show Goes p e below s _ _ _ (s₁.setTop (mkF m 0 #[.val (.int q)] []))
  refine Goes.pre (U' := s₁.setTop (mkF m 4 #[.val (.int q)] [(.int (160 : Int32)), (.int q)])) (fun t k => XS.iloadN X0.here hx rfl (hb hby d18_0) rfl (XS.sipush X0.here hx rfl (hb hby d18_1) k)) ?_
  by_cases hc4 : q < (160 : Int32)
  ·
    refine Goes.pre (U' := s₁.setTop (mkF m 10 #[.val (.int q)] [(.int (32 : Int32)), (.int q)])) (fun t k => XS.icmpNo X0.here hx rfl (hb hby d18_4) rfl (tlt hc4).2.1 (XS.iloadN X0.here hx rfl (hb hby d18_7) rfl (XS.bipush X0.here hx rfl (hb hby d18_8) k))) ?_
    by_cases hc10 : q = (32 : Int32)
    ·
      refine Goes.pre (U' := s₁.setTop (mkF m 88 #[.val (.int q)] [(.int (1 : Int32))])) (fun t k => XS.icmpYes X0.here hx rfl (pc0 := 10) (pc' := 19) rfl (hb hby d18_10) rfl (teq hc10).1 (by decide) (by decide) (XS.iconst X0.here hx rfl (hb hby d18_19) (XS.goto X0.here hx rfl (pc0 := 20) (pc' := 88) rfl (hb hby d18_20) (by decide) (by decide) k))) ?_
      refine Goes.ret X0 (v := (some (.int (1 : Int32)))) (fun h => by rw [hret] at h; cases h) hlk (by decide) (by decide) e0 (fun fs hr => retN X0 hx (t := .boolean) hret (by simp) (hb hby d18_88) hr) ?_
      exact ⟨congrArg (fun z => some (Value.int z)) (show (1 : Int32) = own_space q from (show own_space q = (1 : Int32) from by unfold own_space; rw [if_pos hc4, if_pos hc10]).symm), N0, rfl⟩
    ·
      refine Goes.pre (U' := s₁.setTop (mkF m 16 #[.val (.int q)] [(.int (9 : Int32)), (.int q)])) (fun t k => XS.icmpNo X0.here hx rfl (hb hby d18_10) rfl (feq hc10).1 (XS.iloadN X0.here hx rfl (hb hby d18_13) rfl (XS.bipush X0.here hx rfl (hb hby d18_14) k))) ?_
      by_cases hc16 : q = (9 : Int32)
      ·
        refine Goes.pre (U' := s₁.setTop (mkF m 88 #[.val (.int q)] [(.int (1 : Int32))])) (fun t k => XS.icmpNo X0.here hx rfl (hb hby d18_16) rfl (teq hc16).2 (XS.iconst X0.here hx rfl (hb hby d18_19) (XS.goto X0.here hx rfl (pc0 := 20) (pc' := 88) rfl (hb hby d18_20) (by decide) (by decide) k))) ?_
        refine Goes.ret X0 (v := (some (.int (1 : Int32)))) (fun h => by rw [hret] at h; cases h) hlk (by decide) (by decide) e0 (fun fs hr => retN X0 hx (t := .boolean) hret (by simp) (hb hby d18_88) hr) ?_
        exact ⟨congrArg (fun z => some (Value.int z)) (show (1 : Int32) = own_space q from (show own_space q = (1 : Int32) from by unfold own_space; rw [if_pos hc4, if_neg hc10, if_pos hc16]).symm), N0, rfl⟩
      ·
        refine Goes.pre (U' := s₁.setTop (mkF m 88 #[.val (.int q)] [(.int (0 : Int32))])) (fun t k => XS.icmpYes X0.here hx rfl (pc0 := 16) (pc' := 23) rfl (hb hby d18_16) rfl (feq hc16).2 (by decide) (by decide) (XS.iconst X0.here hx rfl (hb hby d18_23) (XS.goto X0.here hx rfl (pc0 := 24) (pc' := 88) rfl (hb hby d18_24) (by decide) (by decide) k))) ?_
        refine Goes.ret X0 (v := (some (.int (0 : Int32)))) (fun h => by rw [hret] at h; cases h) hlk (by decide) (by decide) e0 (fun fs hr => retN X0 hx (t := .boolean) hret (by simp) (hb hby d18_88) hr) ?_
        exact ⟨congrArg (fun z => some (Value.int z)) (show (0 : Int32) = own_space q from (show own_space q = (0 : Int32) from by unfold own_space; rw [if_pos hc4, if_neg hc10, if_neg hc16]).symm), N0, rfl⟩
  ·
    refine Goes.pre (U' := s₁.setTop (mkF m 31 #[.val (.int q)] [(.int (160 : Int32)), (.int q)])) (fun t k => XS.icmpYes X0.here hx rfl (pc0 := 4) (pc' := 27) rfl (hb hby d18_4) rfl (flt hc4).2.1 (by decide) (by decide) (XS.iloadN X0.here hx rfl (hb hby d18_27) rfl (XS.sipush X0.here hx rfl (hb hby d18_28) k))) ?_
    by_cases hc31 : q = (160 : Int32)
    ·
      refine Goes.pre (U' := s₁.setTop (mkF m 88 #[.val (.int q)] [(.int (1 : Int32))])) (fun t k => XS.icmpYes X0.here hx rfl (pc0 := 31) (pc' := 83) rfl (hb hby d18_31) rfl (teq hc31).1 (by decide) (by decide) (XS.iconst X0.here hx rfl (hb hby d18_83) (XS.goto X0.here hx rfl (pc0 := 84) (pc' := 88) rfl (hb hby d18_84) (by decide) (by decide) k))) ?_
      refine Goes.ret X0 (v := (some (.int (1 : Int32)))) (fun h => by rw [hret] at h; cases h) hlk (by decide) (by decide) e0 (fun fs hr => retN X0 hx (t := .boolean) hret (by simp) (hb hby d18_88) hr) ?_
      exact ⟨congrArg (fun z => some (Value.int z)) (show (1 : Int32) = own_space q from (show own_space q = (1 : Int32) from by unfold own_space; rw [if_neg hc4, if_pos hc31]).symm), N0, rfl⟩
    ·
      refine Goes.pre (U' := s₁.setTop (mkF m 38 #[.val (.int q)] [(.int (5760 : Int32)), (.int q)])) (fun t k => XS.icmpNo X0.here hx rfl (hb hby d18_31) rfl (feq hc31).1 (XS.iloadN X0.here hx rfl (hb hby d18_34) rfl (XS.sipush X0.here hx rfl (hb hby d18_35) k))) ?_
      by_cases hc38 : q = (5760 : Int32)
      ·
        refine Goes.pre (U' := s₁.setTop (mkF m 88 #[.val (.int q)] [(.int (1 : Int32))])) (fun t k => XS.icmpYes X0.here hx rfl (pc0 := 38) (pc' := 83) rfl (hb hby d18_38) rfl (teq hc38).1 (by decide) (by decide) (XS.iconst X0.here hx rfl (hb hby d18_83) (XS.goto X0.here hx rfl (pc0 := 84) (pc' := 88) rfl (hb hby d18_84) (by decide) (by decide) k))) ?_
        refine Goes.ret X0 (v := (some (.int (1 : Int32)))) (fun h => by rw [hret] at h; cases h) hlk (by decide) (by decide) e0 (fun fs hr => retN X0 hx (t := .boolean) hret (by simp) (hb hby d18_88) hr) ?_
        exact ⟨congrArg (fun z => some (Value.int z)) (show (1 : Int32) = own_space q from (show own_space q = (1 : Int32) from by unfold own_space; rw [if_neg hc4, if_neg hc31, if_pos hc38]).symm), N0, rfl⟩
      ·
        refine Goes.pre (U' := s₁.setTop (mkF m 45 #[.val (.int q)] [(.int (6158 : Int32)), (.int q)])) (fun t k => XS.icmpNo X0.here hx rfl (hb hby d18_38) rfl (feq hc38).1 (XS.iloadN X0.here hx rfl (hb hby d18_41) rfl (XS.sipush X0.here hx rfl (hb hby d18_42) k))) ?_
        by_cases hc45 : q = (6158 : Int32)
        ·
          refine Goes.pre (U' := s₁.setTop (mkF m 88 #[.val (.int q)] [(.int (1 : Int32))])) (fun t k => XS.icmpYes X0.here hx rfl (pc0 := 45) (pc' := 83) rfl (hb hby d18_45) rfl (teq hc45).1 (by decide) (by decide) (XS.iconst X0.here hx rfl (hb hby d18_83) (XS.goto X0.here hx rfl (pc0 := 84) (pc' := 88) rfl (hb hby d18_84) (by decide) (by decide) k))) ?_
          refine Goes.ret X0 (v := (some (.int (1 : Int32)))) (fun h => by rw [hret] at h; cases h) hlk (by decide) (by decide) e0 (fun fs hr => retN X0 hx (t := .boolean) hret (by simp) (hb hby d18_88) hr) ?_
          exact ⟨congrArg (fun z => some (Value.int z)) (show (1 : Int32) = own_space q from (show own_space q = (1 : Int32) from by unfold own_space; rw [if_neg hc4, if_neg hc31, if_neg hc38, if_pos hc45]).symm), N0, rfl⟩
        ·
          refine Goes.pre (U' := s₁.setTop (mkF m 52 #[.val (.int q)] [(.int (8192 : Int32)), (.int q)])) (fun t k => XS.icmpNo X0.here hx rfl (hb hby d18_45) rfl (feq hc45).1 (XS.iloadN X0.here hx rfl (hb hby d18_48) rfl (XS.sipush X0.here hx rfl (hb hby d18_49) k))) ?_
          by_cases hc52 : q < (8192 : Int32)
          ·
            refine Goes.pre (U' := s₁.setTop (mkF m 66 #[.val (.int q)] [(.int (8239 : Int32)), (.int q)])) (fun t k => XS.icmpYes X0.here hx rfl (pc0 := 52) (pc' := 62) rfl (hb hby d18_52) rfl (tlt hc52).1 (by decide) (by decide) (XS.iloadN X0.here hx rfl (hb hby d18_62) rfl (XS.sipush X0.here hx rfl (hb hby d18_63) k))) ?_
            by_cases hc66 : q = (8239 : Int32)
            ·
              refine Goes.pre (U' := s₁.setTop (mkF m 88 #[.val (.int q)] [(.int (1 : Int32))])) (fun t k => XS.icmpYes X0.here hx rfl (pc0 := 66) (pc' := 83) rfl (hb hby d18_66) rfl (teq hc66).1 (by decide) (by decide) (XS.iconst X0.here hx rfl (hb hby d18_83) (XS.goto X0.here hx rfl (pc0 := 84) (pc' := 88) rfl (hb hby d18_84) (by decide) (by decide) k))) ?_
              refine Goes.ret X0 (v := (some (.int (1 : Int32)))) (fun h => by rw [hret] at h; cases h) hlk (by decide) (by decide) e0 (fun fs hr => retN X0 hx (t := .boolean) hret (by simp) (hb hby d18_88) hr) ?_
              exact ⟨congrArg (fun z => some (Value.int z)) (show (1 : Int32) = own_space q from (show own_space q = (1 : Int32) from by unfold own_space; rw [if_neg hc4, if_neg hc31, if_neg hc38, if_neg hc45, if_pos hc52, if_pos hc66]).symm), N0, rfl⟩
            ·
              refine Goes.pre (U' := s₁.setTop (mkF m 73 #[.val (.int q)] [(.int (8287 : Int32)), (.int q)])) (fun t k => XS.icmpNo X0.here hx rfl (hb hby d18_66) rfl (feq hc66).1 (XS.iloadN X0.here hx rfl (hb hby d18_69) rfl (XS.sipush X0.here hx rfl (hb hby d18_70) k))) ?_
              by_cases hc73 : q = (8287 : Int32)
              ·
                refine Goes.pre (U' := s₁.setTop (mkF m 88 #[.val (.int q)] [(.int (1 : Int32))])) (fun t k => XS.icmpYes X0.here hx rfl (pc0 := 73) (pc' := 83) rfl (hb hby d18_73) rfl (teq hc73).1 (by decide) (by decide) (XS.iconst X0.here hx rfl (hb hby d18_83) (XS.goto X0.here hx rfl (pc0 := 84) (pc' := 88) rfl (hb hby d18_84) (by decide) (by decide) k))) ?_
                refine Goes.ret X0 (v := (some (.int (1 : Int32)))) (fun h => by rw [hret] at h; cases h) hlk (by decide) (by decide) e0 (fun fs hr => retN X0 hx (t := .boolean) hret (by simp) (hb hby d18_88) hr) ?_
                exact ⟨congrArg (fun z => some (Value.int z)) (show (1 : Int32) = own_space q from (show own_space q = (1 : Int32) from by unfold own_space; rw [if_neg hc4, if_neg hc31, if_neg hc38, if_neg hc45, if_pos hc52, if_neg hc66, if_pos hc73]).symm), N0, rfl⟩
              ·
                refine Goes.pre (U' := s₁.setTop (mkF m 80 #[.val (.int q)] [(.int (12288 : Int32)), (.int q)])) (fun t k => XS.icmpNo X0.here hx rfl (hb hby d18_73) rfl (feq hc73).1 (XS.iloadN X0.here hx rfl (hb hby d18_76) rfl (XS.sipush X0.here hx rfl (hb hby d18_77) k))) ?_
                by_cases hc80 : q = (12288 : Int32)
                ·
                  refine Goes.pre (U' := s₁.setTop (mkF m 88 #[.val (.int q)] [(.int (1 : Int32))])) (fun t k => XS.icmpNo X0.here hx rfl (hb hby d18_80) rfl (teq hc80).2 (XS.iconst X0.here hx rfl (hb hby d18_83) (XS.goto X0.here hx rfl (pc0 := 84) (pc' := 88) rfl (hb hby d18_84) (by decide) (by decide) k))) ?_
                  refine Goes.ret X0 (v := (some (.int (1 : Int32)))) (fun h => by rw [hret] at h; cases h) hlk (by decide) (by decide) e0 (fun fs hr => retN X0 hx (t := .boolean) hret (by simp) (hb hby d18_88) hr) ?_
                  exact ⟨congrArg (fun z => some (Value.int z)) (show (1 : Int32) = own_space q from (show own_space q = (1 : Int32) from by unfold own_space; rw [if_neg hc4, if_neg hc31, if_neg hc38, if_neg hc45, if_pos hc52, if_neg hc66, if_neg hc73, if_pos hc80]).symm), N0, rfl⟩
                ·
                  refine Goes.pre (U' := s₁.setTop (mkF m 88 #[.val (.int q)] [(.int (0 : Int32))])) (fun t k => XS.icmpYes X0.here hx rfl (pc0 := 80) (pc' := 87) rfl (hb hby d18_80) rfl (feq hc80).2 (by decide) (by decide) (XS.iconst X0.here hx rfl (hb hby d18_87) k)) ?_
                  refine Goes.ret X0 (v := (some (.int (0 : Int32)))) (fun h => by rw [hret] at h; cases h) hlk (by decide) (by decide) e0 (fun fs hr => retN X0 hx (t := .boolean) hret (by simp) (hb hby d18_88) hr) ?_
                  exact ⟨congrArg (fun z => some (Value.int z)) (show (0 : Int32) = own_space q from (show own_space q = (0 : Int32) from by unfold own_space; rw [if_neg hc4, if_neg hc31, if_neg hc38, if_neg hc45, if_pos hc52, if_neg hc66, if_neg hc73, if_neg hc80]).symm), N0, rfl⟩
          ·
            refine Goes.pre (U' := s₁.setTop (mkF m 59 #[.val (.int q)] [(.int (8202 : Int32)), (.int q)])) (fun t k => XS.icmpNo X0.here hx rfl (hb hby d18_52) rfl (flt hc52).1 (XS.iloadN X0.here hx rfl (hb hby d18_55) rfl (XS.sipush X0.here hx rfl (hb hby d18_56) k))) ?_
            by_cases hc59 : (8202 : Int32) < q
            ·
              refine Goes.pre (U' := s₁.setTop (mkF m 66 #[.val (.int q)] [(.int (8239 : Int32)), (.int q)])) (fun t k => XS.icmpNo X0.here hx rfl (hb hby d18_59) rfl (tlt hc59).2.2.2 (XS.iloadN X0.here hx rfl (hb hby d18_62) rfl (XS.sipush X0.here hx rfl (hb hby d18_63) k))) ?_
              by_cases hc66 : q = (8239 : Int32)
              ·
                refine Goes.pre (U' := s₁.setTop (mkF m 88 #[.val (.int q)] [(.int (1 : Int32))])) (fun t k => XS.icmpYes X0.here hx rfl (pc0 := 66) (pc' := 83) rfl (hb hby d18_66) rfl (teq hc66).1 (by decide) (by decide) (XS.iconst X0.here hx rfl (hb hby d18_83) (XS.goto X0.here hx rfl (pc0 := 84) (pc' := 88) rfl (hb hby d18_84) (by decide) (by decide) k))) ?_
                refine Goes.ret X0 (v := (some (.int (1 : Int32)))) (fun h => by rw [hret] at h; cases h) hlk (by decide) (by decide) e0 (fun fs hr => retN X0 hx (t := .boolean) hret (by simp) (hb hby d18_88) hr) ?_
                exact ⟨congrArg (fun z => some (Value.int z)) (show (1 : Int32) = own_space q from (show own_space q = (1 : Int32) from by unfold own_space; rw [if_neg hc4, if_neg hc31, if_neg hc38, if_neg hc45, if_neg hc52, if_pos hc59, if_pos hc66]).symm), N0, rfl⟩
              ·
                refine Goes.pre (U' := s₁.setTop (mkF m 73 #[.val (.int q)] [(.int (8287 : Int32)), (.int q)])) (fun t k => XS.icmpNo X0.here hx rfl (hb hby d18_66) rfl (feq hc66).1 (XS.iloadN X0.here hx rfl (hb hby d18_69) rfl (XS.sipush X0.here hx rfl (hb hby d18_70) k))) ?_
                by_cases hc73 : q = (8287 : Int32)
                ·
                  refine Goes.pre (U' := s₁.setTop (mkF m 88 #[.val (.int q)] [(.int (1 : Int32))])) (fun t k => XS.icmpYes X0.here hx rfl (pc0 := 73) (pc' := 83) rfl (hb hby d18_73) rfl (teq hc73).1 (by decide) (by decide) (XS.iconst X0.here hx rfl (hb hby d18_83) (XS.goto X0.here hx rfl (pc0 := 84) (pc' := 88) rfl (hb hby d18_84) (by decide) (by decide) k))) ?_
                  refine Goes.ret X0 (v := (some (.int (1 : Int32)))) (fun h => by rw [hret] at h; cases h) hlk (by decide) (by decide) e0 (fun fs hr => retN X0 hx (t := .boolean) hret (by simp) (hb hby d18_88) hr) ?_
                  exact ⟨congrArg (fun z => some (Value.int z)) (show (1 : Int32) = own_space q from (show own_space q = (1 : Int32) from by unfold own_space; rw [if_neg hc4, if_neg hc31, if_neg hc38, if_neg hc45, if_neg hc52, if_pos hc59, if_neg hc66, if_pos hc73]).symm), N0, rfl⟩
                ·
                  refine Goes.pre (U' := s₁.setTop (mkF m 80 #[.val (.int q)] [(.int (12288 : Int32)), (.int q)])) (fun t k => XS.icmpNo X0.here hx rfl (hb hby d18_73) rfl (feq hc73).1 (XS.iloadN X0.here hx rfl (hb hby d18_76) rfl (XS.sipush X0.here hx rfl (hb hby d18_77) k))) ?_
                  by_cases hc80 : q = (12288 : Int32)
                  ·
                    refine Goes.pre (U' := s₁.setTop (mkF m 88 #[.val (.int q)] [(.int (1 : Int32))])) (fun t k => XS.icmpNo X0.here hx rfl (hb hby d18_80) rfl (teq hc80).2 (XS.iconst X0.here hx rfl (hb hby d18_83) (XS.goto X0.here hx rfl (pc0 := 84) (pc' := 88) rfl (hb hby d18_84) (by decide) (by decide) k))) ?_
                    refine Goes.ret X0 (v := (some (.int (1 : Int32)))) (fun h => by rw [hret] at h; cases h) hlk (by decide) (by decide) e0 (fun fs hr => retN X0 hx (t := .boolean) hret (by simp) (hb hby d18_88) hr) ?_
                    exact ⟨congrArg (fun z => some (Value.int z)) (show (1 : Int32) = own_space q from (show own_space q = (1 : Int32) from by unfold own_space; rw [if_neg hc4, if_neg hc31, if_neg hc38, if_neg hc45, if_neg hc52, if_pos hc59, if_neg hc66, if_neg hc73, if_pos hc80]).symm), N0, rfl⟩
                  ·
                    refine Goes.pre (U' := s₁.setTop (mkF m 88 #[.val (.int q)] [(.int (0 : Int32))])) (fun t k => XS.icmpYes X0.here hx rfl (pc0 := 80) (pc' := 87) rfl (hb hby d18_80) rfl (feq hc80).2 (by decide) (by decide) (XS.iconst X0.here hx rfl (hb hby d18_87) k)) ?_
                    refine Goes.ret X0 (v := (some (.int (0 : Int32)))) (fun h => by rw [hret] at h; cases h) hlk (by decide) (by decide) e0 (fun fs hr => retN X0 hx (t := .boolean) hret (by simp) (hb hby d18_88) hr) ?_
                    exact ⟨congrArg (fun z => some (Value.int z)) (show (0 : Int32) = own_space q from (show own_space q = (0 : Int32) from by unfold own_space; rw [if_neg hc4, if_neg hc31, if_neg hc38, if_neg hc45, if_neg hc52, if_pos hc59, if_neg hc66, if_neg hc73, if_neg hc80]).symm), N0, rfl⟩
            ·
              refine Goes.pre (U' := s₁.setTop (mkF m 88 #[.val (.int q)] [(.int (1 : Int32))])) (fun t k => XS.icmpYes X0.here hx rfl (pc0 := 59) (pc' := 83) rfl (hb hby d18_59) rfl (flt hc59).2.2.2 (by decide) (by decide) (XS.iconst X0.here hx rfl (hb hby d18_83) (XS.goto X0.here hx rfl (pc0 := 84) (pc' := 88) rfl (hb hby d18_84) (by decide) (by decide) k))) ?_
              refine Goes.ret X0 (v := (some (.int (1 : Int32)))) (fun h => by rw [hret] at h; cases h) hlk (by decide) (by decide) e0 (fun fs hr => retN X0 hx (t := .boolean) hret (by simp) (hb hby d18_88) hr) ?_
              exact ⟨congrArg (fun z => some (Value.int z)) (show (1 : Int32) = own_space q from (show own_space q = (1 : Int32) from by unfold own_space; rw [if_neg hc4, if_neg hc31, if_neg hc38, if_neg hc45, if_neg hc52, if_neg hc59]).symm), N0, rfl⟩
theorem ef_rm_isH (m : MethodId) (x0 : Int32) : entryFrame m #[(.int x0)] 1 = mkF m 0 #[.val (.int x0)] [] := by first | (simp [entryFrame, mkF, argsToLocals, Value.category]; done) | rfl
theorem pn_com_example_restate_restate_plan_SpacesBlankPinLaw : plainName "com/example/restate/restate/plan/SpacesBlankPinLaw" = true := by first | (simp [plainName, overriddenIn]; done) | decide +kernel
abbrev M12 : MethodName := ⟨"com/example/restate/restate/plan/SpacesBlankPinLaw", "isH", "(C)Z"⟩
theorem d12_0 : decode method_2_code 0 = .ok (.iload_n 0, 1) := by decide +kernel
theorem d12_1 : decode method_2_code 1 = .ok (.bipush 32, 2) := by decide +kernel
theorem d12_3 : decode method_2_code 3 = .ok (.if_icmp .eq 65, 3) := by decide +kernel
theorem d12_68 : decode method_2_code 68 = .ok (.iconst 1, 1) := by decide +kernel
theorem d12_69 : decode method_2_code 69 = .ok (.goto 4, 3) := by decide +kernel
theorem d12_73 : decode method_2_code 73 = .ok (.ireturn, 1) := by decide +kernel
theorem d12_6 : decode method_2_code 6 = .ok (.iload_n 0, 1) := by decide +kernel
theorem d12_7 : decode method_2_code 7 = .ok (.bipush 9, 2) := by decide +kernel
theorem d12_9 : decode method_2_code 9 = .ok (.if_icmp .eq 59, 3) := by decide +kernel
theorem d12_12 : decode method_2_code 12 = .ok (.iload_n 0, 1) := by decide +kernel
theorem d12_13 : decode method_2_code 13 = .ok (.sipush 160, 3) := by decide +kernel
theorem d12_16 : decode method_2_code 16 = .ok (.if_icmp .eq 52, 3) := by decide +kernel
theorem d12_19 : decode method_2_code 19 = .ok (.iload_n 0, 1) := by decide +kernel
theorem d12_20 : decode method_2_code 20 = .ok (.sipush 5760, 3) := by decide +kernel
theorem d12_23 : decode method_2_code 23 = .ok (.if_icmp .eq 45, 3) := by decide +kernel
theorem d12_26 : decode method_2_code 26 = .ok (.iload_n 0, 1) := by decide +kernel
theorem d12_27 : decode method_2_code 27 = .ok (.sipush 6158, 3) := by decide +kernel
theorem d12_30 : decode method_2_code 30 = .ok (.if_icmp .eq 38, 3) := by decide +kernel
theorem d12_33 : decode method_2_code 33 = .ok (.iload_n 0, 1) := by decide +kernel
theorem d12_34 : decode method_2_code 34 = .ok (.sipush 8192, 3) := by decide +kernel
theorem d12_37 : decode method_2_code 37 = .ok (.if_icmp .lt 10, 3) := by decide +kernel
theorem d12_47 : decode method_2_code 47 = .ok (.iload_n 0, 1) := by decide +kernel
theorem d12_48 : decode method_2_code 48 = .ok (.sipush 8239, 3) := by decide +kernel
theorem d12_51 : decode method_2_code 51 = .ok (.if_icmp .eq 17, 3) := by decide +kernel
theorem d12_54 : decode method_2_code 54 = .ok (.iload_n 0, 1) := by decide +kernel
theorem d12_55 : decode method_2_code 55 = .ok (.sipush 8287, 3) := by decide +kernel
theorem d12_58 : decode method_2_code 58 = .ok (.if_icmp .eq 10, 3) := by decide +kernel
theorem d12_61 : decode method_2_code 61 = .ok (.iload_n 0, 1) := by decide +kernel
theorem d12_62 : decode method_2_code 62 = .ok (.sipush 12288, 3) := by decide +kernel
theorem d12_65 : decode method_2_code 65 = .ok (.if_icmp .ne 7, 3) := by decide +kernel
theorem d12_72 : decode method_2_code 72 = .ok (.iconst 0, 1) := by decide +kernel
theorem d12_40 : decode method_2_code 40 = .ok (.iload_n 0, 1) := by decide +kernel
theorem d12_41 : decode method_2_code 41 = .ok (.sipush 8202, 3) := by decide +kernel
theorem d12_44 : decode method_2_code 44 = .ok (.if_icmp .le 24, 3) := by decide +kernel
def own_isH (q : Int32) : Int32 := (if q = (32 : Int32) then (1 : Int32) else (if q = (9 : Int32) then (1 : Int32) else (if q = (160 : Int32) then (1 : Int32) else (if q = (5760 : Int32) then (1 : Int32) else (if q = (6158 : Int32) then (1 : Int32) else (if q < (8192 : Int32) then (if q = (8239 : Int32) then (1 : Int32) else (if q = (8287 : Int32) then (1 : Int32) else (if q = (12288 : Int32) then (1 : Int32) else (0 : Int32)))) else (if (8202 : Int32) < q then (if q = (8239 : Int32) then (1 : Int32) else (if q = (8287 : Int32) then (1 : Int32) else (if q = (12288 : Int32) then (1 : Int32) else (0 : Int32)))) else (1 : Int32))))))))
def Q_rm_isH (Z : State) (q : Int32) (h0 : Heap) (n0 : Nat) (v : Option Value) (h : Heap) (L : List Loc) : Prop := v = some (.int (own_isH q)) ∧ Fr n0 L ∧ h = h0
set_option maxRecDepth 65536 in
set_option maxHeartbeats 40000000 in
theorem rm_isH (l : Launch) (Z : State) (a0 : Array Value) (hw : ∀ d ∈ tables_1, d.before a0 Z = true) (ws : List Jvm.Cond) (q : Int32) (h0 : Heap) (n0 : Nat) (Z0 : n0 ≤ h0.size)  :
    Met l Z M12 method_2_code 1 (some .boolean) ws (Rm 0 0 0 0) #[(.int q)] h0 (Q_rm_isH Z q h0 n0) := by
  refine met_of (plainFor_of_name pn_com_example_restate_restate_plan_SpacesBlankPinLaw) (own := "com/example/restate/restate/plan/SpacesBlankPinLaw") rfl (fun m => ef_rm_isH m q) ?_
  intro p e s m below meth c s₁ hx hby hml hown hnm hZ X0 e0 hret hlk
  have N0 := Fr.nil n0
  show Goes p e below s _ _ _ (s₁.setTop (mkF m 0 #[.val (.int q)] []))
  refine Goes.pre (U' := s₁.setTop (mkF m 3 #[.val (.int q)] [(.int (32 : Int32)), (.int q)])) (fun t k => XS.iloadN X0.here hx rfl (hb hby d12_0) rfl (XS.bipush X0.here hx rfl (hb hby d12_1) k)) ?_
  by_cases hc3 : q = (32 : Int32)
  ·
    refine Goes.pre (U' := s₁.setTop (mkF m 73 #[.val (.int q)] [(.int (1 : Int32))])) (fun t k => XS.icmpYes X0.here hx rfl (pc0 := 3) (pc' := 68) rfl (hb hby d12_3) rfl (teq hc3).1 (by decide) (by decide) (XS.iconst X0.here hx rfl (hb hby d12_68) (XS.goto X0.here hx rfl (pc0 := 69) (pc' := 73) rfl (hb hby d12_69) (by decide) (by decide) k))) ?_
    refine Goes.ret X0 (v := (some (.int (1 : Int32)))) (fun h => by rw [hret] at h; cases h) hlk (by decide) (by decide) e0 (fun fs hr => retN X0 hx (t := .boolean) hret (by simp) (hb hby d12_73) hr) ?_
    exact ⟨congrArg (fun z => some (Value.int z)) (show (1 : Int32) = own_isH q from (show own_isH q = (1 : Int32) from by unfold own_isH; rw [if_pos hc3]).symm), N0, rfl⟩
  ·
    refine Goes.pre (U' := s₁.setTop (mkF m 9 #[.val (.int q)] [(.int (9 : Int32)), (.int q)])) (fun t k => XS.icmpNo X0.here hx rfl (hb hby d12_3) rfl (feq hc3).1 (XS.iloadN X0.here hx rfl (hb hby d12_6) rfl (XS.bipush X0.here hx rfl (hb hby d12_7) k))) ?_
    by_cases hc9 : q = (9 : Int32)
    ·
      refine Goes.pre (U' := s₁.setTop (mkF m 73 #[.val (.int q)] [(.int (1 : Int32))])) (fun t k => XS.icmpYes X0.here hx rfl (pc0 := 9) (pc' := 68) rfl (hb hby d12_9) rfl (teq hc9).1 (by decide) (by decide) (XS.iconst X0.here hx rfl (hb hby d12_68) (XS.goto X0.here hx rfl (pc0 := 69) (pc' := 73) rfl (hb hby d12_69) (by decide) (by decide) k))) ?_
      refine Goes.ret X0 (v := (some (.int (1 : Int32)))) (fun h => by rw [hret] at h; cases h) hlk (by decide) (by decide) e0 (fun fs hr => retN X0 hx (t := .boolean) hret (by simp) (hb hby d12_73) hr) ?_
      exact ⟨congrArg (fun z => some (Value.int z)) (show (1 : Int32) = own_isH q from (show own_isH q = (1 : Int32) from by unfold own_isH; rw [if_neg hc3, if_pos hc9]).symm), N0, rfl⟩
    ·
      refine Goes.pre (U' := s₁.setTop (mkF m 16 #[.val (.int q)] [(.int (160 : Int32)), (.int q)])) (fun t k => XS.icmpNo X0.here hx rfl (hb hby d12_9) rfl (feq hc9).1 (XS.iloadN X0.here hx rfl (hb hby d12_12) rfl (XS.sipush X0.here hx rfl (hb hby d12_13) k))) ?_
      by_cases hc16 : q = (160 : Int32)
      ·
        refine Goes.pre (U' := s₁.setTop (mkF m 73 #[.val (.int q)] [(.int (1 : Int32))])) (fun t k => XS.icmpYes X0.here hx rfl (pc0 := 16) (pc' := 68) rfl (hb hby d12_16) rfl (teq hc16).1 (by decide) (by decide) (XS.iconst X0.here hx rfl (hb hby d12_68) (XS.goto X0.here hx rfl (pc0 := 69) (pc' := 73) rfl (hb hby d12_69) (by decide) (by decide) k))) ?_
        refine Goes.ret X0 (v := (some (.int (1 : Int32)))) (fun h => by rw [hret] at h; cases h) hlk (by decide) (by decide) e0 (fun fs hr => retN X0 hx (t := .boolean) hret (by simp) (hb hby d12_73) hr) ?_
        exact ⟨congrArg (fun z => some (Value.int z)) (show (1 : Int32) = own_isH q from (show own_isH q = (1 : Int32) from by unfold own_isH; rw [if_neg hc3, if_neg hc9, if_pos hc16]).symm), N0, rfl⟩
      ·
        refine Goes.pre (U' := s₁.setTop (mkF m 23 #[.val (.int q)] [(.int (5760 : Int32)), (.int q)])) (fun t k => XS.icmpNo X0.here hx rfl (hb hby d12_16) rfl (feq hc16).1 (XS.iloadN X0.here hx rfl (hb hby d12_19) rfl (XS.sipush X0.here hx rfl (hb hby d12_20) k))) ?_
        by_cases hc23 : q = (5760 : Int32)
        ·
          refine Goes.pre (U' := s₁.setTop (mkF m 73 #[.val (.int q)] [(.int (1 : Int32))])) (fun t k => XS.icmpYes X0.here hx rfl (pc0 := 23) (pc' := 68) rfl (hb hby d12_23) rfl (teq hc23).1 (by decide) (by decide) (XS.iconst X0.here hx rfl (hb hby d12_68) (XS.goto X0.here hx rfl (pc0 := 69) (pc' := 73) rfl (hb hby d12_69) (by decide) (by decide) k))) ?_
          refine Goes.ret X0 (v := (some (.int (1 : Int32)))) (fun h => by rw [hret] at h; cases h) hlk (by decide) (by decide) e0 (fun fs hr => retN X0 hx (t := .boolean) hret (by simp) (hb hby d12_73) hr) ?_
          exact ⟨congrArg (fun z => some (Value.int z)) (show (1 : Int32) = own_isH q from (show own_isH q = (1 : Int32) from by unfold own_isH; rw [if_neg hc3, if_neg hc9, if_neg hc16, if_pos hc23]).symm), N0, rfl⟩
        ·
          refine Goes.pre (U' := s₁.setTop (mkF m 30 #[.val (.int q)] [(.int (6158 : Int32)), (.int q)])) (fun t k => XS.icmpNo X0.here hx rfl (hb hby d12_23) rfl (feq hc23).1 (XS.iloadN X0.here hx rfl (hb hby d12_26) rfl (XS.sipush X0.here hx rfl (hb hby d12_27) k))) ?_
          by_cases hc30 : q = (6158 : Int32)
          ·
            refine Goes.pre (U' := s₁.setTop (mkF m 73 #[.val (.int q)] [(.int (1 : Int32))])) (fun t k => XS.icmpYes X0.here hx rfl (pc0 := 30) (pc' := 68) rfl (hb hby d12_30) rfl (teq hc30).1 (by decide) (by decide) (XS.iconst X0.here hx rfl (hb hby d12_68) (XS.goto X0.here hx rfl (pc0 := 69) (pc' := 73) rfl (hb hby d12_69) (by decide) (by decide) k))) ?_
            refine Goes.ret X0 (v := (some (.int (1 : Int32)))) (fun h => by rw [hret] at h; cases h) hlk (by decide) (by decide) e0 (fun fs hr => retN X0 hx (t := .boolean) hret (by simp) (hb hby d12_73) hr) ?_
            exact ⟨congrArg (fun z => some (Value.int z)) (show (1 : Int32) = own_isH q from (show own_isH q = (1 : Int32) from by unfold own_isH; rw [if_neg hc3, if_neg hc9, if_neg hc16, if_neg hc23, if_pos hc30]).symm), N0, rfl⟩
          ·
            refine Goes.pre (U' := s₁.setTop (mkF m 37 #[.val (.int q)] [(.int (8192 : Int32)), (.int q)])) (fun t k => XS.icmpNo X0.here hx rfl (hb hby d12_30) rfl (feq hc30).1 (XS.iloadN X0.here hx rfl (hb hby d12_33) rfl (XS.sipush X0.here hx rfl (hb hby d12_34) k))) ?_
            by_cases hc37 : q < (8192 : Int32)
            ·
              refine Goes.pre (U' := s₁.setTop (mkF m 51 #[.val (.int q)] [(.int (8239 : Int32)), (.int q)])) (fun t k => XS.icmpYes X0.here hx rfl (pc0 := 37) (pc' := 47) rfl (hb hby d12_37) rfl (tlt hc37).1 (by decide) (by decide) (XS.iloadN X0.here hx rfl (hb hby d12_47) rfl (XS.sipush X0.here hx rfl (hb hby d12_48) k))) ?_
              by_cases hc51 : q = (8239 : Int32)
              ·
                refine Goes.pre (U' := s₁.setTop (mkF m 73 #[.val (.int q)] [(.int (1 : Int32))])) (fun t k => XS.icmpYes X0.here hx rfl (pc0 := 51) (pc' := 68) rfl (hb hby d12_51) rfl (teq hc51).1 (by decide) (by decide) (XS.iconst X0.here hx rfl (hb hby d12_68) (XS.goto X0.here hx rfl (pc0 := 69) (pc' := 73) rfl (hb hby d12_69) (by decide) (by decide) k))) ?_
                refine Goes.ret X0 (v := (some (.int (1 : Int32)))) (fun h => by rw [hret] at h; cases h) hlk (by decide) (by decide) e0 (fun fs hr => retN X0 hx (t := .boolean) hret (by simp) (hb hby d12_73) hr) ?_
                exact ⟨congrArg (fun z => some (Value.int z)) (show (1 : Int32) = own_isH q from (show own_isH q = (1 : Int32) from by unfold own_isH; rw [if_neg hc3, if_neg hc9, if_neg hc16, if_neg hc23, if_neg hc30, if_pos hc37, if_pos hc51]).symm), N0, rfl⟩
              ·
                refine Goes.pre (U' := s₁.setTop (mkF m 58 #[.val (.int q)] [(.int (8287 : Int32)), (.int q)])) (fun t k => XS.icmpNo X0.here hx rfl (hb hby d12_51) rfl (feq hc51).1 (XS.iloadN X0.here hx rfl (hb hby d12_54) rfl (XS.sipush X0.here hx rfl (hb hby d12_55) k))) ?_
                by_cases hc58 : q = (8287 : Int32)
                ·
                  refine Goes.pre (U' := s₁.setTop (mkF m 73 #[.val (.int q)] [(.int (1 : Int32))])) (fun t k => XS.icmpYes X0.here hx rfl (pc0 := 58) (pc' := 68) rfl (hb hby d12_58) rfl (teq hc58).1 (by decide) (by decide) (XS.iconst X0.here hx rfl (hb hby d12_68) (XS.goto X0.here hx rfl (pc0 := 69) (pc' := 73) rfl (hb hby d12_69) (by decide) (by decide) k))) ?_
                  refine Goes.ret X0 (v := (some (.int (1 : Int32)))) (fun h => by rw [hret] at h; cases h) hlk (by decide) (by decide) e0 (fun fs hr => retN X0 hx (t := .boolean) hret (by simp) (hb hby d12_73) hr) ?_
                  exact ⟨congrArg (fun z => some (Value.int z)) (show (1 : Int32) = own_isH q from (show own_isH q = (1 : Int32) from by unfold own_isH; rw [if_neg hc3, if_neg hc9, if_neg hc16, if_neg hc23, if_neg hc30, if_pos hc37, if_neg hc51, if_pos hc58]).symm), N0, rfl⟩
                ·
                  refine Goes.pre (U' := s₁.setTop (mkF m 65 #[.val (.int q)] [(.int (12288 : Int32)), (.int q)])) (fun t k => XS.icmpNo X0.here hx rfl (hb hby d12_58) rfl (feq hc58).1 (XS.iloadN X0.here hx rfl (hb hby d12_61) rfl (XS.sipush X0.here hx rfl (hb hby d12_62) k))) ?_
                  by_cases hc65 : q = (12288 : Int32)
                  ·
                    refine Goes.pre (U' := s₁.setTop (mkF m 73 #[.val (.int q)] [(.int (1 : Int32))])) (fun t k => XS.icmpNo X0.here hx rfl (hb hby d12_65) rfl (teq hc65).2 (XS.iconst X0.here hx rfl (hb hby d12_68) (XS.goto X0.here hx rfl (pc0 := 69) (pc' := 73) rfl (hb hby d12_69) (by decide) (by decide) k))) ?_
                    refine Goes.ret X0 (v := (some (.int (1 : Int32)))) (fun h => by rw [hret] at h; cases h) hlk (by decide) (by decide) e0 (fun fs hr => retN X0 hx (t := .boolean) hret (by simp) (hb hby d12_73) hr) ?_
                    exact ⟨congrArg (fun z => some (Value.int z)) (show (1 : Int32) = own_isH q from (show own_isH q = (1 : Int32) from by unfold own_isH; rw [if_neg hc3, if_neg hc9, if_neg hc16, if_neg hc23, if_neg hc30, if_pos hc37, if_neg hc51, if_neg hc58, if_pos hc65]).symm), N0, rfl⟩
                  ·
                    refine Goes.pre (U' := s₁.setTop (mkF m 73 #[.val (.int q)] [(.int (0 : Int32))])) (fun t k => XS.icmpYes X0.here hx rfl (pc0 := 65) (pc' := 72) rfl (hb hby d12_65) rfl (feq hc65).2 (by decide) (by decide) (XS.iconst X0.here hx rfl (hb hby d12_72) k)) ?_
                    refine Goes.ret X0 (v := (some (.int (0 : Int32)))) (fun h => by rw [hret] at h; cases h) hlk (by decide) (by decide) e0 (fun fs hr => retN X0 hx (t := .boolean) hret (by simp) (hb hby d12_73) hr) ?_
                    exact ⟨congrArg (fun z => some (Value.int z)) (show (0 : Int32) = own_isH q from (show own_isH q = (0 : Int32) from by unfold own_isH; rw [if_neg hc3, if_neg hc9, if_neg hc16, if_neg hc23, if_neg hc30, if_pos hc37, if_neg hc51, if_neg hc58, if_neg hc65]).symm), N0, rfl⟩
            ·
              refine Goes.pre (U' := s₁.setTop (mkF m 44 #[.val (.int q)] [(.int (8202 : Int32)), (.int q)])) (fun t k => XS.icmpNo X0.here hx rfl (hb hby d12_37) rfl (flt hc37).1 (XS.iloadN X0.here hx rfl (hb hby d12_40) rfl (XS.sipush X0.here hx rfl (hb hby d12_41) k))) ?_
              by_cases hc44 : (8202 : Int32) < q
              ·
                refine Goes.pre (U' := s₁.setTop (mkF m 51 #[.val (.int q)] [(.int (8239 : Int32)), (.int q)])) (fun t k => XS.icmpNo X0.here hx rfl (hb hby d12_44) rfl (tlt hc44).2.2.2 (XS.iloadN X0.here hx rfl (hb hby d12_47) rfl (XS.sipush X0.here hx rfl (hb hby d12_48) k))) ?_
                by_cases hc51 : q = (8239 : Int32)
                ·
                  refine Goes.pre (U' := s₁.setTop (mkF m 73 #[.val (.int q)] [(.int (1 : Int32))])) (fun t k => XS.icmpYes X0.here hx rfl (pc0 := 51) (pc' := 68) rfl (hb hby d12_51) rfl (teq hc51).1 (by decide) (by decide) (XS.iconst X0.here hx rfl (hb hby d12_68) (XS.goto X0.here hx rfl (pc0 := 69) (pc' := 73) rfl (hb hby d12_69) (by decide) (by decide) k))) ?_
                  refine Goes.ret X0 (v := (some (.int (1 : Int32)))) (fun h => by rw [hret] at h; cases h) hlk (by decide) (by decide) e0 (fun fs hr => retN X0 hx (t := .boolean) hret (by simp) (hb hby d12_73) hr) ?_
                  exact ⟨congrArg (fun z => some (Value.int z)) (show (1 : Int32) = own_isH q from (show own_isH q = (1 : Int32) from by unfold own_isH; rw [if_neg hc3, if_neg hc9, if_neg hc16, if_neg hc23, if_neg hc30, if_neg hc37, if_pos hc44, if_pos hc51]).symm), N0, rfl⟩
                ·
                  refine Goes.pre (U' := s₁.setTop (mkF m 58 #[.val (.int q)] [(.int (8287 : Int32)), (.int q)])) (fun t k => XS.icmpNo X0.here hx rfl (hb hby d12_51) rfl (feq hc51).1 (XS.iloadN X0.here hx rfl (hb hby d12_54) rfl (XS.sipush X0.here hx rfl (hb hby d12_55) k))) ?_
                  by_cases hc58 : q = (8287 : Int32)
                  ·
                    refine Goes.pre (U' := s₁.setTop (mkF m 73 #[.val (.int q)] [(.int (1 : Int32))])) (fun t k => XS.icmpYes X0.here hx rfl (pc0 := 58) (pc' := 68) rfl (hb hby d12_58) rfl (teq hc58).1 (by decide) (by decide) (XS.iconst X0.here hx rfl (hb hby d12_68) (XS.goto X0.here hx rfl (pc0 := 69) (pc' := 73) rfl (hb hby d12_69) (by decide) (by decide) k))) ?_
                    refine Goes.ret X0 (v := (some (.int (1 : Int32)))) (fun h => by rw [hret] at h; cases h) hlk (by decide) (by decide) e0 (fun fs hr => retN X0 hx (t := .boolean) hret (by simp) (hb hby d12_73) hr) ?_
                    exact ⟨congrArg (fun z => some (Value.int z)) (show (1 : Int32) = own_isH q from (show own_isH q = (1 : Int32) from by unfold own_isH; rw [if_neg hc3, if_neg hc9, if_neg hc16, if_neg hc23, if_neg hc30, if_neg hc37, if_pos hc44, if_neg hc51, if_pos hc58]).symm), N0, rfl⟩
                  ·
                    refine Goes.pre (U' := s₁.setTop (mkF m 65 #[.val (.int q)] [(.int (12288 : Int32)), (.int q)])) (fun t k => XS.icmpNo X0.here hx rfl (hb hby d12_58) rfl (feq hc58).1 (XS.iloadN X0.here hx rfl (hb hby d12_61) rfl (XS.sipush X0.here hx rfl (hb hby d12_62) k))) ?_
                    by_cases hc65 : q = (12288 : Int32)
                    ·
                      refine Goes.pre (U' := s₁.setTop (mkF m 73 #[.val (.int q)] [(.int (1 : Int32))])) (fun t k => XS.icmpNo X0.here hx rfl (hb hby d12_65) rfl (teq hc65).2 (XS.iconst X0.here hx rfl (hb hby d12_68) (XS.goto X0.here hx rfl (pc0 := 69) (pc' := 73) rfl (hb hby d12_69) (by decide) (by decide) k))) ?_
                      refine Goes.ret X0 (v := (some (.int (1 : Int32)))) (fun h => by rw [hret] at h; cases h) hlk (by decide) (by decide) e0 (fun fs hr => retN X0 hx (t := .boolean) hret (by simp) (hb hby d12_73) hr) ?_
                      exact ⟨congrArg (fun z => some (Value.int z)) (show (1 : Int32) = own_isH q from (show own_isH q = (1 : Int32) from by unfold own_isH; rw [if_neg hc3, if_neg hc9, if_neg hc16, if_neg hc23, if_neg hc30, if_neg hc37, if_pos hc44, if_neg hc51, if_neg hc58, if_pos hc65]).symm), N0, rfl⟩
                    ·
                      refine Goes.pre (U' := s₁.setTop (mkF m 73 #[.val (.int q)] [(.int (0 : Int32))])) (fun t k => XS.icmpYes X0.here hx rfl (pc0 := 65) (pc' := 72) rfl (hb hby d12_65) rfl (feq hc65).2 (by decide) (by decide) (XS.iconst X0.here hx rfl (hb hby d12_72) k)) ?_
                      refine Goes.ret X0 (v := (some (.int (0 : Int32)))) (fun h => by rw [hret] at h; cases h) hlk (by decide) (by decide) e0 (fun fs hr => retN X0 hx (t := .boolean) hret (by simp) (hb hby d12_73) hr) ?_
                      exact ⟨congrArg (fun z => some (Value.int z)) (show (0 : Int32) = own_isH q from (show own_isH q = (0 : Int32) from by unfold own_isH; rw [if_neg hc3, if_neg hc9, if_neg hc16, if_neg hc23, if_neg hc30, if_neg hc37, if_pos hc44, if_neg hc51, if_neg hc58, if_neg hc65]).symm), N0, rfl⟩
              ·
                refine Goes.pre (U' := s₁.setTop (mkF m 73 #[.val (.int q)] [(.int (1 : Int32))])) (fun t k => XS.icmpYes X0.here hx rfl (pc0 := 44) (pc' := 68) rfl (hb hby d12_44) rfl (flt hc44).2.2.2 (by decide) (by decide) (XS.iconst X0.here hx rfl (hb hby d12_68) (XS.goto X0.here hx rfl (pc0 := 69) (pc' := 73) rfl (hb hby d12_69) (by decide) (by decide) k))) ?_
                refine Goes.ret X0 (v := (some (.int (1 : Int32)))) (fun h => by rw [hret] at h; cases h) hlk (by decide) (by decide) e0 (fun fs hr => retN X0 hx (t := .boolean) hret (by simp) (hb hby d12_73) hr) ?_
                exact ⟨congrArg (fun z => some (Value.int z)) (show (1 : Int32) = own_isH q from (show own_isH q = (1 : Int32) from by unfold own_isH; rw [if_neg hc3, if_neg hc9, if_neg hc16, if_neg hc23, if_neg hc30, if_neg hc37, if_neg hc44]).symm), N0, rfl⟩
set_option maxHeartbeats 40000000 in
theorem own_same (q : Int32) : own_space q = own_isH q := by
  unfold own_space own_isH
  simp only [Int32.lt_iff_toInt_lt, ← Int32.toInt_inj, show (160 : Int32).toInt = 160 from by decide, show (32 : Int32).toInt = 32 from by decide, show (9 : Int32).toInt = 9 from by decide, show (5760 : Int32).toInt = 5760 from by decide, show (6158 : Int32).toInt = 6158 from by decide, show (8192 : Int32).toInt = 8192 from by decide, show (8202 : Int32).toInt = 8202 from by decide, show (8239 : Int32).toInt = 8239 from by decide, show (8287 : Int32).toInt = 8287 from by decide, show (12288 : Int32).toInt = 12288 from by decide]
  generalize q.toInt = z
  repeat' split
  all_goals first | rfl | (exfalso; omega)
theorem own_sp : ∀ i : Nat, ∃ q : Int32, OwnCh q ∧ ([(.int (32 : Int32)), (.int (9 : Int32)), (.int (160 : Int32)), (.int (5760 : Int32)), (.int (6158 : Int32)), (.int (8192 : Int32)), (.int (8193 : Int32)), (.int (8194 : Int32)), (.int (8195 : Int32)), (.int (8196 : Int32)), (.int (8197 : Int32)), (.int (8198 : Int32)), (.int (8199 : Int32)), (.int (8200 : Int32)), (.int (8201 : Int32)), (.int (8202 : Int32)), (.int (8239 : Int32)), (.int (8287 : Int32)), (.int (12288 : Int32))] : List Value).getD i (.int (0 : Int32)) = .int q
  | 0 => ⟨32, ⟨by decide, by decide⟩, rfl⟩
  | 1 => ⟨9, ⟨by decide, by decide⟩, rfl⟩
  | 2 => ⟨160, ⟨by decide, by decide⟩, rfl⟩
  | 3 => ⟨5760, ⟨by decide, by decide⟩, rfl⟩
  | 4 => ⟨6158, ⟨by decide, by decide⟩, rfl⟩
  | 5 => ⟨8192, ⟨by decide, by decide⟩, rfl⟩
  | 6 => ⟨8193, ⟨by decide, by decide⟩, rfl⟩
  | 7 => ⟨8194, ⟨by decide, by decide⟩, rfl⟩
  | 8 => ⟨8195, ⟨by decide, by decide⟩, rfl⟩
  | 9 => ⟨8196, ⟨by decide, by decide⟩, rfl⟩
  | 10 => ⟨8197, ⟨by decide, by decide⟩, rfl⟩
  | 11 => ⟨8198, ⟨by decide, by decide⟩, rfl⟩
  | 12 => ⟨8199, ⟨by decide, by decide⟩, rfl⟩
  | 13 => ⟨8200, ⟨by decide, by decide⟩, rfl⟩
  | 14 => ⟨8201, ⟨by decide, by decide⟩, rfl⟩
  | 15 => ⟨8202, ⟨by decide, by decide⟩, rfl⟩
  | 16 => ⟨8239, ⟨by decide, by decide⟩, rfl⟩
  | 17 => ⟨8287, ⟨by decide, by decide⟩, rfl⟩
  | 18 => ⟨12288, ⟨by decide, by decide⟩, rfl⟩
  | n + 19 => ⟨0, ⟨by decide, by decide⟩, rfl⟩
theorem own_ix (x : Int32) : ¬ (((x.toUInt32 >>> ((17 : Int32) &&& 31).toUInt32).toInt32 &&& (32767 : Int32)) % (19 : Int32)) < 0 ∧ (((x.toUInt32 >>> ((17 : Int32) &&& 31).toUInt32).toInt32 &&& (32767 : Int32)) % (19 : Int32)) < (19 : Int32) := by
  have h1 := c_and (x.toUInt32 >>> ((17 : Int32) &&& 31).toUInt32).toInt32 32767 (by decide)
  have h2 := c_irem ((x.toUInt32 >>> ((17 : Int32) &&& 31).toUInt32).toInt32 &&& (32767 : Int32)) 19 19 (by decide)
  have k1 : (32767 : Int32).toInt = 32767 := by decide
  have k2 : (19 : Int32).toInt = 19 := by decide
  have k0 : (0 : Int32).toInt = 0 := by decide
  rw [Int32.lt_iff_toInt_lt, Int32.lt_iff_toInt_lt, k0, k2]
  have h3 := h2.1 h1.1
  omega
theorem own_n4 (x n : Int32) (h : n = x &&& 3) : n = 0 ∨ n = 1 ∨ n = 2 ∨ n = 3 := by
  have q := c_and x 3 (by decide)
  rw [← h] at q
  have q3 : (3 : Int32).toInt = 3 := by decide
  have h0 : (0 : Int32).toInt = 0 := by decide
  have h1 : (1 : Int32).toInt = 1 := by decide
  have h2 : (2 : Int32).toInt = 2 := by decide
  simp only [← Int32.toInt_inj]
  omega
theorem ef_rm_draw (m : MethodId) (x0 : Int32) : entryFrame m #[(.int x0)] 2 = mkF m 0 #[.val (.int x0), .unset] [] := by first | (simp [entryFrame, mkF, argsToLocals, Value.category]; done) | rfl
abbrev M1 : MethodName := ⟨"com/example/restate/restate/plan/SpacesBlankPinLaw", "draw", "(I)C"⟩
theorem d1_0 : decode method_3_code 0 = .ok (.iload_n 0, 1) := by decide +kernel
theorem d1_1 : decode method_3_code 1 = .ok (.ldc 7, 2) := by decide +kernel
theorem d1_3 : decode method_3_code 3 = .ok (.iand, 1) := by decide +kernel
theorem d1_4 : decode method_3_code 4 = .ok (.ifCond .eq 147, 3) := by decide +kernel
theorem d1_151 : decode method_3_code 151 = .ok (.iload_n 0, 1) := by decide +kernel
theorem d1_152 : decode method_3_code 152 = .ok (.i2c, 1) := by decide +kernel
theorem d1_153 : decode method_3_code 153 = .ok (.ireturn, 1) := by decide +kernel
theorem d1_7 : decode method_3_code 7 = .ok (.bipush 19, 2) := by decide +kernel
theorem d1_9 : decode method_3_code 9 = .ok (.newarray .char, 2) := by decide +kernel
theorem d1_11 : decode method_3_code 11 = .ok (.dup, 1) := by decide +kernel
theorem d1_12 : decode method_3_code 12 = .ok (.iconst 0, 1) := by decide +kernel
theorem d1_13 : decode method_3_code 13 = .ok (.bipush 32, 2) := by decide +kernel
theorem d1_15 : decode method_3_code 15 = .ok (.castore, 1) := by decide +kernel
theorem d1_16 : decode method_3_code 16 = .ok (.dup, 1) := by decide +kernel
theorem d1_17 : decode method_3_code 17 = .ok (.iconst 1, 1) := by decide +kernel
theorem d1_18 : decode method_3_code 18 = .ok (.bipush 9, 2) := by decide +kernel
theorem d1_20 : decode method_3_code 20 = .ok (.castore, 1) := by decide +kernel
theorem d1_21 : decode method_3_code 21 = .ok (.dup, 1) := by decide +kernel
theorem d1_22 : decode method_3_code 22 = .ok (.iconst 2, 1) := by decide +kernel
theorem d1_23 : decode method_3_code 23 = .ok (.sipush 160, 3) := by decide +kernel
theorem d1_26 : decode method_3_code 26 = .ok (.castore, 1) := by decide +kernel
theorem d1_27 : decode method_3_code 27 = .ok (.dup, 1) := by decide +kernel
theorem d1_28 : decode method_3_code 28 = .ok (.iconst 3, 1) := by decide +kernel
theorem d1_29 : decode method_3_code 29 = .ok (.sipush 5760, 3) := by decide +kernel
theorem d1_32 : decode method_3_code 32 = .ok (.castore, 1) := by decide +kernel
theorem d1_33 : decode method_3_code 33 = .ok (.dup, 1) := by decide +kernel
theorem d1_34 : decode method_3_code 34 = .ok (.iconst 4, 1) := by decide +kernel
theorem d1_35 : decode method_3_code 35 = .ok (.sipush 6158, 3) := by decide +kernel
theorem d1_38 : decode method_3_code 38 = .ok (.castore, 1) := by decide +kernel
theorem d1_39 : decode method_3_code 39 = .ok (.dup, 1) := by decide +kernel
theorem d1_40 : decode method_3_code 40 = .ok (.iconst 5, 1) := by decide +kernel
theorem d1_41 : decode method_3_code 41 = .ok (.sipush 8192, 3) := by decide +kernel
theorem d1_44 : decode method_3_code 44 = .ok (.castore, 1) := by decide +kernel
theorem d1_45 : decode method_3_code 45 = .ok (.dup, 1) := by decide +kernel
theorem d1_46 : decode method_3_code 46 = .ok (.bipush 6, 2) := by decide +kernel
theorem d1_48 : decode method_3_code 48 = .ok (.sipush 8193, 3) := by decide +kernel
theorem d1_51 : decode method_3_code 51 = .ok (.castore, 1) := by decide +kernel
theorem d1_52 : decode method_3_code 52 = .ok (.dup, 1) := by decide +kernel
theorem d1_53 : decode method_3_code 53 = .ok (.bipush 7, 2) := by decide +kernel
theorem d1_55 : decode method_3_code 55 = .ok (.sipush 8194, 3) := by decide +kernel
theorem d1_58 : decode method_3_code 58 = .ok (.castore, 1) := by decide +kernel
theorem d1_59 : decode method_3_code 59 = .ok (.dup, 1) := by decide +kernel
theorem d1_60 : decode method_3_code 60 = .ok (.bipush 8, 2) := by decide +kernel
theorem d1_62 : decode method_3_code 62 = .ok (.sipush 8195, 3) := by decide +kernel
theorem d1_65 : decode method_3_code 65 = .ok (.castore, 1) := by decide +kernel
theorem d1_66 : decode method_3_code 66 = .ok (.dup, 1) := by decide +kernel
theorem d1_67 : decode method_3_code 67 = .ok (.bipush 9, 2) := by decide +kernel
theorem d1_69 : decode method_3_code 69 = .ok (.sipush 8196, 3) := by decide +kernel
theorem d1_72 : decode method_3_code 72 = .ok (.castore, 1) := by decide +kernel
theorem d1_73 : decode method_3_code 73 = .ok (.dup, 1) := by decide +kernel
theorem d1_74 : decode method_3_code 74 = .ok (.bipush 10, 2) := by decide +kernel
theorem d1_76 : decode method_3_code 76 = .ok (.sipush 8197, 3) := by decide +kernel
theorem d1_79 : decode method_3_code 79 = .ok (.castore, 1) := by decide +kernel
theorem d1_80 : decode method_3_code 80 = .ok (.dup, 1) := by decide +kernel
theorem d1_81 : decode method_3_code 81 = .ok (.bipush 11, 2) := by decide +kernel
theorem d1_83 : decode method_3_code 83 = .ok (.sipush 8198, 3) := by decide +kernel
theorem d1_86 : decode method_3_code 86 = .ok (.castore, 1) := by decide +kernel
theorem d1_87 : decode method_3_code 87 = .ok (.dup, 1) := by decide +kernel
theorem d1_88 : decode method_3_code 88 = .ok (.bipush 12, 2) := by decide +kernel
theorem d1_90 : decode method_3_code 90 = .ok (.sipush 8199, 3) := by decide +kernel
theorem d1_93 : decode method_3_code 93 = .ok (.castore, 1) := by decide +kernel
theorem d1_94 : decode method_3_code 94 = .ok (.dup, 1) := by decide +kernel
theorem d1_95 : decode method_3_code 95 = .ok (.bipush 13, 2) := by decide +kernel
theorem d1_97 : decode method_3_code 97 = .ok (.sipush 8200, 3) := by decide +kernel
theorem d1_100 : decode method_3_code 100 = .ok (.castore, 1) := by decide +kernel
theorem d1_101 : decode method_3_code 101 = .ok (.dup, 1) := by decide +kernel
theorem d1_102 : decode method_3_code 102 = .ok (.bipush 14, 2) := by decide +kernel
theorem d1_104 : decode method_3_code 104 = .ok (.sipush 8201, 3) := by decide +kernel
theorem d1_107 : decode method_3_code 107 = .ok (.castore, 1) := by decide +kernel
theorem d1_108 : decode method_3_code 108 = .ok (.dup, 1) := by decide +kernel
theorem d1_109 : decode method_3_code 109 = .ok (.bipush 15, 2) := by decide +kernel
theorem d1_111 : decode method_3_code 111 = .ok (.sipush 8202, 3) := by decide +kernel
theorem d1_114 : decode method_3_code 114 = .ok (.castore, 1) := by decide +kernel
theorem d1_115 : decode method_3_code 115 = .ok (.dup, 1) := by decide +kernel
theorem d1_116 : decode method_3_code 116 = .ok (.bipush 16, 2) := by decide +kernel
theorem d1_118 : decode method_3_code 118 = .ok (.sipush 8239, 3) := by decide +kernel
theorem d1_121 : decode method_3_code 121 = .ok (.castore, 1) := by decide +kernel
theorem d1_122 : decode method_3_code 122 = .ok (.dup, 1) := by decide +kernel
theorem d1_123 : decode method_3_code 123 = .ok (.bipush 17, 2) := by decide +kernel
theorem d1_125 : decode method_3_code 125 = .ok (.sipush 8287, 3) := by decide +kernel
theorem d1_128 : decode method_3_code 128 = .ok (.castore, 1) := by decide +kernel
theorem d1_129 : decode method_3_code 129 = .ok (.dup, 1) := by decide +kernel
theorem d1_130 : decode method_3_code 130 = .ok (.bipush 18, 2) := by decide +kernel
theorem d1_132 : decode method_3_code 132 = .ok (.sipush 12288, 3) := by decide +kernel
theorem d1_135 : decode method_3_code 135 = .ok (.castore, 1) := by decide +kernel
theorem d1_136 : decode method_3_code 136 = .ok (.astore_n 1, 1) := by decide +kernel
theorem d1_137 : decode method_3_code 137 = .ok (.aload_n 1, 1) := by decide +kernel
theorem d1_138 : decode method_3_code 138 = .ok (.iload_n 0, 1) := by decide +kernel
theorem d1_139 : decode method_3_code 139 = .ok (.bipush 17, 2) := by decide +kernel
theorem d1_141 : decode method_3_code 141 = .ok (.iushr, 1) := by decide +kernel
theorem d1_142 : decode method_3_code 142 = .ok (.sipush 32767, 3) := by decide +kernel
theorem d1_145 : decode method_3_code 145 = .ok (.iand, 1) := by decide +kernel
theorem d1_146 : decode method_3_code 146 = .ok (.aload_n 1, 1) := by decide +kernel
theorem d1_147 : decode method_3_code 147 = .ok (.arraylength, 1) := by decide +kernel
theorem d1_148 : decode method_3_code 148 = .ok (.irem, 1) := by decide +kernel
theorem d1_149 : decode method_3_code 149 = .ok (.caload, 1) := by decide +kernel
theorem d1_150 : decode method_3_code 150 = .ok (.ireturn, 1) := by decide +kernel
def Q_rm_draw (Z : State) (x : Int32) (h0 : Heap) (n0 : Nat) (v : Option Value) (h : Heap) (L : List Loc) : Prop := ∃ (q : Int32), v = some (.int q) ∧ Fr n0 L ∧ Keep h0 h [] ∧ OwnCh q
set_option maxRecDepth 65536 in
set_option maxHeartbeats 40000000 in
theorem rm_draw (l : Launch) (Z : State) (a0 : Array Value) (hw : ∀ d ∈ tables_1, d.before a0 Z = true) (ws : List Jvm.Cond) (x : Int32) (h0 : Heap) (n0 : Nat) (Z0 : n0 ≤ h0.size)  :
    Met l Z M1 method_3_code 2 (some .char) ws (Rm 0 1 19 0) #[(.int x)] h0 (Q_rm_draw Z x h0 n0) := by
  refine met_of (plainFor_of_name pn_com_example_restate_restate_plan_SpacesBlankPinLaw) (own := "com/example/restate/restate/plan/SpacesBlankPinLaw") rfl (fun m => ef_rm_draw m x) ?_
  intro p e s m below meth c s₁ hx hby hml hown hnm hZ X0 e0 hret hlk
  have N0 := Fr.nil n0
  have K0 := Keep.refl h0 []
  show Goes p e below s _ _ _ (s₁.setTop (mkF m 0 #[.val (.int x), .unset] []))
  refine Goes.pre (U' := s₁.setTop (mkF m 4 #[.val (.int x), .unset] [(.int (x &&& (65536 : Int32)))])) (fun t k => XS.iloadN X0.here hx rfl (hb hby d1_0) rfl (X0.ldcInt hx hown (mvT hZ (wq hw 4 rfl)) (g := (mkF m 1 #[.val (.int x), .unset] [(.int x)])) rfl (hb hby d1_1) _ (XS.iand X0.here hx rfl (hb hby d1_3) rfl k))) ?_
  by_cases hc4 : (x &&& (65536 : Int32)) = (0 : Int32)
  ·
    refine Goes.pre (U' := s₁.setTop (mkF m 153 #[.val (.int x), .unset] [(.int (x.toUInt32.toUInt16.toUInt32.toInt32))])) (fun t k => XS.ifYes X0.here hx rfl (pc0 := 4) (pc' := 151) rfl (hb hby d1_4) rfl ((if0 _ _).trans (teq hc4).1) (by decide) (by decide) (XS.iloadN X0.here hx rfl (hb hby d1_151) rfl (XS.i2c X0.here hx rfl (hb hby d1_152) rfl k))) ?_
    refine Goes.ret X0 (v := (some (.int (x.toUInt32.toUInt16.toUInt32.toInt32)))) (fun h => by rw [hret] at h; cases h) hlk (by decide) (by decide) e0 (fun fs hr => retN X0 hx (t := .char) hret (by simp) (hb hby d1_153) (by rw [show nar .char (x.toUInt32.toUInt16.toUInt32.toInt32) = (x.toUInt32.toUInt16.toUInt32.toInt32) from own_chr _]; exact hr)) ?_
    exact ⟨(x.toUInt32.toUInt16.toUInt32.toInt32), rfl, N0, K0, own_isch _⟩
  ·
    refine Goes.pre (U' := s₁.setTop (mkF m 9 #[.val (.int x), .unset] [(.int (19 : Int32))])) (fun t k => XS.ifNo X0.here hx rfl (hb hby d1_4) rfl ((if0 _ _).trans (feq hc4).1) (XS.bipush X0.here hx rfl (hb hby d1_7) k)) ?_
    obtain ⟨T1, h1, k1, X1, e1, E1, A1, B1, st1⟩ := newPE X0 hx hZ (wq hw 11 rfl) e0 (g := (mkF m 9 #[.val (.int x), .unset] [(.int (19 : Int32))])) rfl (hb hby d1_9) rfl (by decide) (cap := 19) (by decide) (by decide) (by decide) (by decide) (ad := "[C") (by decide)
    obtain ⟨nb1, g1⟩ : ∃ z, z = h0.size := ⟨_, rfl⟩
    rw [← g1] at A1 B1 st1
    have g_nb1 : n0 ≤ nb1 := Nat.le_trans Z0 (Nat.le_of_eq g1.symm)
    have sz_nb1 : h0.size ≤ nb1 := Nat.le_trans K0.1 (Nat.le_of_eq g1.symm)
    have Z1 : n0 ≤ h1.size := Nat.le_trans Z0 E1.1
    have K1 := K0.ext E1
    have E_nb1 := B1
    have V_nb1 : Arv Z h1 nb1 k1 .char (19 : Int32) [(.int (0 : Int32)), (.int (0 : Int32)), (.int (0 : Int32)), (.int (0 : Int32)), (.int (0 : Int32)), (.int (0 : Int32)), (.int (0 : Int32)), (.int (0 : Int32)), (.int (0 : Int32)), (.int (0 : Int32)), (.int (0 : Int32)), (.int (0 : Int32)), (.int (0 : Int32)), (.int (0 : Int32)), (.int (0 : Int32)), (.int (0 : Int32)), (.int (0 : Int32)), (.int (0 : Int32)), (.int (0 : Int32))] (.int (0 : Int32)) := (Arv.new A1 (by decide)).pad (pad_rep [] (.int (0 : Int32)) 19)
    refine Goes.pre (U' := T1.setTop (mkF m 15 #[.val (.int x), .unset] [(.int (32 : Int32)), (.int (0 : Int32)), (.ref nb1), (.ref nb1)])) (fun t k => st1 t (XS.dup X1.here hx rfl (hb hby d1_11) rfl rfl (XS.iconst X1.here hx rfl (hb hby d1_12) (XS.bipush X1.here hx rfl (hb hby d1_13) k)))) ?_
    obtain ⟨cl2, Ar2, q2, Sz2, Ng2, Hs2, Ft2⟩ := id V_nb1
    obtain ⟨T2, h2, X2, e2, W2, st2⟩ := stC X1 hx hZ e1 Ar2 (j := (0 : Int32)) (inb_of Sz2 ⟨by decide, by decide⟩) (g := (mkF m 15 #[.val (.int x), .unset] [(.int (32 : Int32)), (.int (0 : Int32)), (.ref nb1), (.ref nb1)])) rfl rfl (hb hby d1_15)
    have E_nb1 := E_nb1.wr W2
    have Z2 : n0 ≤ h2.size := Nat.le_trans Z1 (Keep.of_wr W2).1
    have V_nb1 : Arv Z h2 nb1 k1 .char (19 : Int32) [(.int (nar .char (32 : Int32))), (.int (0 : Int32)), (.int (0 : Int32)), (.int (0 : Int32)), (.int (0 : Int32)), (.int (0 : Int32)), (.int (0 : Int32)), (.int (0 : Int32)), (.int (0 : Int32)), (.int (0 : Int32)), (.int (0 : Int32)), (.int (0 : Int32)), (.int (0 : Int32)), (.int (0 : Int32)), (.int (0 : Int32)), (.int (0 : Int32)), (.int (0 : Int32)), (.int (0 : Int32)), (.int (0 : Int32))] (.int (0 : Int32)) := Arv.set Ar2 q2 Sz2 Ng2 Hs2 Ft2 (fits_nar_char (32 : Int32)) W2 0 rfl (Nat.le_of_ble_eq_true rfl)
    have K2 := K1.wr W2 (Or.inr sz_nb1)
    have N2 := Fr.snoc X2 N0 g_nb1
    refine Goes.pre (U' := T2.setTop (mkF m 20 #[.val (.int x), .unset] [(.int (9 : Int32)), (.int (1 : Int32)), (.ref nb1), (.ref nb1)])) (fun t k => st2 t (XS.dup X2.here hx rfl (hb hby d1_16) rfl rfl (XS.iconst X2.here hx rfl (hb hby d1_17) (XS.bipush X2.here hx rfl (hb hby d1_18) k)))) ?_
    obtain ⟨cl3, Ar3, q3, Sz3, Ng3, Hs3, Ft3⟩ := id V_nb1
    obtain ⟨T3, h3, X3, e3, W3, st3⟩ := stC X2 hx hZ e2 Ar3 (j := (1 : Int32)) (inb_of Sz3 ⟨by decide, by decide⟩) (g := (mkF m 20 #[.val (.int x), .unset] [(.int (9 : Int32)), (.int (1 : Int32)), (.ref nb1), (.ref nb1)])) rfl rfl (hb hby d1_20)
    have E_nb1 := E_nb1.wr W3
    have Z3 : n0 ≤ h3.size := Nat.le_trans Z2 (Keep.of_wr W3).1
    have V_nb1 : Arv Z h3 nb1 k1 .char (19 : Int32) [(.int (nar .char (32 : Int32))), (.int (nar .char (9 : Int32))), (.int (0 : Int32)), (.int (0 : Int32)), (.int (0 : Int32)), (.int (0 : Int32)), (.int (0 : Int32)), (.int (0 : Int32)), (.int (0 : Int32)), (.int (0 : Int32)), (.int (0 : Int32)), (.int (0 : Int32)), (.int (0 : Int32)), (.int (0 : Int32)), (.int (0 : Int32)), (.int (0 : Int32)), (.int (0 : Int32)), (.int (0 : Int32)), (.int (0 : Int32))] (.int (0 : Int32)) := Arv.set Ar3 q3 Sz3 Ng3 Hs3 Ft3 (fits_nar_char (9 : Int32)) W3 1 rfl (Nat.le_of_ble_eq_true rfl)
    have K3 := K2.wr W3 (Or.inr sz_nb1)
    have N3 := Fr.snoc X3 N2 g_nb1
    refine Goes.pre (U' := T3.setTop (mkF m 26 #[.val (.int x), .unset] [(.int (160 : Int32)), (.int (2 : Int32)), (.ref nb1), (.ref nb1)])) (fun t k => st3 t (XS.dup X3.here hx rfl (hb hby d1_21) rfl rfl (XS.iconst X3.here hx rfl (hb hby d1_22) (XS.sipush X3.here hx rfl (hb hby d1_23) k)))) ?_
    obtain ⟨cl4, Ar4, q4, Sz4, Ng4, Hs4, Ft4⟩ := id V_nb1
    obtain ⟨T4, h4, X4, e4, W4, st4⟩ := stC X3 hx hZ e3 Ar4 (j := (2 : Int32)) (inb_of Sz4 ⟨by decide, by decide⟩) (g := (mkF m 26 #[.val (.int x), .unset] [(.int (160 : Int32)), (.int (2 : Int32)), (.ref nb1), (.ref nb1)])) rfl rfl (hb hby d1_26)
    have E_nb1 := E_nb1.wr W4
    have Z4 : n0 ≤ h4.size := Nat.le_trans Z3 (Keep.of_wr W4).1
    have V_nb1 : Arv Z h4 nb1 k1 .char (19 : Int32) [(.int (nar .char (32 : Int32))), (.int (nar .char (9 : Int32))), (.int (nar .char (160 : Int32))), (.int (0 : Int32)), (.int (0 : Int32)), (.int (0 : Int32)), (.int (0 : Int32)), (.int (0 : Int32)), (.int (0 : Int32)), (.int (0 : Int32)), (.int (0 : Int32)), (.int (0 : Int32)), (.int (0 : Int32)), (.int (0 : Int32)), (.int (0 : Int32)), (.int (0 : Int32)), (.int (0 : Int32)), (.int (0 : Int32)), (.int (0 : Int32))] (.int (0 : Int32)) := Arv.set Ar4 q4 Sz4 Ng4 Hs4 Ft4 (fits_nar_char (160 : Int32)) W4 2 rfl (Nat.le_of_ble_eq_true rfl)
    have K4 := K3.wr W4 (Or.inr sz_nb1)
    have N4 := Fr.snoc X4 N3 g_nb1
    refine Goes.pre (U' := T4.setTop (mkF m 32 #[.val (.int x), .unset] [(.int (5760 : Int32)), (.int (3 : Int32)), (.ref nb1), (.ref nb1)])) (fun t k => st4 t (XS.dup X4.here hx rfl (hb hby d1_27) rfl rfl (XS.iconst X4.here hx rfl (hb hby d1_28) (XS.sipush X4.here hx rfl (hb hby d1_29) k)))) ?_
    obtain ⟨cl5, Ar5, q5, Sz5, Ng5, Hs5, Ft5⟩ := id V_nb1
    obtain ⟨T5, h5, X5, e5, W5, st5⟩ := stC X4 hx hZ e4 Ar5 (j := (3 : Int32)) (inb_of Sz5 ⟨by decide, by decide⟩) (g := (mkF m 32 #[.val (.int x), .unset] [(.int (5760 : Int32)), (.int (3 : Int32)), (.ref nb1), (.ref nb1)])) rfl rfl (hb hby d1_32)
    have E_nb1 := E_nb1.wr W5
    have Z5 : n0 ≤ h5.size := Nat.le_trans Z4 (Keep.of_wr W5).1
    have V_nb1 : Arv Z h5 nb1 k1 .char (19 : Int32) [(.int (nar .char (32 : Int32))), (.int (nar .char (9 : Int32))), (.int (nar .char (160 : Int32))), (.int (nar .char (5760 : Int32))), (.int (0 : Int32)), (.int (0 : Int32)), (.int (0 : Int32)), (.int (0 : Int32)), (.int (0 : Int32)), (.int (0 : Int32)), (.int (0 : Int32)), (.int (0 : Int32)), (.int (0 : Int32)), (.int (0 : Int32)), (.int (0 : Int32)), (.int (0 : Int32)), (.int (0 : Int32)), (.int (0 : Int32)), (.int (0 : Int32))] (.int (0 : Int32)) := Arv.set Ar5 q5 Sz5 Ng5 Hs5 Ft5 (fits_nar_char (5760 : Int32)) W5 3 rfl (Nat.le_of_ble_eq_true rfl)
    have K5 := K4.wr W5 (Or.inr sz_nb1)
    have N5 := Fr.snoc X5 N4 g_nb1
    refine Goes.pre (U' := T5.setTop (mkF m 38 #[.val (.int x), .unset] [(.int (6158 : Int32)), (.int (4 : Int32)), (.ref nb1), (.ref nb1)])) (fun t k => st5 t (XS.dup X5.here hx rfl (hb hby d1_33) rfl rfl (XS.iconst X5.here hx rfl (hb hby d1_34) (XS.sipush X5.here hx rfl (hb hby d1_35) k)))) ?_
    obtain ⟨cl6, Ar6, q6, Sz6, Ng6, Hs6, Ft6⟩ := id V_nb1
    obtain ⟨T6, h6, X6, e6, W6, st6⟩ := stC X5 hx hZ e5 Ar6 (j := (4 : Int32)) (inb_of Sz6 ⟨by decide, by decide⟩) (g := (mkF m 38 #[.val (.int x), .unset] [(.int (6158 : Int32)), (.int (4 : Int32)), (.ref nb1), (.ref nb1)])) rfl rfl (hb hby d1_38)
    have E_nb1 := E_nb1.wr W6
    have Z6 : n0 ≤ h6.size := Nat.le_trans Z5 (Keep.of_wr W6).1
    have V_nb1 : Arv Z h6 nb1 k1 .char (19 : Int32) [(.int (nar .char (32 : Int32))), (.int (nar .char (9 : Int32))), (.int (nar .char (160 : Int32))), (.int (nar .char (5760 : Int32))), (.int (nar .char (6158 : Int32))), (.int (0 : Int32)), (.int (0 : Int32)), (.int (0 : Int32)), (.int (0 : Int32)), (.int (0 : Int32)), (.int (0 : Int32)), (.int (0 : Int32)), (.int (0 : Int32)), (.int (0 : Int32)), (.int (0 : Int32)), (.int (0 : Int32)), (.int (0 : Int32)), (.int (0 : Int32)), (.int (0 : Int32))] (.int (0 : Int32)) := Arv.set Ar6 q6 Sz6 Ng6 Hs6 Ft6 (fits_nar_char (6158 : Int32)) W6 4 rfl (Nat.le_of_ble_eq_true rfl)
    have K6 := K5.wr W6 (Or.inr sz_nb1)
    have N6 := Fr.snoc X6 N5 g_nb1
    refine Goes.pre (U' := T6.setTop (mkF m 44 #[.val (.int x), .unset] [(.int (8192 : Int32)), (.int (5 : Int32)), (.ref nb1), (.ref nb1)])) (fun t k => st6 t (XS.dup X6.here hx rfl (hb hby d1_39) rfl rfl (XS.iconst X6.here hx rfl (hb hby d1_40) (XS.sipush X6.here hx rfl (hb hby d1_41) k)))) ?_
    obtain ⟨cl7, Ar7, q7, Sz7, Ng7, Hs7, Ft7⟩ := id V_nb1
    obtain ⟨T7, h7, X7, e7, W7, st7⟩ := stC X6 hx hZ e6 Ar7 (j := (5 : Int32)) (inb_of Sz7 ⟨by decide, by decide⟩) (g := (mkF m 44 #[.val (.int x), .unset] [(.int (8192 : Int32)), (.int (5 : Int32)), (.ref nb1), (.ref nb1)])) rfl rfl (hb hby d1_44)
    have E_nb1 := E_nb1.wr W7
    have Z7 : n0 ≤ h7.size := Nat.le_trans Z6 (Keep.of_wr W7).1
    have V_nb1 : Arv Z h7 nb1 k1 .char (19 : Int32) [(.int (nar .char (32 : Int32))), (.int (nar .char (9 : Int32))), (.int (nar .char (160 : Int32))), (.int (nar .char (5760 : Int32))), (.int (nar .char (6158 : Int32))), (.int (nar .char (8192 : Int32))), (.int (0 : Int32)), (.int (0 : Int32)), (.int (0 : Int32)), (.int (0 : Int32)), (.int (0 : Int32)), (.int (0 : Int32)), (.int (0 : Int32)), (.int (0 : Int32)), (.int (0 : Int32)), (.int (0 : Int32)), (.int (0 : Int32)), (.int (0 : Int32)), (.int (0 : Int32))] (.int (0 : Int32)) := Arv.set Ar7 q7 Sz7 Ng7 Hs7 Ft7 (fits_nar_char (8192 : Int32)) W7 5 rfl (Nat.le_of_ble_eq_true rfl)
    have K7 := K6.wr W7 (Or.inr sz_nb1)
    have N7 := Fr.snoc X7 N6 g_nb1
    refine Goes.pre (U' := T7.setTop (mkF m 51 #[.val (.int x), .unset] [(.int (8193 : Int32)), (.int (6 : Int32)), (.ref nb1), (.ref nb1)])) (fun t k => st7 t (XS.dup X7.here hx rfl (hb hby d1_45) rfl rfl (XS.bipush X7.here hx rfl (hb hby d1_46) (XS.sipush X7.here hx rfl (hb hby d1_48) k)))) ?_
    obtain ⟨cl8, Ar8, q8, Sz8, Ng8, Hs8, Ft8⟩ := id V_nb1
    obtain ⟨T8, h8, X8, e8, W8, st8⟩ := stC X7 hx hZ e7 Ar8 (j := (6 : Int32)) (inb_of Sz8 ⟨by decide, by decide⟩) (g := (mkF m 51 #[.val (.int x), .unset] [(.int (8193 : Int32)), (.int (6 : Int32)), (.ref nb1), (.ref nb1)])) rfl rfl (hb hby d1_51)
    have E_nb1 := E_nb1.wr W8
    have Z8 : n0 ≤ h8.size := Nat.le_trans Z7 (Keep.of_wr W8).1
    have V_nb1 : Arv Z h8 nb1 k1 .char (19 : Int32) [(.int (nar .char (32 : Int32))), (.int (nar .char (9 : Int32))), (.int (nar .char (160 : Int32))), (.int (nar .char (5760 : Int32))), (.int (nar .char (6158 : Int32))), (.int (nar .char (8192 : Int32))), (.int (nar .char (8193 : Int32))), (.int (0 : Int32)), (.int (0 : Int32)), (.int (0 : Int32)), (.int (0 : Int32)), (.int (0 : Int32)), (.int (0 : Int32)), (.int (0 : Int32)), (.int (0 : Int32)), (.int (0 : Int32)), (.int (0 : Int32)), (.int (0 : Int32)), (.int (0 : Int32))] (.int (0 : Int32)) := Arv.set Ar8 q8 Sz8 Ng8 Hs8 Ft8 (fits_nar_char (8193 : Int32)) W8 6 rfl (Nat.le_of_ble_eq_true rfl)
    have K8 := K7.wr W8 (Or.inr sz_nb1)
    have N8 := Fr.snoc X8 N7 g_nb1
    refine Goes.pre (U' := T8.setTop (mkF m 58 #[.val (.int x), .unset] [(.int (8194 : Int32)), (.int (7 : Int32)), (.ref nb1), (.ref nb1)])) (fun t k => st8 t (XS.dup X8.here hx rfl (hb hby d1_52) rfl rfl (XS.bipush X8.here hx rfl (hb hby d1_53) (XS.sipush X8.here hx rfl (hb hby d1_55) k)))) ?_
    obtain ⟨cl9, Ar9, q9, Sz9, Ng9, Hs9, Ft9⟩ := id V_nb1
    obtain ⟨T9, h9, X9, e9, W9, st9⟩ := stC X8 hx hZ e8 Ar9 (j := (7 : Int32)) (inb_of Sz9 ⟨by decide, by decide⟩) (g := (mkF m 58 #[.val (.int x), .unset] [(.int (8194 : Int32)), (.int (7 : Int32)), (.ref nb1), (.ref nb1)])) rfl rfl (hb hby d1_58)
    have E_nb1 := E_nb1.wr W9
    have Z9 : n0 ≤ h9.size := Nat.le_trans Z8 (Keep.of_wr W9).1
    have V_nb1 : Arv Z h9 nb1 k1 .char (19 : Int32) [(.int (nar .char (32 : Int32))), (.int (nar .char (9 : Int32))), (.int (nar .char (160 : Int32))), (.int (nar .char (5760 : Int32))), (.int (nar .char (6158 : Int32))), (.int (nar .char (8192 : Int32))), (.int (nar .char (8193 : Int32))), (.int (nar .char (8194 : Int32))), (.int (0 : Int32)), (.int (0 : Int32)), (.int (0 : Int32)), (.int (0 : Int32)), (.int (0 : Int32)), (.int (0 : Int32)), (.int (0 : Int32)), (.int (0 : Int32)), (.int (0 : Int32)), (.int (0 : Int32)), (.int (0 : Int32))] (.int (0 : Int32)) := Arv.set Ar9 q9 Sz9 Ng9 Hs9 Ft9 (fits_nar_char (8194 : Int32)) W9 7 rfl (Nat.le_of_ble_eq_true rfl)
    have K9 := K8.wr W9 (Or.inr sz_nb1)
    have N9 := Fr.snoc X9 N8 g_nb1
    refine Goes.pre (U' := T9.setTop (mkF m 65 #[.val (.int x), .unset] [(.int (8195 : Int32)), (.int (8 : Int32)), (.ref nb1), (.ref nb1)])) (fun t k => st9 t (XS.dup X9.here hx rfl (hb hby d1_59) rfl rfl (XS.bipush X9.here hx rfl (hb hby d1_60) (XS.sipush X9.here hx rfl (hb hby d1_62) k)))) ?_
    obtain ⟨cl10, Ar10, q10, Sz10, Ng10, Hs10, Ft10⟩ := id V_nb1
    obtain ⟨T10, h10, X10, e10, W10, st10⟩ := stC X9 hx hZ e9 Ar10 (j := (8 : Int32)) (inb_of Sz10 ⟨by decide, by decide⟩) (g := (mkF m 65 #[.val (.int x), .unset] [(.int (8195 : Int32)), (.int (8 : Int32)), (.ref nb1), (.ref nb1)])) rfl rfl (hb hby d1_65)
    have E_nb1 := E_nb1.wr W10
    have Z10 : n0 ≤ h10.size := Nat.le_trans Z9 (Keep.of_wr W10).1
    have V_nb1 : Arv Z h10 nb1 k1 .char (19 : Int32) [(.int (nar .char (32 : Int32))), (.int (nar .char (9 : Int32))), (.int (nar .char (160 : Int32))), (.int (nar .char (5760 : Int32))), (.int (nar .char (6158 : Int32))), (.int (nar .char (8192 : Int32))), (.int (nar .char (8193 : Int32))), (.int (nar .char (8194 : Int32))), (.int (nar .char (8195 : Int32))), (.int (0 : Int32)), (.int (0 : Int32)), (.int (0 : Int32)), (.int (0 : Int32)), (.int (0 : Int32)), (.int (0 : Int32)), (.int (0 : Int32)), (.int (0 : Int32)), (.int (0 : Int32)), (.int (0 : Int32))] (.int (0 : Int32)) := Arv.set Ar10 q10 Sz10 Ng10 Hs10 Ft10 (fits_nar_char (8195 : Int32)) W10 8 rfl (Nat.le_of_ble_eq_true rfl)
    have K10 := K9.wr W10 (Or.inr sz_nb1)
    have N10 := Fr.snoc X10 N9 g_nb1
    refine Goes.pre (U' := T10.setTop (mkF m 72 #[.val (.int x), .unset] [(.int (8196 : Int32)), (.int (9 : Int32)), (.ref nb1), (.ref nb1)])) (fun t k => st10 t (XS.dup X10.here hx rfl (hb hby d1_66) rfl rfl (XS.bipush X10.here hx rfl (hb hby d1_67) (XS.sipush X10.here hx rfl (hb hby d1_69) k)))) ?_
    obtain ⟨cl11, Ar11, q11, Sz11, Ng11, Hs11, Ft11⟩ := id V_nb1
    obtain ⟨T11, h11, X11, e11, W11, st11⟩ := stC X10 hx hZ e10 Ar11 (j := (9 : Int32)) (inb_of Sz11 ⟨by decide, by decide⟩) (g := (mkF m 72 #[.val (.int x), .unset] [(.int (8196 : Int32)), (.int (9 : Int32)), (.ref nb1), (.ref nb1)])) rfl rfl (hb hby d1_72)
    have E_nb1 := E_nb1.wr W11
    have Z11 : n0 ≤ h11.size := Nat.le_trans Z10 (Keep.of_wr W11).1
    have V_nb1 : Arv Z h11 nb1 k1 .char (19 : Int32) [(.int (nar .char (32 : Int32))), (.int (nar .char (9 : Int32))), (.int (nar .char (160 : Int32))), (.int (nar .char (5760 : Int32))), (.int (nar .char (6158 : Int32))), (.int (nar .char (8192 : Int32))), (.int (nar .char (8193 : Int32))), (.int (nar .char (8194 : Int32))), (.int (nar .char (8195 : Int32))), (.int (nar .char (8196 : Int32))), (.int (0 : Int32)), (.int (0 : Int32)), (.int (0 : Int32)), (.int (0 : Int32)), (.int (0 : Int32)), (.int (0 : Int32)), (.int (0 : Int32)), (.int (0 : Int32)), (.int (0 : Int32))] (.int (0 : Int32)) := Arv.set Ar11 q11 Sz11 Ng11 Hs11 Ft11 (fits_nar_char (8196 : Int32)) W11 9 rfl (Nat.le_of_ble_eq_true rfl)
    have K11 := K10.wr W11 (Or.inr sz_nb1)
    have N11 := Fr.snoc X11 N10 g_nb1
    refine Goes.pre (U' := T11.setTop (mkF m 79 #[.val (.int x), .unset] [(.int (8197 : Int32)), (.int (10 : Int32)), (.ref nb1), (.ref nb1)])) (fun t k => st11 t (XS.dup X11.here hx rfl (hb hby d1_73) rfl rfl (XS.bipush X11.here hx rfl (hb hby d1_74) (XS.sipush X11.here hx rfl (hb hby d1_76) k)))) ?_
    obtain ⟨cl12, Ar12, q12, Sz12, Ng12, Hs12, Ft12⟩ := id V_nb1
    obtain ⟨T12, h12, X12, e12, W12, st12⟩ := stC X11 hx hZ e11 Ar12 (j := (10 : Int32)) (inb_of Sz12 ⟨by decide, by decide⟩) (g := (mkF m 79 #[.val (.int x), .unset] [(.int (8197 : Int32)), (.int (10 : Int32)), (.ref nb1), (.ref nb1)])) rfl rfl (hb hby d1_79)
    have E_nb1 := E_nb1.wr W12
    have Z12 : n0 ≤ h12.size := Nat.le_trans Z11 (Keep.of_wr W12).1
    have V_nb1 : Arv Z h12 nb1 k1 .char (19 : Int32) [(.int (nar .char (32 : Int32))), (.int (nar .char (9 : Int32))), (.int (nar .char (160 : Int32))), (.int (nar .char (5760 : Int32))), (.int (nar .char (6158 : Int32))), (.int (nar .char (8192 : Int32))), (.int (nar .char (8193 : Int32))), (.int (nar .char (8194 : Int32))), (.int (nar .char (8195 : Int32))), (.int (nar .char (8196 : Int32))), (.int (nar .char (8197 : Int32))), (.int (0 : Int32)), (.int (0 : Int32)), (.int (0 : Int32)), (.int (0 : Int32)), (.int (0 : Int32)), (.int (0 : Int32)), (.int (0 : Int32)), (.int (0 : Int32))] (.int (0 : Int32)) := Arv.set Ar12 q12 Sz12 Ng12 Hs12 Ft12 (fits_nar_char (8197 : Int32)) W12 10 rfl (Nat.le_of_ble_eq_true rfl)
    have K12 := K11.wr W12 (Or.inr sz_nb1)
    have N12 := Fr.snoc X12 N11 g_nb1
    refine Goes.pre (U' := T12.setTop (mkF m 86 #[.val (.int x), .unset] [(.int (8198 : Int32)), (.int (11 : Int32)), (.ref nb1), (.ref nb1)])) (fun t k => st12 t (XS.dup X12.here hx rfl (hb hby d1_80) rfl rfl (XS.bipush X12.here hx rfl (hb hby d1_81) (XS.sipush X12.here hx rfl (hb hby d1_83) k)))) ?_
    obtain ⟨cl13, Ar13, q13, Sz13, Ng13, Hs13, Ft13⟩ := id V_nb1
    obtain ⟨T13, h13, X13, e13, W13, st13⟩ := stC X12 hx hZ e12 Ar13 (j := (11 : Int32)) (inb_of Sz13 ⟨by decide, by decide⟩) (g := (mkF m 86 #[.val (.int x), .unset] [(.int (8198 : Int32)), (.int (11 : Int32)), (.ref nb1), (.ref nb1)])) rfl rfl (hb hby d1_86)
    have E_nb1 := E_nb1.wr W13
    have Z13 : n0 ≤ h13.size := Nat.le_trans Z12 (Keep.of_wr W13).1
    have V_nb1 : Arv Z h13 nb1 k1 .char (19 : Int32) [(.int (nar .char (32 : Int32))), (.int (nar .char (9 : Int32))), (.int (nar .char (160 : Int32))), (.int (nar .char (5760 : Int32))), (.int (nar .char (6158 : Int32))), (.int (nar .char (8192 : Int32))), (.int (nar .char (8193 : Int32))), (.int (nar .char (8194 : Int32))), (.int (nar .char (8195 : Int32))), (.int (nar .char (8196 : Int32))), (.int (nar .char (8197 : Int32))), (.int (nar .char (8198 : Int32))), (.int (0 : Int32)), (.int (0 : Int32)), (.int (0 : Int32)), (.int (0 : Int32)), (.int (0 : Int32)), (.int (0 : Int32)), (.int (0 : Int32))] (.int (0 : Int32)) := Arv.set Ar13 q13 Sz13 Ng13 Hs13 Ft13 (fits_nar_char (8198 : Int32)) W13 11 rfl (Nat.le_of_ble_eq_true rfl)
    have K13 := K12.wr W13 (Or.inr sz_nb1)
    have N13 := Fr.snoc X13 N12 g_nb1
    refine Goes.pre (U' := T13.setTop (mkF m 93 #[.val (.int x), .unset] [(.int (8199 : Int32)), (.int (12 : Int32)), (.ref nb1), (.ref nb1)])) (fun t k => st13 t (XS.dup X13.here hx rfl (hb hby d1_87) rfl rfl (XS.bipush X13.here hx rfl (hb hby d1_88) (XS.sipush X13.here hx rfl (hb hby d1_90) k)))) ?_
    obtain ⟨cl14, Ar14, q14, Sz14, Ng14, Hs14, Ft14⟩ := id V_nb1
    obtain ⟨T14, h14, X14, e14, W14, st14⟩ := stC X13 hx hZ e13 Ar14 (j := (12 : Int32)) (inb_of Sz14 ⟨by decide, by decide⟩) (g := (mkF m 93 #[.val (.int x), .unset] [(.int (8199 : Int32)), (.int (12 : Int32)), (.ref nb1), (.ref nb1)])) rfl rfl (hb hby d1_93)
    have E_nb1 := E_nb1.wr W14
    have Z14 : n0 ≤ h14.size := Nat.le_trans Z13 (Keep.of_wr W14).1
    have V_nb1 : Arv Z h14 nb1 k1 .char (19 : Int32) [(.int (nar .char (32 : Int32))), (.int (nar .char (9 : Int32))), (.int (nar .char (160 : Int32))), (.int (nar .char (5760 : Int32))), (.int (nar .char (6158 : Int32))), (.int (nar .char (8192 : Int32))), (.int (nar .char (8193 : Int32))), (.int (nar .char (8194 : Int32))), (.int (nar .char (8195 : Int32))), (.int (nar .char (8196 : Int32))), (.int (nar .char (8197 : Int32))), (.int (nar .char (8198 : Int32))), (.int (nar .char (8199 : Int32))), (.int (0 : Int32)), (.int (0 : Int32)), (.int (0 : Int32)), (.int (0 : Int32)), (.int (0 : Int32)), (.int (0 : Int32))] (.int (0 : Int32)) := Arv.set Ar14 q14 Sz14 Ng14 Hs14 Ft14 (fits_nar_char (8199 : Int32)) W14 12 rfl (Nat.le_of_ble_eq_true rfl)
    have K14 := K13.wr W14 (Or.inr sz_nb1)
    have N14 := Fr.snoc X14 N13 g_nb1
    refine Goes.pre (U' := T14.setTop (mkF m 100 #[.val (.int x), .unset] [(.int (8200 : Int32)), (.int (13 : Int32)), (.ref nb1), (.ref nb1)])) (fun t k => st14 t (XS.dup X14.here hx rfl (hb hby d1_94) rfl rfl (XS.bipush X14.here hx rfl (hb hby d1_95) (XS.sipush X14.here hx rfl (hb hby d1_97) k)))) ?_
    obtain ⟨cl15, Ar15, q15, Sz15, Ng15, Hs15, Ft15⟩ := id V_nb1
    obtain ⟨T15, h15, X15, e15, W15, st15⟩ := stC X14 hx hZ e14 Ar15 (j := (13 : Int32)) (inb_of Sz15 ⟨by decide, by decide⟩) (g := (mkF m 100 #[.val (.int x), .unset] [(.int (8200 : Int32)), (.int (13 : Int32)), (.ref nb1), (.ref nb1)])) rfl rfl (hb hby d1_100)
    have E_nb1 := E_nb1.wr W15
    have Z15 : n0 ≤ h15.size := Nat.le_trans Z14 (Keep.of_wr W15).1
    have V_nb1 : Arv Z h15 nb1 k1 .char (19 : Int32) [(.int (nar .char (32 : Int32))), (.int (nar .char (9 : Int32))), (.int (nar .char (160 : Int32))), (.int (nar .char (5760 : Int32))), (.int (nar .char (6158 : Int32))), (.int (nar .char (8192 : Int32))), (.int (nar .char (8193 : Int32))), (.int (nar .char (8194 : Int32))), (.int (nar .char (8195 : Int32))), (.int (nar .char (8196 : Int32))), (.int (nar .char (8197 : Int32))), (.int (nar .char (8198 : Int32))), (.int (nar .char (8199 : Int32))), (.int (nar .char (8200 : Int32))), (.int (0 : Int32)), (.int (0 : Int32)), (.int (0 : Int32)), (.int (0 : Int32)), (.int (0 : Int32))] (.int (0 : Int32)) := Arv.set Ar15 q15 Sz15 Ng15 Hs15 Ft15 (fits_nar_char (8200 : Int32)) W15 13 rfl (Nat.le_of_ble_eq_true rfl)
    have K15 := K14.wr W15 (Or.inr sz_nb1)
    have N15 := Fr.snoc X15 N14 g_nb1
    refine Goes.pre (U' := T15.setTop (mkF m 107 #[.val (.int x), .unset] [(.int (8201 : Int32)), (.int (14 : Int32)), (.ref nb1), (.ref nb1)])) (fun t k => st15 t (XS.dup X15.here hx rfl (hb hby d1_101) rfl rfl (XS.bipush X15.here hx rfl (hb hby d1_102) (XS.sipush X15.here hx rfl (hb hby d1_104) k)))) ?_
    obtain ⟨cl16, Ar16, q16, Sz16, Ng16, Hs16, Ft16⟩ := id V_nb1
    obtain ⟨T16, h16, X16, e16, W16, st16⟩ := stC X15 hx hZ e15 Ar16 (j := (14 : Int32)) (inb_of Sz16 ⟨by decide, by decide⟩) (g := (mkF m 107 #[.val (.int x), .unset] [(.int (8201 : Int32)), (.int (14 : Int32)), (.ref nb1), (.ref nb1)])) rfl rfl (hb hby d1_107)
    have E_nb1 := E_nb1.wr W16
    have Z16 : n0 ≤ h16.size := Nat.le_trans Z15 (Keep.of_wr W16).1
    have V_nb1 : Arv Z h16 nb1 k1 .char (19 : Int32) [(.int (nar .char (32 : Int32))), (.int (nar .char (9 : Int32))), (.int (nar .char (160 : Int32))), (.int (nar .char (5760 : Int32))), (.int (nar .char (6158 : Int32))), (.int (nar .char (8192 : Int32))), (.int (nar .char (8193 : Int32))), (.int (nar .char (8194 : Int32))), (.int (nar .char (8195 : Int32))), (.int (nar .char (8196 : Int32))), (.int (nar .char (8197 : Int32))), (.int (nar .char (8198 : Int32))), (.int (nar .char (8199 : Int32))), (.int (nar .char (8200 : Int32))), (.int (nar .char (8201 : Int32))), (.int (0 : Int32)), (.int (0 : Int32)), (.int (0 : Int32)), (.int (0 : Int32))] (.int (0 : Int32)) := Arv.set Ar16 q16 Sz16 Ng16 Hs16 Ft16 (fits_nar_char (8201 : Int32)) W16 14 rfl (Nat.le_of_ble_eq_true rfl)
    have K16 := K15.wr W16 (Or.inr sz_nb1)
    have N16 := Fr.snoc X16 N15 g_nb1
    refine Goes.pre (U' := T16.setTop (mkF m 114 #[.val (.int x), .unset] [(.int (8202 : Int32)), (.int (15 : Int32)), (.ref nb1), (.ref nb1)])) (fun t k => st16 t (XS.dup X16.here hx rfl (hb hby d1_108) rfl rfl (XS.bipush X16.here hx rfl (hb hby d1_109) (XS.sipush X16.here hx rfl (hb hby d1_111) k)))) ?_
    obtain ⟨cl17, Ar17, q17, Sz17, Ng17, Hs17, Ft17⟩ := id V_nb1
    obtain ⟨T17, h17, X17, e17, W17, st17⟩ := stC X16 hx hZ e16 Ar17 (j := (15 : Int32)) (inb_of Sz17 ⟨by decide, by decide⟩) (g := (mkF m 114 #[.val (.int x), .unset] [(.int (8202 : Int32)), (.int (15 : Int32)), (.ref nb1), (.ref nb1)])) rfl rfl (hb hby d1_114)
    have E_nb1 := E_nb1.wr W17
    have Z17 : n0 ≤ h17.size := Nat.le_trans Z16 (Keep.of_wr W17).1
    have V_nb1 : Arv Z h17 nb1 k1 .char (19 : Int32) [(.int (nar .char (32 : Int32))), (.int (nar .char (9 : Int32))), (.int (nar .char (160 : Int32))), (.int (nar .char (5760 : Int32))), (.int (nar .char (6158 : Int32))), (.int (nar .char (8192 : Int32))), (.int (nar .char (8193 : Int32))), (.int (nar .char (8194 : Int32))), (.int (nar .char (8195 : Int32))), (.int (nar .char (8196 : Int32))), (.int (nar .char (8197 : Int32))), (.int (nar .char (8198 : Int32))), (.int (nar .char (8199 : Int32))), (.int (nar .char (8200 : Int32))), (.int (nar .char (8201 : Int32))), (.int (nar .char (8202 : Int32))), (.int (0 : Int32)), (.int (0 : Int32)), (.int (0 : Int32))] (.int (0 : Int32)) := Arv.set Ar17 q17 Sz17 Ng17 Hs17 Ft17 (fits_nar_char (8202 : Int32)) W17 15 rfl (Nat.le_of_ble_eq_true rfl)
    have K17 := K16.wr W17 (Or.inr sz_nb1)
    have N17 := Fr.snoc X17 N16 g_nb1
    refine Goes.pre (U' := T17.setTop (mkF m 121 #[.val (.int x), .unset] [(.int (8239 : Int32)), (.int (16 : Int32)), (.ref nb1), (.ref nb1)])) (fun t k => st17 t (XS.dup X17.here hx rfl (hb hby d1_115) rfl rfl (XS.bipush X17.here hx rfl (hb hby d1_116) (XS.sipush X17.here hx rfl (hb hby d1_118) k)))) ?_
    obtain ⟨cl18, Ar18, q18, Sz18, Ng18, Hs18, Ft18⟩ := id V_nb1
    obtain ⟨T18, h18, X18, e18, W18, st18⟩ := stC X17 hx hZ e17 Ar18 (j := (16 : Int32)) (inb_of Sz18 ⟨by decide, by decide⟩) (g := (mkF m 121 #[.val (.int x), .unset] [(.int (8239 : Int32)), (.int (16 : Int32)), (.ref nb1), (.ref nb1)])) rfl rfl (hb hby d1_121)
    have E_nb1 := E_nb1.wr W18
    have Z18 : n0 ≤ h18.size := Nat.le_trans Z17 (Keep.of_wr W18).1
    have V_nb1 : Arv Z h18 nb1 k1 .char (19 : Int32) [(.int (nar .char (32 : Int32))), (.int (nar .char (9 : Int32))), (.int (nar .char (160 : Int32))), (.int (nar .char (5760 : Int32))), (.int (nar .char (6158 : Int32))), (.int (nar .char (8192 : Int32))), (.int (nar .char (8193 : Int32))), (.int (nar .char (8194 : Int32))), (.int (nar .char (8195 : Int32))), (.int (nar .char (8196 : Int32))), (.int (nar .char (8197 : Int32))), (.int (nar .char (8198 : Int32))), (.int (nar .char (8199 : Int32))), (.int (nar .char (8200 : Int32))), (.int (nar .char (8201 : Int32))), (.int (nar .char (8202 : Int32))), (.int (nar .char (8239 : Int32))), (.int (0 : Int32)), (.int (0 : Int32))] (.int (0 : Int32)) := Arv.set Ar18 q18 Sz18 Ng18 Hs18 Ft18 (fits_nar_char (8239 : Int32)) W18 16 rfl (Nat.le_of_ble_eq_true rfl)
    have K18 := K17.wr W18 (Or.inr sz_nb1)
    have N18 := Fr.snoc X18 N17 g_nb1
    refine Goes.pre (U' := T18.setTop (mkF m 128 #[.val (.int x), .unset] [(.int (8287 : Int32)), (.int (17 : Int32)), (.ref nb1), (.ref nb1)])) (fun t k => st18 t (XS.dup X18.here hx rfl (hb hby d1_122) rfl rfl (XS.bipush X18.here hx rfl (hb hby d1_123) (XS.sipush X18.here hx rfl (hb hby d1_125) k)))) ?_
    obtain ⟨cl19, Ar19, q19, Sz19, Ng19, Hs19, Ft19⟩ := id V_nb1
    obtain ⟨T19, h19, X19, e19, W19, st19⟩ := stC X18 hx hZ e18 Ar19 (j := (17 : Int32)) (inb_of Sz19 ⟨by decide, by decide⟩) (g := (mkF m 128 #[.val (.int x), .unset] [(.int (8287 : Int32)), (.int (17 : Int32)), (.ref nb1), (.ref nb1)])) rfl rfl (hb hby d1_128)
    have E_nb1 := E_nb1.wr W19
    have Z19 : n0 ≤ h19.size := Nat.le_trans Z18 (Keep.of_wr W19).1
    have V_nb1 : Arv Z h19 nb1 k1 .char (19 : Int32) [(.int (nar .char (32 : Int32))), (.int (nar .char (9 : Int32))), (.int (nar .char (160 : Int32))), (.int (nar .char (5760 : Int32))), (.int (nar .char (6158 : Int32))), (.int (nar .char (8192 : Int32))), (.int (nar .char (8193 : Int32))), (.int (nar .char (8194 : Int32))), (.int (nar .char (8195 : Int32))), (.int (nar .char (8196 : Int32))), (.int (nar .char (8197 : Int32))), (.int (nar .char (8198 : Int32))), (.int (nar .char (8199 : Int32))), (.int (nar .char (8200 : Int32))), (.int (nar .char (8201 : Int32))), (.int (nar .char (8202 : Int32))), (.int (nar .char (8239 : Int32))), (.int (nar .char (8287 : Int32))), (.int (0 : Int32))] (.int (0 : Int32)) := Arv.set Ar19 q19 Sz19 Ng19 Hs19 Ft19 (fits_nar_char (8287 : Int32)) W19 17 rfl (Nat.le_of_ble_eq_true rfl)
    have K19 := K18.wr W19 (Or.inr sz_nb1)
    have N19 := Fr.snoc X19 N18 g_nb1
    refine Goes.pre (U' := T19.setTop (mkF m 135 #[.val (.int x), .unset] [(.int (12288 : Int32)), (.int (18 : Int32)), (.ref nb1), (.ref nb1)])) (fun t k => st19 t (XS.dup X19.here hx rfl (hb hby d1_129) rfl rfl (XS.bipush X19.here hx rfl (hb hby d1_130) (XS.sipush X19.here hx rfl (hb hby d1_132) k)))) ?_
    obtain ⟨cl20, Ar20, q20, Sz20, Ng20, Hs20, Ft20⟩ := id V_nb1
    obtain ⟨T20, h20, X20, e20, W20, st20⟩ := stC X19 hx hZ e19 Ar20 (j := (18 : Int32)) (inb_of Sz20 ⟨by decide, by decide⟩) (g := (mkF m 135 #[.val (.int x), .unset] [(.int (12288 : Int32)), (.int (18 : Int32)), (.ref nb1), (.ref nb1)])) rfl rfl (hb hby d1_135)
    have E_nb1 := E_nb1.wr W20
    have Z20 : n0 ≤ h20.size := Nat.le_trans Z19 (Keep.of_wr W20).1
    have V_nb1 : Arv Z h20 nb1 k1 .char (19 : Int32) [(.int (nar .char (32 : Int32))), (.int (nar .char (9 : Int32))), (.int (nar .char (160 : Int32))), (.int (nar .char (5760 : Int32))), (.int (nar .char (6158 : Int32))), (.int (nar .char (8192 : Int32))), (.int (nar .char (8193 : Int32))), (.int (nar .char (8194 : Int32))), (.int (nar .char (8195 : Int32))), (.int (nar .char (8196 : Int32))), (.int (nar .char (8197 : Int32))), (.int (nar .char (8198 : Int32))), (.int (nar .char (8199 : Int32))), (.int (nar .char (8200 : Int32))), (.int (nar .char (8201 : Int32))), (.int (nar .char (8202 : Int32))), (.int (nar .char (8239 : Int32))), (.int (nar .char (8287 : Int32))), (.int (nar .char (12288 : Int32)))] (.int (0 : Int32)) := Arv.set Ar20 q20 Sz20 Ng20 Hs20 Ft20 (fits_nar_char (12288 : Int32)) W20 18 rfl (Nat.le_of_ble_eq_true rfl)
    have K20 := K19.wr W20 (Or.inr sz_nb1)
    have N20 := Fr.snoc X20 N19 g_nb1
    refine Goes.pre (U' := T20.setTop (mkF m 147 #[.val (.int x), .val (.ref nb1)] [(.ref nb1), (.int (((x.toUInt32 >>> ((17 : Int32) &&& 31).toUInt32).toInt32) &&& (32767 : Int32))), (.ref nb1)])) (fun t k => st20 t (XS.astoreN X20.here hx rfl (hb hby d1_136) rfl rfl (l' := #[.val (.int x), .val (.ref nb1)]) rfl (XS.aloadN X20.here hx rfl (hb hby d1_137) rfl rfl (XS.iloadN X20.here hx rfl (hb hby d1_138) rfl (XS.bipush X20.here hx rfl (hb hby d1_139) (XS.iushr X20.here hx rfl (hb hby d1_141) rfl (XS.sipush X20.here hx rfl (hb hby d1_142) (XS.iand X20.here hx rfl (hb hby d1_145) rfl (XS.aloadN X20.here hx rfl (hb hby d1_146) rfl rfl k))))))))) ?_
    obtain ⟨cl21, Ar21, q21, Sz21, Ng21, -, -⟩ := id V_nb1
    have ln21 := len_of Sz21 Ng21
    refine Goes.pre (U' := T20.setTop (mkF m 149 #[.val (.int x), .val (.ref nb1)] [(.int ((((x.toUInt32 >>> ((17 : Int32) &&& 31).toUInt32).toInt32) &&& (32767 : Int32)) % (19 : Int32))), (.ref nb1)])) (fun t k => X20.arraylength hx (by rw [e20]; exact Ar21.1) (State.isArrayOf_alike hZ.alike Ar21.2.1) (g := (mkF m 147 #[.val (.int x), .val (.ref nb1)] [(.ref nb1), (.int (((x.toUInt32 >>> ((17 : Int32) &&& 31).toUInt32).toInt32) &&& (32767 : Int32))), (.ref nb1)])) rfl rfl (hb hby d1_147) _ (by rw [ln21]; exact (Jvm.RoadKit.iremM X20 hx rfl (hb hby d1_148) rfl (by decide) k))) ?_
    obtain ⟨qq, hqq, hgq⟩ := own_sp (((((x.toUInt32 >>> ((17 : Int32) &&& 31).toUInt32).toInt32) &&& (32767 : Int32)) % (19 : Int32))).toNatClampNeg
    obtain ⟨cl22, Ar22, q22, Sz22, Ng22, Hs22, Ft22⟩ := id V_nb1
    have hin22 := inb_of (j := ((((x.toUInt32 >>> ((17 : Int32) &&& 31).toUInt32).toInt32) &&& (32767 : Int32)) % (19 : Int32))) Sz22 (own_ix x)
    refine Goes.pre (U' := T20.setTop (mkF m 150 #[.val (.int x), .val (.ref nb1)] [(.int qq)])) (fun t k => X20.caload hx (j := ((((x.toUInt32 >>> ((17 : Int32) &&& 31).toUInt32).toInt32) &&& (32767 : Int32)) % (19 : Int32))) (v := (.int qq)) (by rw [e20]; exact Ar22.1) (State.isArrayOf_alike hZ.alike Ar22.2.1) Ar22.2.2 hin22 (Has.at Hs22 hin22 hgq) (g := (mkF m 149 #[.val (.int x), .val (.ref nb1)] [(.int ((((x.toUInt32 >>> ((17 : Int32) &&& 31).toUInt32).toInt32) &&& (32767 : Int32)) % (19 : Int32))), (.ref nb1)])) rfl rfl (hb hby d1_149) _ k) ?_
    refine Goes.ret X20 (v := (some (.int qq))) (fun h => by rw [hret] at h; cases h) hlk (by decide) (by decide) e20 (fun fs hr => retN X20 hx (t := .char) hret (by simp) (hb hby d1_150) (by rw [show nar .char qq = qq from own_nch _ hqq]; exact hr)) ?_
    exact ⟨qq, rfl, N20, K20, hqq⟩
theorem ef_rm_init4_0 (m : MethodId) (x0 : Addr) (x1 : Addr) (x2 : Int32) (x3 : Int32) : entryFrame m #[(.ref x0), (.ref x1), (.int x2), (.int x3), .null] 6 = mkF m 0 #[.val (.ref x0), .val (.ref x1), .val (.int x2), .val (.int x3), .val .null, .unset] [] := by first | (simp [entryFrame, mkF, argsToLocals, Value.category]; done) | rfl
theorem d4_8 : decode jdk_42_method_149_code 8 = .ok (.aload_n 0, 1) := by decide +kernel
theorem d4_9 : decode jdk_42_method_149_code 9 = .ok (.ldc 7, 2) := by decide +kernel
theorem d4_11 : decode jdk_42_method_149_code 11 = .ok (.getfield 9, 3) := by decide +kernel
theorem d4_14 : decode jdk_42_method_149_code 14 = .ok (.putfield 9, 3) := by decide +kernel
theorem d4_17 : decode jdk_42_method_149_code 17 = .ok (.aload_n 0, 1) := by decide +kernel
theorem d4_18 : decode jdk_42_method_149_code 18 = .ok (.ldc 7, 2) := by decide +kernel
theorem d4_20 : decode jdk_42_method_149_code 20 = .ok (.getfield 15, 3) := by decide +kernel
theorem d4_23 : decode jdk_42_method_149_code 23 = .ok (.putfield 15, 3) := by decide +kernel
theorem d4_26 : decode jdk_42_method_149_code 26 = .ok (.return_, 1) := by decide +kernel
def Q_rm_init4_0 (Z : State) (a : Addr) (d : Addr) (h0 : Heap) (n0 : Nat) (v : Option Value) (h : Heap) (L : List Loc) : Prop := ∃ (b : Addr) (kb : ClassId), v = none ∧ Fr n0 L ∧ Keep h0 h [a] ∧ OwnStr Z h a b kb []
set_option maxRecDepth 65536 in
set_option maxHeartbeats 40000000 in
theorem rm_init4_0 (l : Launch) (Z : State) (a0 : Array Value) (hw : ∀ d ∈ tables_1, d.before a0 Z = true) (hEL : EW Z a0 own_EL) (ws : List Jvm.Cond) (a : Addr) (d : Addr) (h0 : Heap) (n0 : Nat) (Z0 : n0 ≤ h0.size) (E_a : Exa Z h0 a "java/lang/String") (F_value_a : Fld Z h0 a "java/lang/String" "value" "[B" .null) (F_coder_a : Fld Z h0 a "java/lang/String" "coder" "B" (.int (0 : Int32))) (g_a : n0 ≤ a) :
    MetW l Z own_EL M4 jdk_42_method_149_code 6 none ws (Rm 1 2 4 12) #[(.ref a), (.ref d), (.int (0 : Int32)), (.int (0 : Int32)), .null] [a] h0 (Q_rm_init4_0 Z a d h0 n0) := by
  refine metW_of (plainFor_of_name pn_java_lang_String) (own := "java/lang/String") rfl (fun m => ef_rm_init4_0 m a d (0 : Int32) (0 : Int32)) ?_
  intro p e s m below meth c s₁ hx hby hml hown hnm hZ X0 e0 hret hlk H hSf CR hS
  have N0 := Fr.nil n0
  have K0 := Keep.refl h0 [a]
  have hk := Nat.le_refl h0.size
  have SF_a := hSf a (List.mem_of_getElem? (i := 0) rfl)
  show GoesW p e below s Z own_EL _ _ _ (s₁.setTop (mkF m 0 #[.val (.ref a), .val (.ref d), .val (.int (0 : Int32)), .val (.int (0 : Int32)), .val .null, .unset] []))
  refine GoesW.pre (U' := s₁.setTop (mkF m 1 #[.val (.ref a), .val (.ref d), .val (.int (0 : Int32)), .val (.int (0 : Int32)), .val .null, .unset] [(.ref a)])) (fun t k => XS.aloadN X0.here hx rfl (hb hby d4_0) rfl rfl k) ?_
  obtain ⟨T1, X1, e1, st1⟩ := initO X0 hx hZ hown (wq hw 19 rfl) (wq hw 20 rfl) (wq hw 21 rfl) e0 (g := (mkF m 1 #[.val (.ref a), .val (.ref d), .val (.int (0 : Int32)), .val (.int (0 : Int32)), .val .null, .unset] [(.ref a)])) rfl (by rw [hml]; rfl) rfl (hb hby d4_1) (by decide) (W := 0) (by show 2 * 0 + _ ≤ _; exact Nat.le_of_eq rfl) (by decide)
  refine GoesW.pre (U' := T1.setTop (mkF m 5 #[.val (.ref a), .val (.ref d), .val (.int (0 : Int32)), .val (.int (0 : Int32)), .val .null, .unset] [(.int (0 : Int32))])) (fun t k => st1 t (XS.iloadN X1.here hx rfl (hb hby d4_4) rfl k)) ?_
  have hc5 : (0 : Int32) = (0 : Int32) := rfl
  refine GoesW.pre (U' := T1.setTop (mkF m 9 #[.val (.ref a), .val (.ref d), .val (.int (0 : Int32)), .val (.int (0 : Int32)), .val .null, .unset] [(.ref a)])) (fun t k => XS.ifNo X1.here hx rfl (hb hby d4_5) rfl ((if0 _ _).trans (teq hc5).2) (XS.aloadN X1.here hx rfl (hb hby d4_8) rfl rfl k)) ?_
  have lt0_a := E_a.lt
  obtain ⟨ls2, T2, h2, k1_2, lb2, kl2, X2, e2, E2, hS2, hk2, hZ2, hown2, El2, Fc2, Fv2, Av2, lta2, ltb2, CQ2, Li2, Sne2, st2⟩ := ldcCH X1 hx hZ hown (wq hw 22 rfl) (own_atoms hw) e1 hS hk hEL (List.mem_of_getElem? (i := 0) rfl) H (vs := []) (z := (0 : Int32)) ⟨by decide, by decide⟩ (by decide) (by decide) (g := (mkF m 9 #[.val (.ref a), .val (.ref d), .val (.int (0 : Int32)), .val (.int (0 : Int32)), .val .null, .unset] [(.ref a)])) rfl (hb hby d4_9) (n := 0) (by decide) (by decide) (by decide) (by decide)
  have E_a := E_a.ext E2
  have F_value_a := F_value_a.ext E2
  have F_coder_a := F_coder_a.ext E2
  have SF_a : Safe Z own_EL T2.vm h2 a := CQ2.safe lt0_a SF_a
  have Z2 : n0 ≤ h2.size := Nat.le_trans Z0 E2.1
  have K2 := K0.ext E2
  have hS := hS2
  have hk := hk2
  have hZ := hZ2
  have hown := hown2
  have H := CQ2.1
  have CR := CR.trans CQ2
  obtain ⟨ne_a_ls2, ne_a_lb2⟩ := Sne2 a SF_a
  have ne_ls2_a := ne_a_ls2.symm
  have ne_lb2_a := ne_a_lb2.symm
  have E_ls2 := El2
  have F_coder_ls2 := Fc2
  have F_value_ls2 := Fv2
  have V_lb2 := Av2
  have Li_ls2 := Li2
  refine GoesW.pre (U' := T2.setTop (mkF m 11 #[.val (.ref a), .val (.ref d), .val (.int (0 : Int32)), .val (.int (0 : Int32)), .val .null, .unset] [(.ref ls2), (.ref a)])) (fun t k => st2 t k) ?_
  obtain ⟨T3, X3, e3, st3⟩ := getF X2 hx hZ hown (host := "") (Or.inl (wq hw 28 rfl)) Via.refl e2 F_value_ls2 (g := (mkF m 11 #[.val (.ref a), .val (.ref d), .val (.int (0 : Int32)), .val (.int (0 : Int32)), .val .null, .unset] [(.ref ls2), (.ref a)])) rfl rfl (hb hby d4_11)
  refine GoesW.pre (U' := T3.setTop (mkF m 14 #[.val (.ref a), .val (.ref d), .val (.int (0 : Int32)), .val (.int (0 : Int32)), .val .null, .unset] [(.ref lb2), (.ref a)])) (fun t k => st3 t k) ?_
  obtain ⟨T4, h4, X4, e4, W4, st4⟩ := putF X3 hx hZ hown (host := "") (Or.inl (wq hw 28 rfl)) Via.refl e3 F_value_a E_a (Or.inr ⟨(wq hw 24 rfl), rfl, hnm⟩) (wq hw 9 rfl) (ty := (.array .byte)) (by decide) rfl rfl (g := (mkF m 14 #[.val (.ref a), .val (.ref d), .val (.int (0 : Int32)), .val (.int (0 : Int32)), .val .null, .unset] [(.ref lb2), (.ref a)])) rfl rfl (hb hby d4_14)
  have E_a := E_a.wr W4
  have F_coder_a := F_coder_a.other W4 (Or.inr (slot_ne (Or.inr (wq hw 25 rfl)) (Or.inr (wq hw 24 rfl)) (by decide) (t := .byte) (t' := (.array .byte)) (by decide) (by decide)))
  have E_ls2 := E_ls2.wr W4
  have F_coder_ls2 := F_coder_ls2.other W4 (Or.inl ne_ls2_a)
  have F_value_ls2 := F_value_ls2.other W4 (Or.inl ne_ls2_a)
  have V_lb2 := V_lb2.other W4 ne_lb2_a
  have Z4 : n0 ≤ h4.size := Nat.le_trans Z2 (Keep.of_wr W4).1
  have SFo := SF_a
  have SF_a := Safe.wr W4 SFo H SF_a
  have CR := CR.trans (CHr.wr W4 SFo H)
  have H := H.wr W4 SFo
  have hk := Nat.le_trans hk (Keep.of_wr W4).1
  have F_value_a := F_value_a.same W4
  have K4 := K2.wr W4 (Or.inl (List.mem_of_getElem? (i := 0) rfl))
  have N4 := Fr.snoc X4 N0 g_a
  refine GoesW.pre (U' := T4.setTop (mkF m 20 #[.val (.ref a), .val (.ref d), .val (.int (0 : Int32)), .val (.int (0 : Int32)), .val .null, .unset] [(.ref ls2), (.ref a)])) (fun t k => st4 t (XS.aloadN X4.here hx rfl (hb hby d4_17) rfl rfl (ldcAgain X4 hx hZ hown (wq hw 22 rfl) Li_ls2 (g := (mkF m 18 #[.val (.ref a), .val (.ref d), .val (.int (0 : Int32)), .val (.int (0 : Int32)), .val .null, .unset] [(.ref a)])) rfl (hb hby d4_18) t k))) ?_
  obtain ⟨T5, X5, e5, st5⟩ := getF X4 hx hZ hown (host := "") (Or.inl (wq hw 29 rfl)) Via.refl e4 F_coder_ls2 (g := (mkF m 20 #[.val (.ref a), .val (.ref d), .val (.int (0 : Int32)), .val (.int (0 : Int32)), .val .null, .unset] [(.ref ls2), (.ref a)])) rfl rfl (hb hby d4_20)
  refine GoesW.pre (U' := T5.setTop (mkF m 23 #[.val (.ref a), .val (.ref d), .val (.int (0 : Int32)), .val (.int (0 : Int32)), .val .null, .unset] [(.int (0 : Int32)), (.ref a)])) (fun t k => st5 t k) ?_
  obtain ⟨T6, h6, X6, e6, W6, st6⟩ := putFN X5 hx hZ hown (wq hw 29 rfl) Via.refl e5 F_coder_a E_a (Or.inr ⟨(wq hw 25 rfl), rfl, hnm⟩) (wq hw 9 rfl) (ty := .byte) (v' := (.int (0 : Int32))) (by decide) rfl (by decide) (g := (mkF m 23 #[.val (.ref a), .val (.ref d), .val (.int (0 : Int32)), .val (.int (0 : Int32)), .val .null, .unset] [(.int (0 : Int32)), (.ref a)])) rfl rfl (hb hby d4_23)
  have E_a := E_a.wr W6
  have F_value_a := F_value_a.other W6 (Or.inr (slot_ne (Or.inr (wq hw 24 rfl)) (Or.inr (wq hw 25 rfl)) (by decide) (t := (.array .byte)) (t' := .byte) (by decide) (by decide)))
  have E_ls2 := E_ls2.wr W6
  have F_coder_ls2 := F_coder_ls2.other W6 (Or.inl ne_ls2_a)
  have F_value_ls2 := F_value_ls2.other W6 (Or.inl ne_ls2_a)
  have V_lb2 := V_lb2.other W6 ne_lb2_a
  have Z6 : n0 ≤ h6.size := Nat.le_trans Z4 (Keep.of_wr W6).1
  have SFo := SF_a
  have SF_a := Safe.wr W6 SFo H SF_a
  have CR := CR.trans (CHr.wr W6 SFo H)
  have H := H.wr W6 SFo
  have hk := Nat.le_trans hk (Keep.of_wr W6).1
  have F_coder_a := F_coder_a.same W6
  have K6 := K4.wr W6 (Or.inl (List.mem_of_getElem? (i := 0) rfl))
  have N6 := Fr.snoc X6 N4 g_a
  refine GoesW.pre (U' := T6.setTop (mkF m 26 #[.val (.ref a), .val (.ref d), .val (.int (0 : Int32)), .val (.int (0 : Int32)), .val .null, .unset] [])) (fun t k => st6 t k) ?_
  refine GoesW.ret X6 hZ hEL hS hk H CR (v := none) (fun _ => rfl) hlk (by decide) (by decide) e6 (fun fs hr => X6.returnOut hx hret (hb hby d4_26) hr) ?_
  exact ⟨lb2, kl2, rfl, N6, K6, ⟨E_a, F_value_a, (by intro c hc; cases hc), Or.inl ⟨F_coder_a, V_lb2, (by intro c hc; cases hc)⟩⟩⟩
theorem ef_rm_init1_0 (m : MethodId) (x0 : Addr) (x1 : Addr) : entryFrame m #[(.ref x0), (.ref x1)] 2 = mkF m 0 #[.val (.ref x0), .val (.ref x1)] [] := by first | (simp [entryFrame, mkF, argsToLocals, Value.category]; done) | rfl
def Q_rm_init1_0 (Z : State) (a : Addr) (d : Addr) (kd : ClassId) (h0 : Heap) (n0 : Nat) (v : Option Value) (h : Heap) (L : List Loc) : Prop := ∃ (b : Addr) (kb : ClassId), v = none ∧ Fr n0 L ∧ Keep h0 h [a] ∧ OwnStr Z h a b kb []
set_option maxRecDepth 65536 in
set_option maxHeartbeats 40000000 in
theorem rm_init1_0 (l : Launch) (Z : State) (a0 : Array Value) (hw : ∀ d ∈ tables_1, d.before a0 Z = true) (hEL : EW Z a0 own_EL) (ws : List Jvm.Cond) (a : Addr) (d : Addr) (kd : ClassId) (h0 : Heap) (n0 : Nat) (Z0 : n0 ≤ h0.size) (E_a : Exa Z h0 a "java/lang/String") (F_value_a : Fld Z h0 a "java/lang/String" "value" "[B" .null) (F_coder_a : Fld Z h0 a "java/lang/String" "coder" "B" (.int (0 : Int32))) (V_d : Arv Z h0 d kd .char (0 : Int32) [] (.int (0 : Int32))) (ne_d_a : d ≠ a) (g_a : n0 ≤ a) :
    MetW l Z own_EL M3 jdk_42_method_3_code 2 none ws (Rm 2 2 4 29) #[(.ref a), (.ref d)] [a] h0 (Q_rm_init1_0 Z a d kd h0 n0) := by
  refine metW_of (plainFor_of_name pn_java_lang_String) (own := "java/lang/String") rfl (fun m => ef_rm_init1_0 m a d) ?_
  intro p e s m below meth c s₁ hx hby hml hown hnm hZ X0 e0 hret hlk H hSf CR hS
  have N0 := Fr.nil n0
  have K0 := Keep.refl h0 [a]
  have hk := Nat.le_refl h0.size
  have SF_a := hSf a (List.mem_of_getElem? (i := 0) rfl)
  show GoesW p e below s Z own_EL _ _ _ (s₁.setTop (mkF m 0 #[.val (.ref a), .val (.ref d)] []))
  refine GoesW.pre (U' := s₁.setTop (mkF m 4 #[.val (.ref a), .val (.ref d)] [(.ref d), (.int (0 : Int32)), (.ref d), (.ref a)])) (fun t k => XS.aloadN X0.here hx rfl (hb hby d3_0) rfl rfl (XS.aloadN X0.here hx rfl (hb hby d3_1) rfl rfl (XS.iconst X0.here hx rfl (hb hby d3_2) (XS.aloadN X0.here hx rfl (hb hby d3_3) rfl rfl k)))) ?_
  obtain ⟨cl1, Ar1, q1, Sz1, Ng1, -, -⟩ := id V_d
  have ln1 := len_of Sz1 Ng1
  refine GoesW.pre (U' := s₁.setTop (mkF m 6 #[.val (.ref a), .val (.ref d)] [.null, (.int (0 : Int32)), (.int (0 : Int32)), (.ref d), (.ref a)])) (fun t k => X0.arraylength hx (by rw [e0]; exact Ar1.1) (State.isArrayOf_alike hZ.alike Ar1.2.1) (g := (mkF m 4 #[.val (.ref a), .val (.ref d)] [(.ref d), (.int (0 : Int32)), (.ref d), (.ref a)])) rfl rfl (hb hby d3_4) _ (by rw [ln1]; exact (XS.aconstNull X0.here hx rfl (hb hby d3_5) k))) ?_
  obtain ⟨_, _, ⟨T2, L2, k2, n2⟩, -, X2, hS2, hge2, ⟨Lc2, hQ2, l2, y2, z2, CQ2⟩, st2⟩ := X0.specialBackS hx (y := (⟨"java/lang/String", "<init>", "([CIILjava/lang/Void;)V"⟩ : MethodName)) rfl hown (mvT hZ (wq hw 15 rfl)) (mvT hZ (wq hw 16 rfl)) (mvT hZ (wq hw 18 rfl)) (by decide) (own_backSH (s := s) (W := 0) (rm_init4_0 l Z a0 hw hEL [] a d h0 n0 Z0 E_a F_value_a F_coder_a g_a) hZ (wq hw 18 rfl) (wq hw 10 rfl) (by decide) (by decide) hEL H (allS (P := fun x => Safe Z own_EL s.vm h0 x ∧ x < h0.size) ⟨SF_a, E_a.lt⟩ all0)) (g := (mkF m 6 #[.val (.ref a), .val (.ref d)] [.null, (.int (0 : Int32)), (.int (0 : Int32)), (.ref d), (.ref a)])) rfl (by rw [hml]; rfl) (Steps.refl _) (a := a) (argsL := [(.ref d), (.int (0 : Int32)), (.int (0 : Int32)), .null]) (rest := []) (lenOf pd__28_5bCIILjava_2flang_2fVoid_3b_29V rfl) rfl (by show 2 * 0 + _ ≤ _; exact Nat.le_of_eq rfl) (hb hby d3_6) (fun _ _ => ⟨rfl, e0, (by decide : 0 + 2 ≤ _), (by decide : 0 + 4 ≤ _)⟩)
  dsimp only [Pt.U, Pt.locs, Pt.cells, Pt.slots] at X2 l2 y2 z2 st2 hQ2 hS2 hge2 CQ2
  subst l2 y2 z2
  obtain ⟨b2, kb2, rfl, N2q, KQ2, fo0_2⟩ := hQ2
  have N2 := Fr.app N0 N2q
  have SF_a := CQ2.safe E_a.lt SF_a
  have hS := foldS (T := s₁) hS (by rw [e0]; exact hk) hS2 hge2
  have hZ : Z.Warmed39 (s.setVm T2.vm).vm := State.Warmed39.trans (t := s.setVm s.vm) hZ hS2.1
  have hown := own_found hS2 hown
  have H := CQ2.1
  have CR := CR.trans CQ2
  have hk := Nat.le_refl T2.heap.size
  have E_a := E_a.keep KQ2
  have V_d := V_d.keep KQ2 (ninS ne_d_a nin0)
  have Z3 : n0 ≤ T2.heap.size := Nat.le_trans Z0 KQ2.1
  have K3 := K0.trans KQ2 (allS (P := fun x => x ∈ [a] ∨ h0.size ≤ x) (Or.inl (List.mem_of_getElem? (i := 0) rfl)) all0)
  have S_a := fo0_2
  refine GoesW.pre (U' := T2.setTop (mkF m 9 #[.val (.ref a), .val (.ref d)] [])) (fun t k => st2.trans k) ?_
  refine GoesW.ret X2 hZ hEL hS hk H CR (v := none) (fun _ => rfl) hlk (by decide) (by decide) rfl (fun fs hr => X2.returnOut hx hret (hb hby d3_9) hr) ?_
  exact ⟨b2, kb2, rfl, N2, K3, S_a⟩
theorem ef_rm_make0 (m : MethodId) (x0 : Int32) (x1 : Int32) (x2 : Int32) (x3 : Int32) : entryFrame m #[(.int x0), (.int x1), (.int x2), (.int x3)] 4 = mkF m 0 #[.val (.int x0), .val (.int x1), .val (.int x2), .val (.int x3)] [] := by first | (simp [entryFrame, mkF, argsToLocals, Value.category]; done) | rfl
abbrev M2 : MethodName := ⟨"com/example/restate/restate/plan/SpacesBlankPinLaw", "make", "(ICCC)Ljava/lang/String;"⟩
theorem d2_0 : decode method_4_code 0 = .ok (.iload_n 0, 1) := by decide +kernel
theorem d2_1 : decode method_4_code 1 = .ok (.ifCond .ne 14, 3) := by decide +kernel
theorem d2_4 : decode method_4_code 4 = .ok (.new 8, 3) := by decide +kernel
theorem d2_7 : decode method_4_code 7 = .ok (.dup, 1) := by decide +kernel
theorem d2_8 : decode method_4_code 8 = .ok (.iconst 0, 1) := by decide +kernel
theorem d2_9 : decode method_4_code 9 = .ok (.newarray .char, 2) := by decide +kernel
theorem d2_11 : decode method_4_code 11 = .ok (.invokespecial 10, 3) := by decide +kernel
theorem pd__28_5bC_29V : parseMethodDescriptor "([C)V" = some ⟨[(.array .char)], none⟩ := by decide +kernel
theorem d2_14 : decode method_4_code 14 = .ok (.areturn, 1) := by decide +kernel
def Q_rm_make0 (Z : State) (c0 : Int32) (c1 : Int32) (c2 : Int32) (h0 : Heap) (n0 : Nat) (v : Option Value) (h : Heap) (L : List Loc) : Prop := ∃ (r : Addr) (b : Addr) (kb : ClassId), v = some (.ref r) ∧ Fr n0 L ∧ Keep h0 h [] ∧ OwnStr Z h r b kb []
set_option maxRecDepth 65536 in
set_option maxHeartbeats 40000000 in
theorem rm_make0 (l : Launch) (Z : State) (a0 : Array Value) (hw : ∀ d ∈ tables_1, d.before a0 Z = true) (hEL : EW Z a0 own_EL) (ws : List Jvm.Cond) (c0 : Int32) (c1 : Int32) (c2 : Int32) (h0 : Heap) (n0 : Nat) (Z0 : n0 ≤ h0.size)  :
    MetW l Z own_EL M2 method_4_code 4 (some (.object "java/lang/String")) ws (Rm 3 4 8 43) #[(.int (0 : Int32)), (.int c0), (.int c1), (.int c2)] [] h0 (Q_rm_make0 Z c0 c1 c2 h0 n0) := by
  refine metW_of (plainFor_of_name pn_com_example_restate_restate_plan_SpacesBlankPinLaw) (own := "com/example/restate/restate/plan/SpacesBlankPinLaw") rfl (fun m => ef_rm_make0 m (0 : Int32) c0 c1 c2) ?_
  intro p e s m below meth c s₁ hx hby hml hown hnm hZ X0 e0 hret hlk H hSf CR hS
  have N0 := Fr.nil n0
  have K0 := Keep.refl h0 []
  have hk := Nat.le_refl h0.size
  show GoesW p e below s Z own_EL _ _ _ (s₁.setTop (mkF m 0 #[.val (.int (0 : Int32)), .val (.int c0), .val (.int c1), .val (.int c2)] []))
  refine GoesW.pre (U' := s₁.setTop (mkF m 1 #[.val (.int (0 : Int32)), .val (.int c0), .val (.int c1), .val (.int c2)] [(.int (0 : Int32))])) (fun t k => XS.iloadN X0.here hx rfl (hb hby d2_0) rfl k) ?_
  have hc1 : (0 : Int32) = (0 : Int32) := rfl
  refine GoesW.pre (U' := s₁.setTop (mkF m 4 #[.val (.int (0 : Int32)), .val (.int c0), .val (.int c1), .val (.int c2)] [])) (fun t k => XS.ifNo X0.here hx rfl (hb hby d2_1) rfl ((if0 _ _).trans (teq hc1).2) k) ?_
  obtain ⟨T1, h1, X1, e1, E1, A1, D1, -, st1⟩ := newO X0 hx hZ hown (wq hw 8 rfl) (wq hw 9 rfl) (wq hw 10 rfl) e0 (g := (mkF m 4 #[.val (.int (0 : Int32)), .val (.int c0), .val (.int c1), .val (.int c2)] [])) rfl (hb hby d2_4) (by decide) (by decide)
  obtain ⟨sr, g1⟩ : ∃ z, z = h0.size := ⟨_, rfl⟩
  rw [← g1] at A1 D1 st1
  have g_sr : n0 ≤ sr := Nat.le_trans Z0 (Nat.le_of_eq g1.symm)
  have sz_sr : h0.size ≤ sr := Nat.le_trans K0.1 (Nat.le_of_eq g1.symm)
  have SF_sr := Safe.ext E1 H (Safe.new (x := sr) (Nat.le_of_eq g1.symm))
  have CR := CR.trans (CHr.ext E1 H)
  have H := H.ext E1
  have hk := Nat.le_trans hk E1.1
  have Z1 : n0 ≤ h1.size := Nat.le_trans Z0 E1.1
  have K1 := K0.ext E1
  have E_sr := A1
  have F_value_sr : Fld Z h1 sr "java/lang/String" "value" "[B" .null := D1 (Or.inr (wq hw 24 rfl)) (ty := (.array .byte)) (by decide)
  have F_coder_sr : Fld Z h1 sr "java/lang/String" "coder" "B" (.int (0 : Int32)) := D1 (Or.inr (wq hw 25 rfl)) (ty := .byte) (by decide)
  refine GoesW.pre (U' := T1.setTop (mkF m 9 #[.val (.int (0 : Int32)), .val (.int c0), .val (.int c1), .val (.int c2)] [(.int (0 : Int32)), (.ref sr), (.ref sr)])) (fun t k => st1 t (XS.dup X1.here hx rfl (hb hby d2_7) rfl rfl (XS.iconst X1.here hx rfl (hb hby d2_8) k))) ?_
  obtain ⟨T2, h2, k2, X2, e2, E2, A2, B2, st2⟩ := newPE X1 hx hZ (wq hw 11 rfl) e1 (g := (mkF m 9 #[.val (.int (0 : Int32)), .val (.int c0), .val (.int c1), .val (.int c2)] [(.int (0 : Int32)), (.ref sr), (.ref sr)])) rfl (hb hby d2_9) rfl (by decide) (cap := 0) (by decide) (by decide) (by decide) (by decide) (ad := "[C") (by decide)
  obtain ⟨sd, g2⟩ : ∃ z, z = h1.size := ⟨_, rfl⟩
  rw [← g2] at A2 B2 st2
  have ne_sr_sd : sr ≠ sd := Nat.ne_of_lt (Nat.lt_of_lt_of_le E_sr.lt (Nat.le_of_eq g2.symm))
  have ne_sd_sr := ne_sr_sd.symm
  have g_sd : n0 ≤ sd := Nat.le_trans Z1 (Nat.le_of_eq g2.symm)
  have sz_sd : h0.size ≤ sd := Nat.le_trans K1.1 (Nat.le_of_eq g2.symm)
  have E_sr := E_sr.ext E2
  have F_value_sr := F_value_sr.ext E2
  have F_coder_sr := F_coder_sr.ext E2
  have SF_sr := Safe.ext E2 H SF_sr
  have SF_sd := Safe.ext E2 H (Safe.new (x := sd) (Nat.le_of_eq g2.symm))
  have CR := CR.trans (CHr.ext E2 H)
  have H := H.ext E2
  have hk := Nat.le_trans hk E2.1
  have Z2 : n0 ≤ h2.size := Nat.le_trans Z1 E2.1
  have K2 := K1.ext E2
  have E_sd := B2
  have V_sd : Arv Z h2 sd k2 .char (0 : Int32) [] (.int (0 : Int32)) := (Arv.new A2 (by decide)).pad (pad_rep [] (.int (0 : Int32)) 0)
  refine GoesW.pre (U' := T2.setTop (mkF m 11 #[.val (.int (0 : Int32)), .val (.int c0), .val (.int c1), .val (.int c2)] [(.ref sd), (.ref sr), (.ref sr)])) (fun t k => st2 t k) ?_
  obtain ⟨_, _, ⟨T3, L3, k3, n3⟩, -, X3, hS3, hge3, ⟨Lc3, hQ3, l3, y3, z3, CQ3⟩, st3⟩ := X2.specialBackS hx (y := (⟨"java/lang/String", "<init>", "([C)V"⟩ : MethodName)) rfl hown (mvT hZ (wq hw 12 rfl)) (mvT hZ (wq hw 13 rfl)) (mvT hZ (wq hw 14 rfl)) (by decide) (own_backSH (s := s) (W := 1) (rm_init1_0 l Z a0 hw hEL [] sr sd k2 h2 n0 Z2 E_sr F_value_sr F_coder_sr V_sd ne_sd_sr g_sr) hZ (wq hw 14 rfl) (wq hw 10 rfl) (by decide) (by decide) hEL H (allS (P := fun x => Safe Z own_EL s.vm h2 x ∧ x < h2.size) ⟨SF_sr, E_sr.lt⟩ all0)) (g := (mkF m 11 #[.val (.int (0 : Int32)), .val (.int c0), .val (.int c1), .val (.int c2)] [(.ref sd), (.ref sr), (.ref sr)])) rfl (by rw [hml]; rfl) (Steps.refl _) (a := sr) (argsL := [(.ref sd)]) (rest := [(.ref sr)]) (lenOf pd__28_5bC_29V rfl) rfl (by show 2 * 0 + _ ≤ _; exact Nat.le_of_eq rfl) (hb hby d2_11) (fun _ _ => ⟨rfl, e2, (by decide : 2 + 2 ≤ _), (by decide : 4 + 4 ≤ _)⟩)
  dsimp only [Pt.U, Pt.locs, Pt.cells, Pt.slots] at X3 l3 y3 z3 st3 hQ3 hS3 hge3 CQ3
  subst l3 y3 z3
  obtain ⟨b3, kb3, rfl, N3q, KQ3, fo0_3⟩ := hQ3
  have N3 := Fr.app N0 N3q
  have SF_sr := CQ3.safe E_sr.lt SF_sr
  have SF_sd := CQ3.safe E_sd.lt SF_sd
  have hS := foldS (T := T2) hS (by rw [e2]; exact hk) hS3 hge3
  have hZ : Z.Warmed39 (s.setVm T3.vm).vm := State.Warmed39.trans (t := s.setVm s.vm) hZ hS3.1
  have hown := own_found hS3 hown
  have H := CQ3.1
  have CR := CR.trans CQ3
  have hk := Nat.le_refl T3.heap.size
  have E_sr := E_sr.keep KQ3
  have E_sd := E_sd.keep KQ3
  have V_sd := V_sd.keep KQ3 (ninS ne_sd_sr nin0)
  have Z4 : n0 ≤ T3.heap.size := Nat.le_trans Z2 KQ3.1
  have K4 := K2.trans KQ3 (allS (P := fun x => x ∈ [] ∨ h0.size ≤ x) (Or.inr sz_sr) all0)
  have S_sr := fo0_3
  refine GoesW.pre (U' := T3.setTop (mkF m 14 #[.val (.int (0 : Int32)), .val (.int c0), .val (.int c1), .val (.int c2)] [(.ref sr)])) (fun t k => st3.trans k) ?_
  refine GoesW.ret X3 hZ hEL hS hk H CR (v := (some (.ref sr))) (fun h => by rw [hret] at h; cases h) hlk (by decide) (by decide) rfl (fun fs hr => retOut X3 hx hret rfl (Or.inr (Or.inr (Or.inr (Or.inr ⟨rfl, rfl, rfl⟩)))) (hb hby d2_14) hr) ?_
  exact ⟨sr, b3, kb3, rfl, N3, K4, S_sr⟩
theorem ef_rm_make1 (m : MethodId) (x0 : Int32) (x1 : Int32) (x2 : Int32) (x3 : Int32) : entryFrame m #[(.int x0), (.int x1), (.int x2), (.int x3)] 4 = mkF m 0 #[.val (.int x0), .val (.int x1), .val (.int x2), .val (.int x3)] [] := by first | (simp [entryFrame, mkF, argsToLocals, Value.category]; done) | rfl
theorem d2_15 : decode method_4_code 15 = .ok (.iload_n 0, 1) := by decide +kernel
theorem d2_16 : decode method_4_code 16 = .ok (.iconst 1, 1) := by decide +kernel
theorem d2_17 : decode method_4_code 17 = .ok (.if_icmp .ne 18, 3) := by decide +kernel
theorem d2_20 : decode method_4_code 20 = .ok (.new 8, 3) := by decide +kernel
theorem d2_23 : decode method_4_code 23 = .ok (.dup, 1) := by decide +kernel
theorem d2_24 : decode method_4_code 24 = .ok (.iconst 1, 1) := by decide +kernel
theorem d2_25 : decode method_4_code 25 = .ok (.newarray .char, 2) := by decide +kernel
theorem d2_27 : decode method_4_code 27 = .ok (.dup, 1) := by decide +kernel
theorem d2_28 : decode method_4_code 28 = .ok (.iconst 0, 1) := by decide +kernel
theorem d2_29 : decode method_4_code 29 = .ok (.iload_n 1, 1) := by decide +kernel
theorem d2_30 : decode method_4_code 30 = .ok (.castore, 1) := by decide +kernel
theorem d2_31 : decode method_4_code 31 = .ok (.invokespecial 10, 3) := by decide +kernel
theorem d2_34 : decode method_4_code 34 = .ok (.areturn, 1) := by decide +kernel
def Q_rm_make1 (Z : State) (c0 : Int32) (c1 : Int32) (c2 : Int32) (cs : Int32) (h0 : Heap) (n0 : Nat) (v : Option Value) (h : Heap) (L : List Loc) : Prop := ∃ (r : Addr) (b : Addr) (kb : ClassId), v = some (.ref r) ∧ Fr n0 L ∧ Keep h0 h [] ∧ OwnStr Z h r b kb [c0]
set_option maxRecDepth 65536 in
set_option maxHeartbeats 40000000 in
theorem rm_make1 (l : Launch) (Z : State) (a0 : Array Value) (hw : ∀ d ∈ tables_1, d.before a0 Z = true) (ws : List Jvm.Cond) (c0 : Int32) (c1 : Int32) (c2 : Int32) (cs : Int32) (h0 : Heap) (n0 : Nat) (Z0 : n0 ≤ h0.size) (S_COMPACT_STRINGS : Sta Z Z.heap "java/lang/String" "COMPACT_STRINGS" "Z" (.int cs)) (S__assertionsDisabled : Sta Z Z.heap "java/lang/StringUTF16" "$assertionsDisabled" "Z" (.int (1 : Int32))) (S_HI_BYTE_SHIFT : Sta Z Z.heap "java/lang/StringUTF16" "HI_BYTE_SHIFT" "I" (.int (0 : Int32))) (S_LO_BYTE_SHIFT : Sta Z Z.heap "java/lang/StringUTF16" "LO_BYTE_SHIFT" "I" (.int (8 : Int32))) (hch0 : OwnCh c0) (hch1 : OwnCh c1) (hch2 : OwnCh c2) (hcs : ¬ (cs = (0 : Int32))) (O : Old Z n0 h0) :
    Met l Z M2 method_4_code 4 (some (.object "java/lang/String")) ws (Rm 6 4 8 88) #[(.int (1 : Int32)), (.int c0), (.int c1), (.int c2)] h0 (Q_rm_make1 Z c0 c1 c2 cs h0 n0) := by
  refine met_of (plainFor_of_name pn_com_example_restate_restate_plan_SpacesBlankPinLaw) (own := "com/example/restate/restate/plan/SpacesBlankPinLaw") rfl (fun m => ef_rm_make1 m (1 : Int32) c0 c1 c2) ?_
  intro p e s m below meth c s₁ hx hby hml hown hnm hZ X0 e0 hret hlk
  have N0 := Fr.nil n0
  have K0 := Keep.refl h0 []
  show Goes p e below s _ _ _ (s₁.setTop (mkF m 0 #[.val (.int (1 : Int32)), .val (.int c0), .val (.int c1), .val (.int c2)] []))
  refine Goes.pre (U' := s₁.setTop (mkF m 1 #[.val (.int (1 : Int32)), .val (.int c0), .val (.int c1), .val (.int c2)] [(.int (1 : Int32))])) (fun t k => XS.iloadN X0.here hx rfl (hb hby d2_0) rfl k) ?_
  have hc1 : ¬ ((1 : Int32) = (0 : Int32)) := by decide
  refine Goes.pre (U' := s₁.setTop (mkF m 17 #[.val (.int (1 : Int32)), .val (.int c0), .val (.int c1), .val (.int c2)] [(.int (1 : Int32)), (.int (1 : Int32))])) (fun t k => XS.ifYes X0.here hx rfl (pc0 := 1) (pc' := 15) rfl (hb hby d2_1) rfl ((if0 _ _).trans (feq hc1).2) (by decide) (by decide) (XS.iloadN X0.here hx rfl (hb hby d2_15) rfl (XS.iconst X0.here hx rfl (hb hby d2_16) k))) ?_
  have hc17 : (1 : Int32) = (1 : Int32) := rfl
  refine Goes.pre (U' := s₁.setTop (mkF m 20 #[.val (.int (1 : Int32)), .val (.int c0), .val (.int c1), .val (.int c2)] [])) (fun t k => XS.icmpNo X0.here hx rfl (hb hby d2_17) rfl (teq hc17).2 k) ?_
  obtain ⟨T1, h1, X1, e1, E1, A1, D1, -, st1⟩ := newO X0 hx hZ hown (wq hw 8 rfl) (wq hw 9 rfl) (wq hw 10 rfl) e0 (g := (mkF m 20 #[.val (.int (1 : Int32)), .val (.int c0), .val (.int c1), .val (.int c2)] [])) rfl (hb hby d2_20) (by decide) (by decide)
  obtain ⟨sr, g1⟩ : ∃ z, z = h0.size := ⟨_, rfl⟩
  rw [← g1] at A1 D1 st1
  have g_sr : n0 ≤ sr := Nat.le_trans Z0 (Nat.le_of_eq g1.symm)
  have sz_sr : h0.size ≤ sr := Nat.le_trans K0.1 (Nat.le_of_eq g1.symm)
  have O := O.ext E1
  have Z1 : n0 ≤ h1.size := Nat.le_trans Z0 E1.1
  have K1 := K0.ext E1
  have E_sr := A1
  have F_value_sr : Fld Z h1 sr "java/lang/String" "value" "[B" .null := D1 (Or.inr (wq hw 24 rfl)) (ty := (.array .byte)) (by decide)
  have F_coder_sr : Fld Z h1 sr "java/lang/String" "coder" "B" (.int (0 : Int32)) := D1 (Or.inr (wq hw 25 rfl)) (ty := .byte) (by decide)
  refine Goes.pre (U' := T1.setTop (mkF m 25 #[.val (.int (1 : Int32)), .val (.int c0), .val (.int c1), .val (.int c2)] [(.int (1 : Int32)), (.ref sr), (.ref sr)])) (fun t k => st1 t (XS.dup X1.here hx rfl (hb hby d2_23) rfl rfl (XS.iconst X1.here hx rfl (hb hby d2_24) k))) ?_
  obtain ⟨T2, h2, k2, X2, e2, E2, A2, B2, st2⟩ := newPE X1 hx hZ (wq hw 11 rfl) e1 (g := (mkF m 25 #[.val (.int (1 : Int32)), .val (.int c0), .val (.int c1), .val (.int c2)] [(.int (1 : Int32)), (.ref sr), (.ref sr)])) rfl (hb hby d2_25) rfl (by decide) (cap := 1) (by decide) (by decide) (by decide) (by decide) (ad := "[C") (by decide)
  obtain ⟨sd, g2⟩ : ∃ z, z = h1.size := ⟨_, rfl⟩
  rw [← g2] at A2 B2 st2
  have ne_sr_sd : sr ≠ sd := Nat.ne_of_lt (Nat.lt_of_lt_of_le E_sr.lt (Nat.le_of_eq g2.symm))
  have ne_sd_sr := ne_sr_sd.symm
  have g_sd : n0 ≤ sd := Nat.le_trans Z1 (Nat.le_of_eq g2.symm)
  have sz_sd : h0.size ≤ sd := Nat.le_trans K1.1 (Nat.le_of_eq g2.symm)
  have E_sr := E_sr.ext E2
  have F_value_sr := F_value_sr.ext E2
  have F_coder_sr := F_coder_sr.ext E2
  have O := O.ext E2
  have Z2 : n0 ≤ h2.size := Nat.le_trans Z1 E2.1
  have K2 := K1.ext E2
  have E_sd := B2
  have V_sd : Arv Z h2 sd k2 .char (1 : Int32) [(.int (0 : Int32))] (.int (0 : Int32)) := (Arv.new A2 (by decide)).pad (pad_rep [] (.int (0 : Int32)) 1)
  refine Goes.pre (U' := T2.setTop (mkF m 30 #[.val (.int (1 : Int32)), .val (.int c0), .val (.int c1), .val (.int c2)] [(.int c0), (.int (0 : Int32)), (.ref sd), (.ref sd), (.ref sr), (.ref sr)])) (fun t k => st2 t (XS.dup X2.here hx rfl (hb hby d2_27) rfl rfl (XS.iconst X2.here hx rfl (hb hby d2_28) (XS.iloadN X2.here hx rfl (hb hby d2_29) rfl k)))) ?_
  obtain ⟨cl3, Ar3, q3, Sz3, Ng3, Hs3, Ft3⟩ := id V_sd
  obtain ⟨T3, h3, X3, e3, W3, st3⟩ := stC X2 hx hZ e2 Ar3 (j := (0 : Int32)) (inb_of Sz3 ⟨by decide, by decide⟩) (g := (mkF m 30 #[.val (.int (1 : Int32)), .val (.int c0), .val (.int c1), .val (.int c2)] [(.int c0), (.int (0 : Int32)), (.ref sd), (.ref sd), (.ref sr), (.ref sr)])) rfl rfl (hb hby d2_30)
  have nr3 : nar .char c0 = c0 := own_nch _ (hch0)
  have ft3 : fits .char (.int c0) = true := nr3 ▸ (fits_nar_char c0 : fits .char (.int (nar .char c0)) = true)
  rw [nr3] at W3
  have E_sr := E_sr.wr W3
  have F_value_sr := F_value_sr.other W3 (Or.inl ne_sr_sd)
  have F_coder_sr := F_coder_sr.other W3 (Or.inl ne_sr_sd)
  have E_sd := E_sd.wr W3
  have Z3 : n0 ≤ h3.size := Nat.le_trans Z2 (Keep.of_wr W3).1
  have O := O.wr W3 g_sd
  have V_sd : Arv Z h3 sd k2 .char (1 : Int32) [(.int c0)] (.int (0 : Int32)) := Arv.set Ar3 q3 Sz3 Ng3 Hs3 Ft3 ft3 W3 0 rfl (Nat.le_of_ble_eq_true rfl)
  have K3 := K2.wr W3 (Or.inr sz_sd)
  have N3 := Fr.snoc X3 N0 g_sd
  refine Goes.pre (U' := T3.setTop (mkF m 31 #[.val (.int (1 : Int32)), .val (.int c0), .val (.int c1), .val (.int c2)] [(.ref sd), (.ref sr), (.ref sr)])) (fun t k => st3 t k) ?_
  have lt_sd := E_sd.lt
  have lt_sr := E_sr.lt
  obtain ⟨_, _, ⟨T4, L4, k4, n4⟩, -, X4, ⟨Lc4, hQ4, l4, y4, z4⟩, st4⟩ := X3.specialBack hx (y := (⟨"java/lang/String", "<init>", "([C)V"⟩ : MethodName)) rfl hown (mvT hZ (wq hw 12 rfl)) (mvT hZ (wq hw 13 rfl)) (mvT hZ (wq hw 14 rfl)) (by decide) (backOf (W := 1) (rm_init1_1 l Z a0 hw [] sr sd k2 c0 cs h3 n0 Z3 E_sr F_value_sr F_coder_sr V_sd S_COMPACT_STRINGS S__assertionsDisabled S_HI_BYTE_SHIFT S_LO_BYTE_SHIFT (hch0) hcs ne_sd_sr g_sr O) hZ (wq hw 14 rfl) (wq hw 10 rfl) (by decide) (by decide)) (g := (mkF m 31 #[.val (.int (1 : Int32)), .val (.int c0), .val (.int c1), .val (.int c2)] [(.ref sd), (.ref sr), (.ref sr)])) rfl (by rw [hml]; rfl) (Steps.refl _) (a := sr) (argsL := [(.ref sd)]) (rest := [(.ref sr)]) (lenOf pd__28_5bC_29V rfl) rfl (by show 2 * 0 + _ ≤ _; exact Nat.le_of_eq rfl) (hb hby d2_31) (fun _ _ => ⟨rfl, e3, (by decide : 2 + 2 ≤ _), (by decide : 5 + 3 ≤ _)⟩)
  dsimp only [Pt.U, Pt.locs, Pt.cells, Pt.slots] at X4 l4 y4 z4 st4 hQ4
  subst l4 y4 z4
  obtain ⟨b4, kb4, rfl, N4q, KQ4, fo0_4, g_b4, sl_b4⟩ := hQ4
  have N4 := Fr.app N3 N4q
  have E_sr := E_sr.keep KQ4
  have E_sd := E_sd.keep KQ4
  have V_sd := V_sd.keep KQ4 (ninS ne_sd_sr nin0)
  have Z5 : n0 ≤ T4.heap.size := Nat.le_trans Z3 KQ4.1
  have O := O.keep KQ4 (allS (P := fun x => n0 ≤ x) g_sr all0)
  have K5 := K3.trans KQ4 (allS (P := fun x => x ∈ [] ∨ h0.size ≤ x) (Or.inr sz_sr) all0)
  have ne_sd_b4 : sd ≠ b4 := Nat.ne_of_lt (Nat.lt_of_lt_of_le lt_sd sl_b4)
  have ne_b4_sd := ne_sd_b4.symm
  have ne_sr_b4 : sr ≠ b4 := Nat.ne_of_lt (Nat.lt_of_lt_of_le lt_sr sl_b4)
  have ne_b4_sr := ne_sr_b4.symm
  have sz_b4 : h0.size ≤ b4 := Nat.le_trans K3.1 sl_b4
  have S_sr := fo0_4
  refine Goes.pre (U' := T4.setTop (mkF m 34 #[.val (.int (1 : Int32)), .val (.int c0), .val (.int c1), .val (.int c2)] [(.ref sr)])) (fun t k => st4.trans k) ?_
  refine Goes.ret X4 (v := (some (.ref sr))) (fun h => by rw [hret] at h; cases h) hlk (by decide) (by decide) rfl (fun fs hr => retOut X4 hx hret rfl (Or.inr (Or.inr (Or.inr (Or.inr ⟨rfl, rfl, rfl⟩)))) (hb hby d2_34) hr) ?_
  exact ⟨sr, b4, kb4, rfl, N4, K5, S_sr⟩
theorem ef_rm_make2 (m : MethodId) (x0 : Int32) (x1 : Int32) (x2 : Int32) (x3 : Int32) : entryFrame m #[(.int x0), (.int x1), (.int x2), (.int x3)] 4 = mkF m 0 #[.val (.int x0), .val (.int x1), .val (.int x2), .val (.int x3)] [] := by first | (simp [entryFrame, mkF, argsToLocals, Value.category]; done) | rfl
theorem d2_35 : decode method_4_code 35 = .ok (.iload_n 0, 1) := by decide +kernel
theorem d2_36 : decode method_4_code 36 = .ok (.iconst 2, 1) := by decide +kernel
theorem d2_37 : decode method_4_code 37 = .ok (.if_icmp .ne 22, 3) := by decide +kernel
theorem d2_40 : decode method_4_code 40 = .ok (.new 8, 3) := by decide +kernel
theorem d2_43 : decode method_4_code 43 = .ok (.dup, 1) := by decide +kernel
theorem d2_44 : decode method_4_code 44 = .ok (.iconst 2, 1) := by decide +kernel
theorem d2_45 : decode method_4_code 45 = .ok (.newarray .char, 2) := by decide +kernel
theorem d2_47 : decode method_4_code 47 = .ok (.dup, 1) := by decide +kernel
theorem d2_48 : decode method_4_code 48 = .ok (.iconst 0, 1) := by decide +kernel
theorem d2_49 : decode method_4_code 49 = .ok (.iload_n 1, 1) := by decide +kernel
theorem d2_50 : decode method_4_code 50 = .ok (.castore, 1) := by decide +kernel
theorem d2_51 : decode method_4_code 51 = .ok (.dup, 1) := by decide +kernel
theorem d2_52 : decode method_4_code 52 = .ok (.iconst 1, 1) := by decide +kernel
theorem d2_53 : decode method_4_code 53 = .ok (.iload_n 2, 1) := by decide +kernel
theorem d2_54 : decode method_4_code 54 = .ok (.castore, 1) := by decide +kernel
theorem d2_55 : decode method_4_code 55 = .ok (.invokespecial 10, 3) := by decide +kernel
theorem d2_58 : decode method_4_code 58 = .ok (.areturn, 1) := by decide +kernel
def Q_rm_make2 (Z : State) (c0 : Int32) (c1 : Int32) (c2 : Int32) (cs : Int32) (h0 : Heap) (n0 : Nat) (v : Option Value) (h : Heap) (L : List Loc) : Prop := ∃ (r : Addr) (b : Addr) (kb : ClassId), v = some (.ref r) ∧ Fr n0 L ∧ Keep h0 h [] ∧ OwnStr Z h r b kb [c0, c1]
set_option maxRecDepth 65536 in
set_option maxHeartbeats 40000000 in
theorem rm_make2 (l : Launch) (Z : State) (a0 : Array Value) (hw : ∀ d ∈ tables_1, d.before a0 Z = true) (ws : List Jvm.Cond) (c0 : Int32) (c1 : Int32) (c2 : Int32) (cs : Int32) (h0 : Heap) (n0 : Nat) (Z0 : n0 ≤ h0.size) (S_COMPACT_STRINGS : Sta Z Z.heap "java/lang/String" "COMPACT_STRINGS" "Z" (.int cs)) (S__assertionsDisabled : Sta Z Z.heap "java/lang/StringUTF16" "$assertionsDisabled" "Z" (.int (1 : Int32))) (S_HI_BYTE_SHIFT : Sta Z Z.heap "java/lang/StringUTF16" "HI_BYTE_SHIFT" "I" (.int (0 : Int32))) (S_LO_BYTE_SHIFT : Sta Z Z.heap "java/lang/StringUTF16" "LO_BYTE_SHIFT" "I" (.int (8 : Int32))) (hch0 : OwnCh c0) (hch1 : OwnCh c1) (hch2 : OwnCh c2) (hcs : ¬ (cs = (0 : Int32))) (O : Old Z n0 h0) :
    Met l Z M2 method_4_code 4 (some (.object "java/lang/String")) ws (Rm 6 4 12 88) #[(.int (2 : Int32)), (.int c0), (.int c1), (.int c2)] h0 (Q_rm_make2 Z c0 c1 c2 cs h0 n0) := by
  refine met_of (plainFor_of_name pn_com_example_restate_restate_plan_SpacesBlankPinLaw) (own := "com/example/restate/restate/plan/SpacesBlankPinLaw") rfl (fun m => ef_rm_make2 m (2 : Int32) c0 c1 c2) ?_
  intro p e s m below meth c s₁ hx hby hml hown hnm hZ X0 e0 hret hlk
  have N0 := Fr.nil n0
  have K0 := Keep.refl h0 []
  show Goes p e below s _ _ _ (s₁.setTop (mkF m 0 #[.val (.int (2 : Int32)), .val (.int c0), .val (.int c1), .val (.int c2)] []))
  refine Goes.pre (U' := s₁.setTop (mkF m 1 #[.val (.int (2 : Int32)), .val (.int c0), .val (.int c1), .val (.int c2)] [(.int (2 : Int32))])) (fun t k => XS.iloadN X0.here hx rfl (hb hby d2_0) rfl k) ?_
  have hc1 : ¬ ((2 : Int32) = (0 : Int32)) := by decide
  refine Goes.pre (U' := s₁.setTop (mkF m 17 #[.val (.int (2 : Int32)), .val (.int c0), .val (.int c1), .val (.int c2)] [(.int (1 : Int32)), (.int (2 : Int32))])) (fun t k => XS.ifYes X0.here hx rfl (pc0 := 1) (pc' := 15) rfl (hb hby d2_1) rfl ((if0 _ _).trans (feq hc1).2) (by decide) (by decide) (XS.iloadN X0.here hx rfl (hb hby d2_15) rfl (XS.iconst X0.here hx rfl (hb hby d2_16) k))) ?_
  have hc17 : ¬ ((2 : Int32) = (1 : Int32)) := by decide
  refine Goes.pre (U' := s₁.setTop (mkF m 37 #[.val (.int (2 : Int32)), .val (.int c0), .val (.int c1), .val (.int c2)] [(.int (2 : Int32)), (.int (2 : Int32))])) (fun t k => XS.icmpYes X0.here hx rfl (pc0 := 17) (pc' := 35) rfl (hb hby d2_17) rfl (feq hc17).2 (by decide) (by decide) (XS.iloadN X0.here hx rfl (hb hby d2_35) rfl (XS.iconst X0.here hx rfl (hb hby d2_36) k))) ?_
  have hc37 : (2 : Int32) = (2 : Int32) := rfl
  refine Goes.pre (U' := s₁.setTop (mkF m 40 #[.val (.int (2 : Int32)), .val (.int c0), .val (.int c1), .val (.int c2)] [])) (fun t k => XS.icmpNo X0.here hx rfl (hb hby d2_37) rfl (teq hc37).2 k) ?_
  obtain ⟨T1, h1, X1, e1, E1, A1, D1, -, st1⟩ := newO X0 hx hZ hown (wq hw 8 rfl) (wq hw 9 rfl) (wq hw 10 rfl) e0 (g := (mkF m 40 #[.val (.int (2 : Int32)), .val (.int c0), .val (.int c1), .val (.int c2)] [])) rfl (hb hby d2_40) (by decide) (by decide)
  obtain ⟨sr, g1⟩ : ∃ z, z = h0.size := ⟨_, rfl⟩
  rw [← g1] at A1 D1 st1
  have g_sr : n0 ≤ sr := Nat.le_trans Z0 (Nat.le_of_eq g1.symm)
  have sz_sr : h0.size ≤ sr := Nat.le_trans K0.1 (Nat.le_of_eq g1.symm)
  have O := O.ext E1
  have Z1 : n0 ≤ h1.size := Nat.le_trans Z0 E1.1
  have K1 := K0.ext E1
  have E_sr := A1
  have F_value_sr : Fld Z h1 sr "java/lang/String" "value" "[B" .null := D1 (Or.inr (wq hw 24 rfl)) (ty := (.array .byte)) (by decide)
  have F_coder_sr : Fld Z h1 sr "java/lang/String" "coder" "B" (.int (0 : Int32)) := D1 (Or.inr (wq hw 25 rfl)) (ty := .byte) (by decide)
  refine Goes.pre (U' := T1.setTop (mkF m 45 #[.val (.int (2 : Int32)), .val (.int c0), .val (.int c1), .val (.int c2)] [(.int (2 : Int32)), (.ref sr), (.ref sr)])) (fun t k => st1 t (XS.dup X1.here hx rfl (hb hby d2_43) rfl rfl (XS.iconst X1.here hx rfl (hb hby d2_44) k))) ?_
  obtain ⟨T2, h2, k2, X2, e2, E2, A2, B2, st2⟩ := newPE X1 hx hZ (wq hw 11 rfl) e1 (g := (mkF m 45 #[.val (.int (2 : Int32)), .val (.int c0), .val (.int c1), .val (.int c2)] [(.int (2 : Int32)), (.ref sr), (.ref sr)])) rfl (hb hby d2_45) rfl (by decide) (cap := 2) (by decide) (by decide) (by decide) (by decide) (ad := "[C") (by decide)
  obtain ⟨sd, g2⟩ : ∃ z, z = h1.size := ⟨_, rfl⟩
  rw [← g2] at A2 B2 st2
  have ne_sr_sd : sr ≠ sd := Nat.ne_of_lt (Nat.lt_of_lt_of_le E_sr.lt (Nat.le_of_eq g2.symm))
  have ne_sd_sr := ne_sr_sd.symm
  have g_sd : n0 ≤ sd := Nat.le_trans Z1 (Nat.le_of_eq g2.symm)
  have sz_sd : h0.size ≤ sd := Nat.le_trans K1.1 (Nat.le_of_eq g2.symm)
  have E_sr := E_sr.ext E2
  have F_value_sr := F_value_sr.ext E2
  have F_coder_sr := F_coder_sr.ext E2
  have O := O.ext E2
  have Z2 : n0 ≤ h2.size := Nat.le_trans Z1 E2.1
  have K2 := K1.ext E2
  have E_sd := B2
  have V_sd : Arv Z h2 sd k2 .char (2 : Int32) [(.int (0 : Int32)), (.int (0 : Int32))] (.int (0 : Int32)) := (Arv.new A2 (by decide)).pad (pad_rep [] (.int (0 : Int32)) 2)
  refine Goes.pre (U' := T2.setTop (mkF m 50 #[.val (.int (2 : Int32)), .val (.int c0), .val (.int c1), .val (.int c2)] [(.int c0), (.int (0 : Int32)), (.ref sd), (.ref sd), (.ref sr), (.ref sr)])) (fun t k => st2 t (XS.dup X2.here hx rfl (hb hby d2_47) rfl rfl (XS.iconst X2.here hx rfl (hb hby d2_48) (XS.iloadN X2.here hx rfl (hb hby d2_49) rfl k)))) ?_
  obtain ⟨cl3, Ar3, q3, Sz3, Ng3, Hs3, Ft3⟩ := id V_sd
  obtain ⟨T3, h3, X3, e3, W3, st3⟩ := stC X2 hx hZ e2 Ar3 (j := (0 : Int32)) (inb_of Sz3 ⟨by decide, by decide⟩) (g := (mkF m 50 #[.val (.int (2 : Int32)), .val (.int c0), .val (.int c1), .val (.int c2)] [(.int c0), (.int (0 : Int32)), (.ref sd), (.ref sd), (.ref sr), (.ref sr)])) rfl rfl (hb hby d2_50)
  have nr3 : nar .char c0 = c0 := own_nch _ (hch0)
  have ft3 : fits .char (.int c0) = true := nr3 ▸ (fits_nar_char c0 : fits .char (.int (nar .char c0)) = true)
  rw [nr3] at W3
  have E_sr := E_sr.wr W3
  have F_value_sr := F_value_sr.other W3 (Or.inl ne_sr_sd)
  have F_coder_sr := F_coder_sr.other W3 (Or.inl ne_sr_sd)
  have E_sd := E_sd.wr W3
  have Z3 : n0 ≤ h3.size := Nat.le_trans Z2 (Keep.of_wr W3).1
  have O := O.wr W3 g_sd
  have V_sd : Arv Z h3 sd k2 .char (2 : Int32) [(.int c0), (.int (0 : Int32))] (.int (0 : Int32)) := Arv.set Ar3 q3 Sz3 Ng3 Hs3 Ft3 ft3 W3 0 rfl (Nat.le_of_ble_eq_true rfl)
  have K3 := K2.wr W3 (Or.inr sz_sd)
  have N3 := Fr.snoc X3 N0 g_sd
  refine Goes.pre (U' := T3.setTop (mkF m 54 #[.val (.int (2 : Int32)), .val (.int c0), .val (.int c1), .val (.int c2)] [(.int c1), (.int (1 : Int32)), (.ref sd), (.ref sd), (.ref sr), (.ref sr)])) (fun t k => st3 t (XS.dup X3.here hx rfl (hb hby d2_51) rfl rfl (XS.iconst X3.here hx rfl (hb hby d2_52) (XS.iloadN X3.here hx rfl (hb hby d2_53) rfl k)))) ?_
  obtain ⟨cl4, Ar4, q4, Sz4, Ng4, Hs4, Ft4⟩ := id V_sd
  obtain ⟨T4, h4, X4, e4, W4, st4⟩ := stC X3 hx hZ e3 Ar4 (j := (1 : Int32)) (inb_of Sz4 ⟨by decide, by decide⟩) (g := (mkF m 54 #[.val (.int (2 : Int32)), .val (.int c0), .val (.int c1), .val (.int c2)] [(.int c1), (.int (1 : Int32)), (.ref sd), (.ref sd), (.ref sr), (.ref sr)])) rfl rfl (hb hby d2_54)
  have nr4 : nar .char c1 = c1 := own_nch _ (hch1)
  have ft4 : fits .char (.int c1) = true := nr4 ▸ (fits_nar_char c1 : fits .char (.int (nar .char c1)) = true)
  rw [nr4] at W4
  have E_sr := E_sr.wr W4
  have F_value_sr := F_value_sr.other W4 (Or.inl ne_sr_sd)
  have F_coder_sr := F_coder_sr.other W4 (Or.inl ne_sr_sd)
  have E_sd := E_sd.wr W4
  have Z4 : n0 ≤ h4.size := Nat.le_trans Z3 (Keep.of_wr W4).1
  have O := O.wr W4 g_sd
  have V_sd : Arv Z h4 sd k2 .char (2 : Int32) [(.int c0), (.int c1)] (.int (0 : Int32)) := Arv.set Ar4 q4 Sz4 Ng4 Hs4 Ft4 ft4 W4 1 rfl (Nat.le_of_ble_eq_true rfl)
  have K4 := K3.wr W4 (Or.inr sz_sd)
  have N4 := Fr.snoc X4 N3 g_sd
  refine Goes.pre (U' := T4.setTop (mkF m 55 #[.val (.int (2 : Int32)), .val (.int c0), .val (.int c1), .val (.int c2)] [(.ref sd), (.ref sr), (.ref sr)])) (fun t k => st4 t k) ?_
  have lt_sd := E_sd.lt
  have lt_sr := E_sr.lt
  obtain ⟨_, _, ⟨T5, L5, k5, n5⟩, -, X5, ⟨Lc5, hQ5, l5, y5, z5⟩, st5⟩ := X4.specialBack hx (y := (⟨"java/lang/String", "<init>", "([C)V"⟩ : MethodName)) rfl hown (mvT hZ (wq hw 12 rfl)) (mvT hZ (wq hw 13 rfl)) (mvT hZ (wq hw 14 rfl)) (by decide) (backOf (W := 1) (rm_init1_2 l Z a0 hw [] sr sd k2 c0 c1 cs h4 n0 Z4 E_sr F_value_sr F_coder_sr V_sd S_COMPACT_STRINGS S__assertionsDisabled S_HI_BYTE_SHIFT S_LO_BYTE_SHIFT (hch0) (hch1) hcs ne_sd_sr g_sr O) hZ (wq hw 14 rfl) (wq hw 10 rfl) (by decide) (by decide)) (g := (mkF m 55 #[.val (.int (2 : Int32)), .val (.int c0), .val (.int c1), .val (.int c2)] [(.ref sd), (.ref sr), (.ref sr)])) rfl (by rw [hml]; rfl) (Steps.refl _) (a := sr) (argsL := [(.ref sd)]) (rest := [(.ref sr)]) (lenOf pd__28_5bC_29V rfl) rfl (by show 2 * 0 + _ ≤ _; exact Nat.le_of_eq rfl) (hb hby d2_55) (fun _ _ => ⟨rfl, e4, (by decide : 2 + 2 ≤ _), (by decide : 6 + 6 ≤ _)⟩)
  dsimp only [Pt.U, Pt.locs, Pt.cells, Pt.slots] at X5 l5 y5 z5 st5 hQ5
  subst l5 y5 z5
  obtain ⟨b5, kb5, rfl, N5q, KQ5, fo0_5, g_b5, sl_b5⟩ := hQ5
  have N5 := Fr.app N4 N5q
  have E_sr := E_sr.keep KQ5
  have E_sd := E_sd.keep KQ5
  have V_sd := V_sd.keep KQ5 (ninS ne_sd_sr nin0)
  have Z6 : n0 ≤ T5.heap.size := Nat.le_trans Z4 KQ5.1
  have O := O.keep KQ5 (allS (P := fun x => n0 ≤ x) g_sr all0)
  have K6 := K4.trans KQ5 (allS (P := fun x => x ∈ [] ∨ h0.size ≤ x) (Or.inr sz_sr) all0)
  have ne_sd_b5 : sd ≠ b5 := Nat.ne_of_lt (Nat.lt_of_lt_of_le lt_sd sl_b5)
  have ne_b5_sd := ne_sd_b5.symm
  have ne_sr_b5 : sr ≠ b5 := Nat.ne_of_lt (Nat.lt_of_lt_of_le lt_sr sl_b5)
  have ne_b5_sr := ne_sr_b5.symm
  have sz_b5 : h0.size ≤ b5 := Nat.le_trans K4.1 sl_b5
  have S_sr := fo0_5
  refine Goes.pre (U' := T5.setTop (mkF m 58 #[.val (.int (2 : Int32)), .val (.int c0), .val (.int c1), .val (.int c2)] [(.ref sr)])) (fun t k => st5.trans k) ?_
  refine Goes.ret X5 (v := (some (.ref sr))) (fun h => by rw [hret] at h; cases h) hlk (by decide) (by decide) rfl (fun fs hr => retOut X5 hx hret rfl (Or.inr (Or.inr (Or.inr (Or.inr ⟨rfl, rfl, rfl⟩)))) (hb hby d2_58) hr) ?_
  exact ⟨sr, b5, kb5, rfl, N5, K6, S_sr⟩
theorem ef_rm_make3 (m : MethodId) (x0 : Int32) (x1 : Int32) (x2 : Int32) (x3 : Int32) : entryFrame m #[(.int x0), (.int x1), (.int x2), (.int x3)] 4 = mkF m 0 #[.val (.int x0), .val (.int x1), .val (.int x2), .val (.int x3)] [] := by first | (simp [entryFrame, mkF, argsToLocals, Value.category]; done) | rfl
theorem d2_59 : decode method_4_code 59 = .ok (.new 8, 3) := by decide +kernel
theorem d2_62 : decode method_4_code 62 = .ok (.dup, 1) := by decide +kernel
theorem d2_63 : decode method_4_code 63 = .ok (.iconst 3, 1) := by decide +kernel
theorem d2_64 : decode method_4_code 64 = .ok (.newarray .char, 2) := by decide +kernel
theorem d2_66 : decode method_4_code 66 = .ok (.dup, 1) := by decide +kernel
theorem d2_67 : decode method_4_code 67 = .ok (.iconst 0, 1) := by decide +kernel
theorem d2_68 : decode method_4_code 68 = .ok (.iload_n 1, 1) := by decide +kernel
theorem d2_69 : decode method_4_code 69 = .ok (.castore, 1) := by decide +kernel
theorem d2_70 : decode method_4_code 70 = .ok (.dup, 1) := by decide +kernel
theorem d2_71 : decode method_4_code 71 = .ok (.iconst 1, 1) := by decide +kernel
theorem d2_72 : decode method_4_code 72 = .ok (.iload_n 2, 1) := by decide +kernel
theorem d2_73 : decode method_4_code 73 = .ok (.castore, 1) := by decide +kernel
theorem d2_74 : decode method_4_code 74 = .ok (.dup, 1) := by decide +kernel
theorem d2_75 : decode method_4_code 75 = .ok (.iconst 2, 1) := by decide +kernel
theorem d2_76 : decode method_4_code 76 = .ok (.iload_n 3, 1) := by decide +kernel
theorem d2_77 : decode method_4_code 77 = .ok (.castore, 1) := by decide +kernel
theorem d2_78 : decode method_4_code 78 = .ok (.invokespecial 10, 3) := by decide +kernel
theorem d2_81 : decode method_4_code 81 = .ok (.areturn, 1) := by decide +kernel
def Q_rm_make3 (Z : State) (c0 : Int32) (c1 : Int32) (c2 : Int32) (cs : Int32) (h0 : Heap) (n0 : Nat) (v : Option Value) (h : Heap) (L : List Loc) : Prop := ∃ (r : Addr) (b : Addr) (kb : ClassId), v = some (.ref r) ∧ Fr n0 L ∧ Keep h0 h [] ∧ OwnStr Z h r b kb [c0, c1, c2]
set_option maxRecDepth 65536 in
set_option maxHeartbeats 40000000 in
theorem rm_make3 (l : Launch) (Z : State) (a0 : Array Value) (hw : ∀ d ∈ tables_1, d.before a0 Z = true) (ws : List Jvm.Cond) (c0 : Int32) (c1 : Int32) (c2 : Int32) (cs : Int32) (h0 : Heap) (n0 : Nat) (Z0 : n0 ≤ h0.size) (S_COMPACT_STRINGS : Sta Z Z.heap "java/lang/String" "COMPACT_STRINGS" "Z" (.int cs)) (S__assertionsDisabled : Sta Z Z.heap "java/lang/StringUTF16" "$assertionsDisabled" "Z" (.int (1 : Int32))) (S_HI_BYTE_SHIFT : Sta Z Z.heap "java/lang/StringUTF16" "HI_BYTE_SHIFT" "I" (.int (0 : Int32))) (S_LO_BYTE_SHIFT : Sta Z Z.heap "java/lang/StringUTF16" "LO_BYTE_SHIFT" "I" (.int (8 : Int32))) (hch0 : OwnCh c0) (hch1 : OwnCh c1) (hch2 : OwnCh c2) (hcs : ¬ (cs = (0 : Int32))) (O : Old Z n0 h0) :
    Met l Z M2 method_4_code 4 (some (.object "java/lang/String")) ws (Rm 6 4 16 88) #[(.int (3 : Int32)), (.int c0), (.int c1), (.int c2)] h0 (Q_rm_make3 Z c0 c1 c2 cs h0 n0) := by
  refine met_of (plainFor_of_name pn_com_example_restate_restate_plan_SpacesBlankPinLaw) (own := "com/example/restate/restate/plan/SpacesBlankPinLaw") rfl (fun m => ef_rm_make3 m (3 : Int32) c0 c1 c2) ?_
  intro p e s m below meth c s₁ hx hby hml hown hnm hZ X0 e0 hret hlk
  have N0 := Fr.nil n0
  have K0 := Keep.refl h0 []
  show Goes p e below s _ _ _ (s₁.setTop (mkF m 0 #[.val (.int (3 : Int32)), .val (.int c0), .val (.int c1), .val (.int c2)] []))
  refine Goes.pre (U' := s₁.setTop (mkF m 1 #[.val (.int (3 : Int32)), .val (.int c0), .val (.int c1), .val (.int c2)] [(.int (3 : Int32))])) (fun t k => XS.iloadN X0.here hx rfl (hb hby d2_0) rfl k) ?_
  have hc1 : ¬ ((3 : Int32) = (0 : Int32)) := by decide
  refine Goes.pre (U' := s₁.setTop (mkF m 17 #[.val (.int (3 : Int32)), .val (.int c0), .val (.int c1), .val (.int c2)] [(.int (1 : Int32)), (.int (3 : Int32))])) (fun t k => XS.ifYes X0.here hx rfl (pc0 := 1) (pc' := 15) rfl (hb hby d2_1) rfl ((if0 _ _).trans (feq hc1).2) (by decide) (by decide) (XS.iloadN X0.here hx rfl (hb hby d2_15) rfl (XS.iconst X0.here hx rfl (hb hby d2_16) k))) ?_
  have hc17 : ¬ ((3 : Int32) = (1 : Int32)) := by decide
  refine Goes.pre (U' := s₁.setTop (mkF m 37 #[.val (.int (3 : Int32)), .val (.int c0), .val (.int c1), .val (.int c2)] [(.int (2 : Int32)), (.int (3 : Int32))])) (fun t k => XS.icmpYes X0.here hx rfl (pc0 := 17) (pc' := 35) rfl (hb hby d2_17) rfl (feq hc17).2 (by decide) (by decide) (XS.iloadN X0.here hx rfl (hb hby d2_35) rfl (XS.iconst X0.here hx rfl (hb hby d2_36) k))) ?_
  have hc37 : ¬ ((3 : Int32) = (2 : Int32)) := by decide
  refine Goes.pre (U' := s₁.setTop (mkF m 59 #[.val (.int (3 : Int32)), .val (.int c0), .val (.int c1), .val (.int c2)] [])) (fun t k => XS.icmpYes X0.here hx rfl (pc0 := 37) (pc' := 59) rfl (hb hby d2_37) rfl (feq hc37).2 (by decide) (by decide) k) ?_
  obtain ⟨T1, h1, X1, e1, E1, A1, D1, -, st1⟩ := newO X0 hx hZ hown (wq hw 8 rfl) (wq hw 9 rfl) (wq hw 10 rfl) e0 (g := (mkF m 59 #[.val (.int (3 : Int32)), .val (.int c0), .val (.int c1), .val (.int c2)] [])) rfl (hb hby d2_59) (by decide) (by decide)
  obtain ⟨sr, g1⟩ : ∃ z, z = h0.size := ⟨_, rfl⟩
  rw [← g1] at A1 D1 st1
  have g_sr : n0 ≤ sr := Nat.le_trans Z0 (Nat.le_of_eq g1.symm)
  have sz_sr : h0.size ≤ sr := Nat.le_trans K0.1 (Nat.le_of_eq g1.symm)
  have O := O.ext E1
  have Z1 : n0 ≤ h1.size := Nat.le_trans Z0 E1.1
  have K1 := K0.ext E1
  have E_sr := A1
  have F_value_sr : Fld Z h1 sr "java/lang/String" "value" "[B" .null := D1 (Or.inr (wq hw 24 rfl)) (ty := (.array .byte)) (by decide)
  have F_coder_sr : Fld Z h1 sr "java/lang/String" "coder" "B" (.int (0 : Int32)) := D1 (Or.inr (wq hw 25 rfl)) (ty := .byte) (by decide)
  refine Goes.pre (U' := T1.setTop (mkF m 64 #[.val (.int (3 : Int32)), .val (.int c0), .val (.int c1), .val (.int c2)] [(.int (3 : Int32)), (.ref sr), (.ref sr)])) (fun t k => st1 t (XS.dup X1.here hx rfl (hb hby d2_62) rfl rfl (XS.iconst X1.here hx rfl (hb hby d2_63) k))) ?_
  obtain ⟨T2, h2, k2, X2, e2, E2, A2, B2, st2⟩ := newPE X1 hx hZ (wq hw 11 rfl) e1 (g := (mkF m 64 #[.val (.int (3 : Int32)), .val (.int c0), .val (.int c1), .val (.int c2)] [(.int (3 : Int32)), (.ref sr), (.ref sr)])) rfl (hb hby d2_64) rfl (by decide) (cap := 3) (by decide) (by decide) (by decide) (by decide) (ad := "[C") (by decide)
  obtain ⟨sd, g2⟩ : ∃ z, z = h1.size := ⟨_, rfl⟩
  rw [← g2] at A2 B2 st2
  have ne_sr_sd : sr ≠ sd := Nat.ne_of_lt (Nat.lt_of_lt_of_le E_sr.lt (Nat.le_of_eq g2.symm))
  have ne_sd_sr := ne_sr_sd.symm
  have g_sd : n0 ≤ sd := Nat.le_trans Z1 (Nat.le_of_eq g2.symm)
  have sz_sd : h0.size ≤ sd := Nat.le_trans K1.1 (Nat.le_of_eq g2.symm)
  have E_sr := E_sr.ext E2
  have F_value_sr := F_value_sr.ext E2
  have F_coder_sr := F_coder_sr.ext E2
  have O := O.ext E2
  have Z2 : n0 ≤ h2.size := Nat.le_trans Z1 E2.1
  have K2 := K1.ext E2
  have E_sd := B2
  have V_sd : Arv Z h2 sd k2 .char (3 : Int32) [(.int (0 : Int32)), (.int (0 : Int32)), (.int (0 : Int32))] (.int (0 : Int32)) := (Arv.new A2 (by decide)).pad (pad_rep [] (.int (0 : Int32)) 3)
  refine Goes.pre (U' := T2.setTop (mkF m 69 #[.val (.int (3 : Int32)), .val (.int c0), .val (.int c1), .val (.int c2)] [(.int c0), (.int (0 : Int32)), (.ref sd), (.ref sd), (.ref sr), (.ref sr)])) (fun t k => st2 t (XS.dup X2.here hx rfl (hb hby d2_66) rfl rfl (XS.iconst X2.here hx rfl (hb hby d2_67) (XS.iloadN X2.here hx rfl (hb hby d2_68) rfl k)))) ?_
  obtain ⟨cl3, Ar3, q3, Sz3, Ng3, Hs3, Ft3⟩ := id V_sd
  obtain ⟨T3, h3, X3, e3, W3, st3⟩ := stC X2 hx hZ e2 Ar3 (j := (0 : Int32)) (inb_of Sz3 ⟨by decide, by decide⟩) (g := (mkF m 69 #[.val (.int (3 : Int32)), .val (.int c0), .val (.int c1), .val (.int c2)] [(.int c0), (.int (0 : Int32)), (.ref sd), (.ref sd), (.ref sr), (.ref sr)])) rfl rfl (hb hby d2_69)
  have nr3 : nar .char c0 = c0 := own_nch _ (hch0)
  have ft3 : fits .char (.int c0) = true := nr3 ▸ (fits_nar_char c0 : fits .char (.int (nar .char c0)) = true)
  rw [nr3] at W3
  have E_sr := E_sr.wr W3
  have F_value_sr := F_value_sr.other W3 (Or.inl ne_sr_sd)
  have F_coder_sr := F_coder_sr.other W3 (Or.inl ne_sr_sd)
  have E_sd := E_sd.wr W3
  have Z3 : n0 ≤ h3.size := Nat.le_trans Z2 (Keep.of_wr W3).1
  have O := O.wr W3 g_sd
  have V_sd : Arv Z h3 sd k2 .char (3 : Int32) [(.int c0), (.int (0 : Int32)), (.int (0 : Int32))] (.int (0 : Int32)) := Arv.set Ar3 q3 Sz3 Ng3 Hs3 Ft3 ft3 W3 0 rfl (Nat.le_of_ble_eq_true rfl)
  have K3 := K2.wr W3 (Or.inr sz_sd)
  have N3 := Fr.snoc X3 N0 g_sd
  refine Goes.pre (U' := T3.setTop (mkF m 73 #[.val (.int (3 : Int32)), .val (.int c0), .val (.int c1), .val (.int c2)] [(.int c1), (.int (1 : Int32)), (.ref sd), (.ref sd), (.ref sr), (.ref sr)])) (fun t k => st3 t (XS.dup X3.here hx rfl (hb hby d2_70) rfl rfl (XS.iconst X3.here hx rfl (hb hby d2_71) (XS.iloadN X3.here hx rfl (hb hby d2_72) rfl k)))) ?_
  obtain ⟨cl4, Ar4, q4, Sz4, Ng4, Hs4, Ft4⟩ := id V_sd
  obtain ⟨T4, h4, X4, e4, W4, st4⟩ := stC X3 hx hZ e3 Ar4 (j := (1 : Int32)) (inb_of Sz4 ⟨by decide, by decide⟩) (g := (mkF m 73 #[.val (.int (3 : Int32)), .val (.int c0), .val (.int c1), .val (.int c2)] [(.int c1), (.int (1 : Int32)), (.ref sd), (.ref sd), (.ref sr), (.ref sr)])) rfl rfl (hb hby d2_73)
  have nr4 : nar .char c1 = c1 := own_nch _ (hch1)
  have ft4 : fits .char (.int c1) = true := nr4 ▸ (fits_nar_char c1 : fits .char (.int (nar .char c1)) = true)
  rw [nr4] at W4
  have E_sr := E_sr.wr W4
  have F_value_sr := F_value_sr.other W4 (Or.inl ne_sr_sd)
  have F_coder_sr := F_coder_sr.other W4 (Or.inl ne_sr_sd)
  have E_sd := E_sd.wr W4
  have Z4 : n0 ≤ h4.size := Nat.le_trans Z3 (Keep.of_wr W4).1
  have O := O.wr W4 g_sd
  have V_sd : Arv Z h4 sd k2 .char (3 : Int32) [(.int c0), (.int c1), (.int (0 : Int32))] (.int (0 : Int32)) := Arv.set Ar4 q4 Sz4 Ng4 Hs4 Ft4 ft4 W4 1 rfl (Nat.le_of_ble_eq_true rfl)
  have K4 := K3.wr W4 (Or.inr sz_sd)
  have N4 := Fr.snoc X4 N3 g_sd
  refine Goes.pre (U' := T4.setTop (mkF m 77 #[.val (.int (3 : Int32)), .val (.int c0), .val (.int c1), .val (.int c2)] [(.int c2), (.int (2 : Int32)), (.ref sd), (.ref sd), (.ref sr), (.ref sr)])) (fun t k => st4 t (XS.dup X4.here hx rfl (hb hby d2_74) rfl rfl (XS.iconst X4.here hx rfl (hb hby d2_75) (XS.iloadN X4.here hx rfl (hb hby d2_76) rfl k)))) ?_
  obtain ⟨cl5, Ar5, q5, Sz5, Ng5, Hs5, Ft5⟩ := id V_sd
  obtain ⟨T5, h5, X5, e5, W5, st5⟩ := stC X4 hx hZ e4 Ar5 (j := (2 : Int32)) (inb_of Sz5 ⟨by decide, by decide⟩) (g := (mkF m 77 #[.val (.int (3 : Int32)), .val (.int c0), .val (.int c1), .val (.int c2)] [(.int c2), (.int (2 : Int32)), (.ref sd), (.ref sd), (.ref sr), (.ref sr)])) rfl rfl (hb hby d2_77)
  have nr5 : nar .char c2 = c2 := own_nch _ (hch2)
  have ft5 : fits .char (.int c2) = true := nr5 ▸ (fits_nar_char c2 : fits .char (.int (nar .char c2)) = true)
  rw [nr5] at W5
  have E_sr := E_sr.wr W5
  have F_value_sr := F_value_sr.other W5 (Or.inl ne_sr_sd)
  have F_coder_sr := F_coder_sr.other W5 (Or.inl ne_sr_sd)
  have E_sd := E_sd.wr W5
  have Z5 : n0 ≤ h5.size := Nat.le_trans Z4 (Keep.of_wr W5).1
  have O := O.wr W5 g_sd
  have V_sd : Arv Z h5 sd k2 .char (3 : Int32) [(.int c0), (.int c1), (.int c2)] (.int (0 : Int32)) := Arv.set Ar5 q5 Sz5 Ng5 Hs5 Ft5 ft5 W5 2 rfl (Nat.le_of_ble_eq_true rfl)
  have K5 := K4.wr W5 (Or.inr sz_sd)
  have N5 := Fr.snoc X5 N4 g_sd
  refine Goes.pre (U' := T5.setTop (mkF m 78 #[.val (.int (3 : Int32)), .val (.int c0), .val (.int c1), .val (.int c2)] [(.ref sd), (.ref sr), (.ref sr)])) (fun t k => st5 t k) ?_
  have lt_sd := E_sd.lt
  have lt_sr := E_sr.lt
  obtain ⟨_, _, ⟨T6, L6, k6, n6⟩, -, X6, ⟨Lc6, hQ6, l6, y6, z6⟩, st6⟩ := X5.specialBack hx (y := (⟨"java/lang/String", "<init>", "([C)V"⟩ : MethodName)) rfl hown (mvT hZ (wq hw 12 rfl)) (mvT hZ (wq hw 13 rfl)) (mvT hZ (wq hw 14 rfl)) (by decide) (backOf (W := 1) (rm_init1_3 l Z a0 hw [] sr sd k2 c0 c1 c2 cs h5 n0 Z5 E_sr F_value_sr F_coder_sr V_sd S_COMPACT_STRINGS S__assertionsDisabled S_HI_BYTE_SHIFT S_LO_BYTE_SHIFT (hch0) (hch1) (hch2) hcs ne_sd_sr g_sr O) hZ (wq hw 14 rfl) (wq hw 10 rfl) (by decide) (by decide)) (g := (mkF m 78 #[.val (.int (3 : Int32)), .val (.int c0), .val (.int c1), .val (.int c2)] [(.ref sd), (.ref sr), (.ref sr)])) rfl (by rw [hml]; rfl) (Steps.refl _) (a := sr) (argsL := [(.ref sd)]) (rest := [(.ref sr)]) (lenOf pd__28_5bC_29V rfl) rfl (by show 2 * 0 + _ ≤ _; exact Nat.le_of_eq rfl) (hb hby d2_78) (fun _ _ => ⟨rfl, e5, (by decide : 2 + 2 ≤ _), (by decide : 7 + 9 ≤ _)⟩)
  dsimp only [Pt.U, Pt.locs, Pt.cells, Pt.slots] at X6 l6 y6 z6 st6 hQ6
  subst l6 y6 z6
  obtain ⟨b6, kb6, rfl, N6q, KQ6, fo0_6, g_b6, sl_b6⟩ := hQ6
  have N6 := Fr.app N5 N6q
  have E_sr := E_sr.keep KQ6
  have E_sd := E_sd.keep KQ6
  have V_sd := V_sd.keep KQ6 (ninS ne_sd_sr nin0)
  have Z7 : n0 ≤ T6.heap.size := Nat.le_trans Z5 KQ6.1
  have O := O.keep KQ6 (allS (P := fun x => n0 ≤ x) g_sr all0)
  have K7 := K5.trans KQ6 (allS (P := fun x => x ∈ [] ∨ h0.size ≤ x) (Or.inr sz_sr) all0)
  have ne_sd_b6 : sd ≠ b6 := Nat.ne_of_lt (Nat.lt_of_lt_of_le lt_sd sl_b6)
  have ne_b6_sd := ne_sd_b6.symm
  have ne_sr_b6 : sr ≠ b6 := Nat.ne_of_lt (Nat.lt_of_lt_of_le lt_sr sl_b6)
  have ne_b6_sr := ne_sr_b6.symm
  have sz_b6 : h0.size ≤ b6 := Nat.le_trans K5.1 sl_b6
  have S_sr := fo0_6
  refine Goes.pre (U' := T6.setTop (mkF m 81 #[.val (.int (3 : Int32)), .val (.int c0), .val (.int c1), .val (.int c2)] [(.ref sr)])) (fun t k => st6.trans k) ?_
  refine Goes.ret X6 (v := (some (.ref sr))) (fun h => by rw [hret] at h; cases h) hlk (by decide) (by decide) rfl (fun fs hr => retOut X6 hx hret rfl (Or.inr (Or.inr (Or.inr (Or.inr ⟨rfl, rfl, rfl⟩)))) (hb hby d2_81) hr) ?_
  exact ⟨sr, b6, kb6, rfl, N6, K7, S_sr⟩
theorem ef_rm_blank0 (m : MethodId) (x0 : Addr) : entryFrame m #[(.ref x0)] 2 = mkF m 0 #[.val (.ref x0), .unset] [] := by first | (simp [entryFrame, mkF, argsToLocals, Value.category]; done) | rfl
abbrev M6 : MethodName := ⟨"com/example/restate/restate/plan/Spaces", "blank", "(Ljava/lang/CharSequence;)Z"⟩
theorem d6_0 : decode prog_34_method_3_code 0 = .ok (.iconst 0, 1) := by decide +kernel
theorem d6_1 : decode prog_34_method_3_code 1 = .ok (.istore_n 1, 1) := by decide +kernel
theorem d6_2 : decode prog_34_method_3_code 2 = .ok (.iload_n 1, 1) := by decide +kernel
theorem d6_3 : decode prog_34_method_3_code 3 = .ok (.aload_n 0, 1) := by decide +kernel
theorem d6_4 : decode prog_34_method_3_code 4 = .ok (.invokeinterface 7 1, 5) := by decide +kernel
theorem pd__28_29I : parseMethodDescriptor "()I" = some ⟨[], some .int⟩ := by decide +kernel
theorem d6_9 : decode prog_34_method_3_code 9 = .ok (.if_icmp .ge 24, 3) := by decide +kernel
theorem d6_33 : decode prog_34_method_3_code 33 = .ok (.iconst 1, 1) := by decide +kernel
theorem d6_34 : decode prog_34_method_3_code 34 = .ok (.ireturn, 1) := by decide +kernel
def own_blank0  : Int32 := (1 : Int32)
def Q_rm_blank0 (Z : State) (a : Addr) (b : Addr) (kb : ClassId) (cs : Int32) (sf : Value) (h0 : Heap) (n0 : Nat) (v : Option Value) (h : Heap) (L : List Loc) : Prop := v = some (.int own_blank0) ∧ Fr n0 L ∧ h = h0
set_option maxRecDepth 65536 in
set_option maxHeartbeats 40000000 in
theorem rm_blank0 (l : Launch) (Z : State) (a0 : Array Value) (hw : ∀ d ∈ tables_1, d.before a0 Z = true) (ws : List Jvm.Cond) (a : Addr) (b : Addr) (kb : ClassId) (cs : Int32) (sf : Value) (h0 : Heap) (n0 : Nat) (Z0 : n0 ≤ h0.size) (S_a : OwnStr Z h0 a b kb []) (S_COMPACT_STRINGS : Sta Z Z.heap "java/lang/String" "COMPACT_STRINGS" "Z" (.int cs)) (S__assertionsDisabled : Sta Z Z.heap "java/lang/StringUTF16" "$assertionsDisabled" "Z" (.int (1 : Int32))) (S_HI_BYTE_SHIFT : Sta Z Z.heap "java/lang/StringUTF16" "HI_BYTE_SHIFT" "I" (.int (0 : Int32))) (S_LO_BYTE_SHIFT : Sta Z Z.heap "java/lang/StringUTF16" "LO_BYTE_SHIFT" "I" (.int (8 : Int32))) (S_SIOOBE_FORMATTER : Sta Z Z.heap "jdk/internal/util/Preconditions" "SIOOBE_FORMATTER" "Ljava/util/function/BiFunction;" sf) (hcs : ¬ (cs = (0 : Int32))) (hsf : sf.isRef = true) (O : Old Z n0 h0) :
    Met l Z M6 prog_34_method_3_code 2 (some .boolean) ws (Rm 2 0 0 26) #[(.ref a)] h0 (Q_rm_blank0 Z a b kb cs sf h0 n0) := by
  refine met_of (plainFor_of_name pn_com_example_restate_restate_plan_Spaces) (own := "com/example/restate/restate/plan/Spaces") rfl (fun m => ef_rm_blank0 m a) ?_
  intro p e s m below meth c s₁ hx hby hml hown hnm hZ X0 e0 hret hlk
  have N0 := Fr.nil n0
  show Goes p e below s _ _ _ (s₁.setTop (mkF m 0 #[.val (.ref a), .unset] []))
  refine Goes.pre (U' := s₁.setTop (mkF m 4 #[.val (.ref a), .val (.int (0 : Int32))] [(.ref a), (.int (0 : Int32))])) (fun t k => XS.iconst X0.here hx rfl (hb hby d6_0) (XS.istoreN X0.here hx rfl (hb hby d6_1) rfl (l' := #[.val (.ref a), .val (.int (0 : Int32))]) rfl (XS.iloadN X0.here hx rfl (hb hby d6_2) rfl (XS.aloadN X0.here hx rfl (hb hby d6_3) rfl rfl k)))) ?_
  obtain ⟨cq1, kq1, q1a, q1b, q1c⟩ := isOf hZ e0 S_a.1
  obtain ⟨_, _, ⟨T1, L1, k1, n1⟩, -, X1, ⟨Lc1, hQ1, l1, y1, z1⟩, st1⟩ := X0.interfaceBack hx (xi := (⟨"java/lang/CharSequence", "length", "()I"⟩ : MethodName)) (y := (⟨"java/lang/String", "length", "()I"⟩ : MethodName)) hown (mvT hZ (wq hw 34 rfl)) (mvT hZ (wq hw 35 rfl)) (mvT hZ (wq hw 36 rfl)) (mvT hZ (wq hw 37 rfl)) (mvT hZ (wq hw 38 rfl)) (mvT hZ (wq hw 39 rfl)) (mvT hZ (wq hw 40 rfl)) (mvT hZ (wq hw 41 rfl)) (by decide) (backOf (W := 1) (rm_len0 l Z a0 hw [] a b kb cs h0 n0 Z0 S_a S_COMPACT_STRINGS hcs O) hZ (wq hw 42 rfl) (wq hw 10 rfl) (by decide) (by decide)) q1a q1b q1c (g := (mkF m 4 #[.val (.ref a), .val (.int (0 : Int32))] [(.ref a), (.int (0 : Int32))])) rfl (by rw [hml]; rfl) (Steps.refl _) (argsL := []) (rest := [(.int (0 : Int32))]) (lenOf pd__28_29I rfl) rfl (by show 2 * 0 + _ ≤ _; exact Nat.le_of_eq rfl) (hb hby d6_4) (fun _ _ => ⟨rfl, e0, (by decide : 0 + 0 ≤ _), (by decide : 0 + 0 ≤ _)⟩)
  dsimp only [Pt.U, Pt.locs, Pt.cells, Pt.slots] at X1 l1 y1 z1 st1 hQ1
  subst l1 y1 z1
  obtain ⟨rfl, N1q, HQ1⟩ := hQ1
  have N1 := Fr.app N0 N1q
  refine Goes.pre (U' := T1.setTop (mkF m 9 #[.val (.ref a), .val (.int (0 : Int32))] [(.int (0 : Int32)), (.int (0 : Int32))])) (fun t k => st1.trans k) ?_
  have hc9 : ¬ ((0 : Int32) < (0 : Int32)) := by decide
  refine Goes.pre (U' := T1.setTop (mkF m 34 #[.val (.ref a), .val (.int (0 : Int32))] [(.int (1 : Int32))])) (fun t k => XS.icmpYes X1.here hx rfl (pc0 := 9) (pc' := 33) rfl (hb hby d6_9) rfl (flt hc9).2.1 (by decide) (by decide) (XS.iconst X1.here hx rfl (hb hby d6_33) k)) ?_
  refine Goes.ret X1 (v := (some (.int (1 : Int32)))) (fun h => by rw [hret] at h; cases h) hlk (by decide) (by decide) HQ1 (fun fs hr => retN X1 hx (t := .boolean) hret (by simp) (hb hby d6_34) hr) ?_
  exact ⟨congrArg (fun z => some (Value.int z)) (show (1 : Int32) = own_blank0  from (show own_blank0  = (1 : Int32) from by unfold own_blank0; rfl).symm), N1, rfl⟩
theorem ef_rm_blank1 (m : MethodId) (x0 : Addr) : entryFrame m #[(.ref x0)] 2 = mkF m 0 #[.val (.ref x0), .unset] [] := by first | (simp [entryFrame, mkF, argsToLocals, Value.category]; done) | rfl
theorem d6_12 : decode prog_34_method_3_code 12 = .ok (.aload_n 0, 1) := by decide +kernel
theorem d6_13 : decode prog_34_method_3_code 13 = .ok (.iload_n 1, 1) := by decide +kernel
theorem d6_14 : decode prog_34_method_3_code 14 = .ok (.invokeinterface 13 2, 5) := by decide +kernel
theorem pd__28I_29C : parseMethodDescriptor "(I)C" = some ⟨[.int], some .char⟩ := by decide +kernel
theorem d6_19 : decode prog_34_method_3_code 19 = .ok (.invokestatic 17, 3) := by decide +kernel
theorem pd__28C_29Z : parseMethodDescriptor "(C)Z" = some ⟨[.char], some .boolean⟩ := by decide +kernel
theorem d6_22 : decode prog_34_method_3_code 22 = .ok (.ifCond .ne 5, 3) := by decide +kernel
theorem d6_25 : decode prog_34_method_3_code 25 = .ok (.iconst 0, 1) := by decide +kernel
theorem d6_26 : decode prog_34_method_3_code 26 = .ok (.ireturn, 1) := by decide +kernel
theorem d6_27 : decode prog_34_method_3_code 27 = .ok (.iinc 1 1, 3) := by decide +kernel
theorem d6_30 : decode prog_34_method_3_code 30 = .ok (.goto (-28), 3) := by decide +kernel
def own_blank1 (c0 : Int32) : Int32 := (if (own_space c0) = (0 : Int32) then (0 : Int32) else (1 : Int32))
def Q_rm_blank1 (Z : State) (a : Addr) (b : Addr) (kb : ClassId) (c0 : Int32) (cs : Int32) (sf : Value) (h0 : Heap) (n0 : Nat) (v : Option Value) (h : Heap) (L : List Loc) : Prop := v = some (.int (own_blank1 c0)) ∧ Fr n0 L ∧ h = h0
set_option maxRecDepth 65536 in
set_option maxHeartbeats 40000000 in
theorem rm_blank1 (l : Launch) (Z : State) (a0 : Array Value) (hw : ∀ d ∈ tables_1, d.before a0 Z = true) (ws : List Jvm.Cond) (a : Addr) (b : Addr) (kb : ClassId) (c0 : Int32) (cs : Int32) (sf : Value) (h0 : Heap) (n0 : Nat) (Z0 : n0 ≤ h0.size) (S_a : OwnStr Z h0 a b kb [c0]) (S_COMPACT_STRINGS : Sta Z Z.heap "java/lang/String" "COMPACT_STRINGS" "Z" (.int cs)) (S__assertionsDisabled : Sta Z Z.heap "java/lang/StringUTF16" "$assertionsDisabled" "Z" (.int (1 : Int32))) (S_HI_BYTE_SHIFT : Sta Z Z.heap "java/lang/StringUTF16" "HI_BYTE_SHIFT" "I" (.int (0 : Int32))) (S_LO_BYTE_SHIFT : Sta Z Z.heap "java/lang/StringUTF16" "LO_BYTE_SHIFT" "I" (.int (8 : Int32))) (S_SIOOBE_FORMATTER : Sta Z Z.heap "jdk/internal/util/Preconditions" "SIOOBE_FORMATTER" "Ljava/util/function/BiFunction;" sf) (hcs : ¬ (cs = (0 : Int32))) (hsf : sf.isRef = true) (O : Old Z n0 h0) :
    Met l Z M6 prog_34_method_3_code 2 (some .boolean) ws (Rm 5 0 0 66) #[(.ref a)] h0 (Q_rm_blank1 Z a b kb c0 cs sf h0 n0) := by
  refine met_of (plainFor_of_name pn_com_example_restate_restate_plan_Spaces) (own := "com/example/restate/restate/plan/Spaces") rfl (fun m => ef_rm_blank1 m a) ?_
  intro p e s m below meth c s₁ hx hby hml hown hnm hZ X0 e0 hret hlk
  have N0 := Fr.nil n0
  show Goes p e below s _ _ _ (s₁.setTop (mkF m 0 #[.val (.ref a), .unset] []))
  refine Goes.pre (U' := s₁.setTop (mkF m 4 #[.val (.ref a), .val (.int (0 : Int32))] [(.ref a), (.int (0 : Int32))])) (fun t k => XS.iconst X0.here hx rfl (hb hby d6_0) (XS.istoreN X0.here hx rfl (hb hby d6_1) rfl (l' := #[.val (.ref a), .val (.int (0 : Int32))]) rfl (XS.iloadN X0.here hx rfl (hb hby d6_2) rfl (XS.aloadN X0.here hx rfl (hb hby d6_3) rfl rfl k)))) ?_
  obtain ⟨cq1, kq1, q1a, q1b, q1c⟩ := isOf hZ e0 S_a.1
  obtain ⟨_, _, ⟨T1, L1, k1, n1⟩, -, X1, ⟨Lc1, hQ1, l1, y1, z1⟩, st1⟩ := X0.interfaceBack hx (xi := (⟨"java/lang/CharSequence", "length", "()I"⟩ : MethodName)) (y := (⟨"java/lang/String", "length", "()I"⟩ : MethodName)) hown (mvT hZ (wq hw 34 rfl)) (mvT hZ (wq hw 35 rfl)) (mvT hZ (wq hw 36 rfl)) (mvT hZ (wq hw 37 rfl)) (mvT hZ (wq hw 38 rfl)) (mvT hZ (wq hw 39 rfl)) (mvT hZ (wq hw 40 rfl)) (mvT hZ (wq hw 41 rfl)) (by decide) (backOf (W := 1) (rm_len1 l Z a0 hw [] a b kb c0 cs h0 n0 Z0 S_a S_COMPACT_STRINGS hcs O) hZ (wq hw 42 rfl) (wq hw 10 rfl) (by decide) (by decide)) q1a q1b q1c (g := (mkF m 4 #[.val (.ref a), .val (.int (0 : Int32))] [(.ref a), (.int (0 : Int32))])) rfl (by rw [hml]; rfl) (Steps.refl _) (argsL := []) (rest := [(.int (0 : Int32))]) (lenOf pd__28_29I rfl) rfl (by show 2 * 0 + _ ≤ _; exact Nat.le_of_eq rfl) (hb hby d6_4) (fun _ _ => ⟨rfl, e0, (by decide : 0 + 0 ≤ _), (by decide : 0 + 0 ≤ _)⟩)
  dsimp only [Pt.U, Pt.locs, Pt.cells, Pt.slots] at X1 l1 y1 z1 st1 hQ1
  subst l1 y1 z1
  obtain ⟨rfl, N1q, HQ1⟩ := hQ1
  have N1 := Fr.app N0 N1q
  refine Goes.pre (U' := T1.setTop (mkF m 9 #[.val (.ref a), .val (.int (0 : Int32))] [(.int (1 : Int32)), (.int (0 : Int32))])) (fun t k => st1.trans k) ?_
  have hc9 : (0 : Int32) < (1 : Int32) := by decide
  refine Goes.pre (U' := T1.setTop (mkF m 14 #[.val (.ref a), .val (.int (0 : Int32))] [(.int (0 : Int32)), (.ref a)])) (fun t k => XS.icmpNo X1.here hx rfl (hb hby d6_9) rfl (tlt hc9).2.1 (XS.aloadN X1.here hx rfl (hb hby d6_12) rfl rfl (XS.iloadN X1.here hx rfl (hb hby d6_13) rfl k))) ?_
  obtain ⟨cq2, kq2, q2a, q2b, q2c⟩ := isOf hZ HQ1 S_a.1
  obtain ⟨_, _, ⟨T2, L2, k2, n2⟩, -, X2, ⟨Lc2, hQ2, l2, y2, z2⟩, st2⟩ := X1.interfaceBack hx (xi := (⟨"java/lang/CharSequence", "charAt", "(I)C"⟩ : MethodName)) (y := (⟨"java/lang/String", "charAt", "(I)C"⟩ : MethodName)) hown (mvT hZ (wq hw 62 rfl)) (mvT hZ (wq hw 63 rfl)) (mvT hZ (wq hw 64 rfl)) (mvT hZ (wq hw 65 rfl)) (mvT hZ (wq hw 66 rfl)) (mvT hZ (wq hw 67 rfl)) (mvT hZ (wq hw 68 rfl)) (mvT hZ (wq hw 41 rfl)) (by decide) (backOf (W := 0) (rm_ch10 l Z a0 hw [] a b kb c0 cs sf h0 n0 Z0 S_a S_COMPACT_STRINGS S__assertionsDisabled S_HI_BYTE_SHIFT S_LO_BYTE_SHIFT S_SIOOBE_FORMATTER hcs hsf O) hZ (wq hw 69 rfl) (wq hw 10 rfl) (by decide) (by decide)) q2a q2b q2c (g := (mkF m 14 #[.val (.ref a), .val (.int (0 : Int32))] [(.int (0 : Int32)), (.ref a)])) rfl (by rw [hml]; rfl) (Steps.refl _) (argsL := [(.int (0 : Int32))]) (rest := []) (lenOf pd__28I_29C rfl) rfl (by show 2 * 0 + _ ≤ _; exact Nat.le_of_eq rfl) (hb hby d6_14) (fun _ _ => ⟨rfl, HQ1, (by decide : 0 + 0 ≤ _), (by decide : 0 + 0 ≤ _)⟩)
  dsimp only [Pt.U, Pt.locs, Pt.cells, Pt.slots] at X2 l2 y2 z2 st2 hQ2
  subst l2 y2 z2
  obtain ⟨rfl, N2q, HQ2⟩ := hQ2
  have N2 := Fr.app N1 N2q
  refine Goes.pre (U' := T2.setTop (mkF m 19 #[.val (.ref a), .val (.int (0 : Int32))] [(.int c0)])) (fun t k => st2.trans k) ?_
  obtain ⟨_, _, ⟨T3, L3, k3, n3⟩, -, X3, ⟨Lc3, hQ3, l3, y3, z3⟩, st3⟩ := Jvm.LawKit.callS X2 hx (y := (⟨"com/example/restate/restate/plan/Spaces", "space", "(C)Z"⟩ : MethodName)) hown (mvT hZ (wq hw 87 rfl)) (mvT hZ (wq hw 88 rfl)) (mvT hZ (wq hw 32 rfl)) (mvT hZ (wq hw 89 rfl)) (by decide) (backOf (W := 0) (rm_space l Z a0 hw [] c0 h0 n0 Z0) hZ (wq hw 89 rfl) (wq hw 32 rfl) (by decide) (by decide)) (g := (mkF m 19 #[.val (.ref a), .val (.int (0 : Int32))] [(.int c0)])) rfl (by rw [hml]; rfl) (argsL := [(.int c0)]) (rest := []) (lenOf pd__28C_29Z rfl) rfl (by show 2 * 0 + _ ≤ _; exact Nat.le_of_eq rfl) (hb hby d6_19) (fun _ _ => ⟨rfl, HQ2, (by decide : 0 + 0 ≤ _), (by decide : 0 + 0 ≤ _)⟩)
  dsimp only [Pt.U, Pt.locs, Pt.cells, Pt.slots] at X3 l3 y3 z3 st3 hQ3
  subst l3 y3 z3
  obtain ⟨rfl, N3q, HQ3⟩ := hQ3
  have N3 := Fr.app N2 N3q
  refine Goes.pre (U' := T3.setTop (mkF m 22 #[.val (.ref a), .val (.int (0 : Int32))] [(.int (own_space c0))])) (fun t k => st3 t k) ?_
  by_cases hc22 : (own_space c0) = (0 : Int32)
  ·
    refine Goes.pre (U' := T3.setTop (mkF m 26 #[.val (.ref a), .val (.int (0 : Int32))] [(.int (0 : Int32))])) (fun t k => XS.ifNo X3.here hx rfl (hb hby d6_22) rfl ((if0 _ _).trans (teq hc22).2) (XS.iconst X3.here hx rfl (hb hby d6_25) k)) ?_
    refine Goes.ret X3 (v := (some (.int (0 : Int32)))) (fun h => by rw [hret] at h; cases h) hlk (by decide) (by decide) HQ3 (fun fs hr => retN X3 hx (t := .boolean) hret (by simp) (hb hby d6_26) hr) ?_
    exact ⟨congrArg (fun z => some (Value.int z)) (show (0 : Int32) = own_blank1 c0 from (show own_blank1 c0 = (0 : Int32) from by unfold own_blank1; rw [if_pos hc22]).symm), N3, rfl⟩
  ·
    refine Goes.pre (U' := T3.setTop (mkF m 30 #[.val (.ref a), .val (.int ((0 : Int32) + (1 : Int32)))] [])) (fun t k => XS.ifYes X3.here hx rfl (pc0 := 22) (pc' := 27) rfl (hb hby d6_22) rfl ((if0 _ _).trans (feq hc22).2) (by decide) (by decide) (XT.iincV X3.here hx rfl (1 : Int32) (hb hby d6_27) (by decide) rfl (l' := #[.val (.ref a), .val (.int ((0 : Int32) + (1 : Int32)))]) rfl k)) ?_
    rw [(by decide : ((0 : Int32) + (1 : Int32)) = (1 : Int32))]
    refine Goes.pre (U' := T3.setTop (mkF m 4 #[.val (.ref a), .val (.int (1 : Int32))] [(.ref a), (.int (1 : Int32))])) (fun t k => XS.goto X3.here hx rfl (pc0 := 30) (pc' := 2) rfl (hb hby d6_30) (by decide) (by decide) (XS.iloadN X3.here hx rfl (hb hby d6_2) rfl (XS.aloadN X3.here hx rfl (hb hby d6_3) rfl rfl k))) ?_
    obtain ⟨cq4, kq4, q4a, q4b, q4c⟩ := isOf hZ HQ3 S_a.1
    obtain ⟨_, _, ⟨T4, L4, k4, n4⟩, -, X4, ⟨Lc4, hQ4, l4, y4, z4⟩, st4⟩ := X3.interfaceBack hx (xi := (⟨"java/lang/CharSequence", "length", "()I"⟩ : MethodName)) (y := (⟨"java/lang/String", "length", "()I"⟩ : MethodName)) hown (mvT hZ (wq hw 34 rfl)) (mvT hZ (wq hw 35 rfl)) (mvT hZ (wq hw 36 rfl)) (mvT hZ (wq hw 37 rfl)) (mvT hZ (wq hw 38 rfl)) (mvT hZ (wq hw 39 rfl)) (mvT hZ (wq hw 40 rfl)) (mvT hZ (wq hw 41 rfl)) (by decide) (backOf (W := 1) (rm_len1 l Z a0 hw [] a b kb c0 cs h0 n0 Z0 S_a S_COMPACT_STRINGS hcs O) hZ (wq hw 42 rfl) (wq hw 10 rfl) (by decide) (by decide)) q4a q4b q4c (g := (mkF m 4 #[.val (.ref a), .val (.int (1 : Int32))] [(.ref a), (.int (1 : Int32))])) rfl (by rw [hml]; rfl) (Steps.refl _) (argsL := []) (rest := [(.int (1 : Int32))]) (lenOf pd__28_29I rfl) rfl (by show 2 * 0 + _ ≤ _; exact Nat.le_of_eq rfl) (hb hby d6_4) (fun _ _ => ⟨rfl, HQ3, (by decide : 0 + 0 ≤ _), (by decide : 0 + 0 ≤ _)⟩)
    dsimp only [Pt.U, Pt.locs, Pt.cells, Pt.slots] at X4 l4 y4 z4 st4 hQ4
    subst l4 y4 z4
    obtain ⟨rfl, N4q, HQ4⟩ := hQ4
    have N4 := Fr.app N3 N4q
    refine Goes.pre (U' := T4.setTop (mkF m 9 #[.val (.ref a), .val (.int (1 : Int32))] [(.int (1 : Int32)), (.int (1 : Int32))])) (fun t k => st4.trans k) ?_
    have hc9 : ¬ ((1 : Int32) < (1 : Int32)) := by decide
    refine Goes.pre (U' := T4.setTop (mkF m 34 #[.val (.ref a), .val (.int (1 : Int32))] [(.int (1 : Int32))])) (fun t k => XS.icmpYes X4.here hx rfl (pc0 := 9) (pc' := 33) rfl (hb hby d6_9) rfl (flt hc9).2.1 (by decide) (by decide) (XS.iconst X4.here hx rfl (hb hby d6_33) k)) ?_
    refine Goes.ret X4 (v := (some (.int (1 : Int32)))) (fun h => by rw [hret] at h; cases h) hlk (by decide) (by decide) HQ4 (fun fs hr => retN X4 hx (t := .boolean) hret (by simp) (hb hby d6_34) hr) ?_
    exact ⟨congrArg (fun z => some (Value.int z)) (show (1 : Int32) = own_blank1 c0 from (show own_blank1 c0 = (1 : Int32) from by unfold own_blank1; rw [if_neg hc22]).symm), N4, rfl⟩
theorem ef_rm_blank2 (m : MethodId) (x0 : Addr) : entryFrame m #[(.ref x0)] 2 = mkF m 0 #[.val (.ref x0), .unset] [] := by first | (simp [entryFrame, mkF, argsToLocals, Value.category]; done) | rfl
def own_blank2 (c0 c1 : Int32) : Int32 := (if (own_space c0) = (0 : Int32) then (0 : Int32) else (if (own_space c1) = (0 : Int32) then (0 : Int32) else (1 : Int32)))
def Q_rm_blank2 (Z : State) (a : Addr) (b : Addr) (kb : ClassId) (c0 : Int32) (c1 : Int32) (cs : Int32) (sf : Value) (h0 : Heap) (n0 : Nat) (v : Option Value) (h : Heap) (L : List Loc) : Prop := v = some (.int (own_blank2 c0 c1)) ∧ Fr n0 L ∧ h = h0
set_option maxRecDepth 65536 in
set_option maxHeartbeats 40000000 in
theorem rm_blank2 (l : Launch) (Z : State) (a0 : Array Value) (hw : ∀ d ∈ tables_1, d.before a0 Z = true) (ws : List Jvm.Cond) (a : Addr) (b : Addr) (kb : ClassId) (c0 : Int32) (c1 : Int32) (cs : Int32) (sf : Value) (h0 : Heap) (n0 : Nat) (Z0 : n0 ≤ h0.size) (S_a : OwnStr Z h0 a b kb [c0, c1]) (S_COMPACT_STRINGS : Sta Z Z.heap "java/lang/String" "COMPACT_STRINGS" "Z" (.int cs)) (S__assertionsDisabled : Sta Z Z.heap "java/lang/StringUTF16" "$assertionsDisabled" "Z" (.int (1 : Int32))) (S_HI_BYTE_SHIFT : Sta Z Z.heap "java/lang/StringUTF16" "HI_BYTE_SHIFT" "I" (.int (0 : Int32))) (S_LO_BYTE_SHIFT : Sta Z Z.heap "java/lang/StringUTF16" "LO_BYTE_SHIFT" "I" (.int (8 : Int32))) (S_SIOOBE_FORMATTER : Sta Z Z.heap "jdk/internal/util/Preconditions" "SIOOBE_FORMATTER" "Ljava/util/function/BiFunction;" sf) (hcs : ¬ (cs = (0 : Int32))) (hsf : sf.isRef = true) (O : Old Z n0 h0) :
    Met l Z M6 prog_34_method_3_code 2 (some .boolean) ws (Rm 5 0 0 66) #[(.ref a)] h0 (Q_rm_blank2 Z a b kb c0 c1 cs sf h0 n0) := by
  refine met_of (plainFor_of_name pn_com_example_restate_restate_plan_Spaces) (own := "com/example/restate/restate/plan/Spaces") rfl (fun m => ef_rm_blank2 m a) ?_
  intro p e s m below meth c s₁ hx hby hml hown hnm hZ X0 e0 hret hlk
  have N0 := Fr.nil n0
  show Goes p e below s _ _ _ (s₁.setTop (mkF m 0 #[.val (.ref a), .unset] []))
  refine Goes.pre (U' := s₁.setTop (mkF m 4 #[.val (.ref a), .val (.int (0 : Int32))] [(.ref a), (.int (0 : Int32))])) (fun t k => XS.iconst X0.here hx rfl (hb hby d6_0) (XS.istoreN X0.here hx rfl (hb hby d6_1) rfl (l' := #[.val (.ref a), .val (.int (0 : Int32))]) rfl (XS.iloadN X0.here hx rfl (hb hby d6_2) rfl (XS.aloadN X0.here hx rfl (hb hby d6_3) rfl rfl k)))) ?_
  obtain ⟨cq1, kq1, q1a, q1b, q1c⟩ := isOf hZ e0 S_a.1
  obtain ⟨_, _, ⟨T1, L1, k1, n1⟩, -, X1, ⟨Lc1, hQ1, l1, y1, z1⟩, st1⟩ := X0.interfaceBack hx (xi := (⟨"java/lang/CharSequence", "length", "()I"⟩ : MethodName)) (y := (⟨"java/lang/String", "length", "()I"⟩ : MethodName)) hown (mvT hZ (wq hw 34 rfl)) (mvT hZ (wq hw 35 rfl)) (mvT hZ (wq hw 36 rfl)) (mvT hZ (wq hw 37 rfl)) (mvT hZ (wq hw 38 rfl)) (mvT hZ (wq hw 39 rfl)) (mvT hZ (wq hw 40 rfl)) (mvT hZ (wq hw 41 rfl)) (by decide) (backOf (W := 1) (rm_len2 l Z a0 hw [] a b kb c0 c1 cs h0 n0 Z0 S_a S_COMPACT_STRINGS hcs O) hZ (wq hw 42 rfl) (wq hw 10 rfl) (by decide) (by decide)) q1a q1b q1c (g := (mkF m 4 #[.val (.ref a), .val (.int (0 : Int32))] [(.ref a), (.int (0 : Int32))])) rfl (by rw [hml]; rfl) (Steps.refl _) (argsL := []) (rest := [(.int (0 : Int32))]) (lenOf pd__28_29I rfl) rfl (by show 2 * 0 + _ ≤ _; exact Nat.le_of_eq rfl) (hb hby d6_4) (fun _ _ => ⟨rfl, e0, (by decide : 0 + 0 ≤ _), (by decide : 0 + 0 ≤ _)⟩)
  dsimp only [Pt.U, Pt.locs, Pt.cells, Pt.slots] at X1 l1 y1 z1 st1 hQ1
  subst l1 y1 z1
  obtain ⟨rfl, N1q, HQ1⟩ := hQ1
  have N1 := Fr.app N0 N1q
  refine Goes.pre (U' := T1.setTop (mkF m 9 #[.val (.ref a), .val (.int (0 : Int32))] [(.int (2 : Int32)), (.int (0 : Int32))])) (fun t k => st1.trans k) ?_
  have hc9 : (0 : Int32) < (2 : Int32) := by decide
  refine Goes.pre (U' := T1.setTop (mkF m 14 #[.val (.ref a), .val (.int (0 : Int32))] [(.int (0 : Int32)), (.ref a)])) (fun t k => XS.icmpNo X1.here hx rfl (hb hby d6_9) rfl (tlt hc9).2.1 (XS.aloadN X1.here hx rfl (hb hby d6_12) rfl rfl (XS.iloadN X1.here hx rfl (hb hby d6_13) rfl k))) ?_
  obtain ⟨cq2, kq2, q2a, q2b, q2c⟩ := isOf hZ HQ1 S_a.1
  obtain ⟨_, _, ⟨T2, L2, k2, n2⟩, -, X2, ⟨Lc2, hQ2, l2, y2, z2⟩, st2⟩ := X1.interfaceBack hx (xi := (⟨"java/lang/CharSequence", "charAt", "(I)C"⟩ : MethodName)) (y := (⟨"java/lang/String", "charAt", "(I)C"⟩ : MethodName)) hown (mvT hZ (wq hw 62 rfl)) (mvT hZ (wq hw 63 rfl)) (mvT hZ (wq hw 64 rfl)) (mvT hZ (wq hw 65 rfl)) (mvT hZ (wq hw 66 rfl)) (mvT hZ (wq hw 67 rfl)) (mvT hZ (wq hw 68 rfl)) (mvT hZ (wq hw 41 rfl)) (by decide) (backOf (W := 0) (rm_ch20 l Z a0 hw [] a b kb c0 c1 cs sf h0 n0 Z0 S_a S_COMPACT_STRINGS S__assertionsDisabled S_HI_BYTE_SHIFT S_LO_BYTE_SHIFT S_SIOOBE_FORMATTER hcs hsf O) hZ (wq hw 69 rfl) (wq hw 10 rfl) (by decide) (by decide)) q2a q2b q2c (g := (mkF m 14 #[.val (.ref a), .val (.int (0 : Int32))] [(.int (0 : Int32)), (.ref a)])) rfl (by rw [hml]; rfl) (Steps.refl _) (argsL := [(.int (0 : Int32))]) (rest := []) (lenOf pd__28I_29C rfl) rfl (by show 2 * 0 + _ ≤ _; exact Nat.le_of_eq rfl) (hb hby d6_14) (fun _ _ => ⟨rfl, HQ1, (by decide : 0 + 0 ≤ _), (by decide : 0 + 0 ≤ _)⟩)
  dsimp only [Pt.U, Pt.locs, Pt.cells, Pt.slots] at X2 l2 y2 z2 st2 hQ2
  subst l2 y2 z2
  obtain ⟨rfl, N2q, HQ2⟩ := hQ2
  have N2 := Fr.app N1 N2q
  refine Goes.pre (U' := T2.setTop (mkF m 19 #[.val (.ref a), .val (.int (0 : Int32))] [(.int c0)])) (fun t k => st2.trans k) ?_
  obtain ⟨_, _, ⟨T3, L3, k3, n3⟩, -, X3, ⟨Lc3, hQ3, l3, y3, z3⟩, st3⟩ := Jvm.LawKit.callS X2 hx (y := (⟨"com/example/restate/restate/plan/Spaces", "space", "(C)Z"⟩ : MethodName)) hown (mvT hZ (wq hw 87 rfl)) (mvT hZ (wq hw 88 rfl)) (mvT hZ (wq hw 32 rfl)) (mvT hZ (wq hw 89 rfl)) (by decide) (backOf (W := 0) (rm_space l Z a0 hw [] c0 h0 n0 Z0) hZ (wq hw 89 rfl) (wq hw 32 rfl) (by decide) (by decide)) (g := (mkF m 19 #[.val (.ref a), .val (.int (0 : Int32))] [(.int c0)])) rfl (by rw [hml]; rfl) (argsL := [(.int c0)]) (rest := []) (lenOf pd__28C_29Z rfl) rfl (by show 2 * 0 + _ ≤ _; exact Nat.le_of_eq rfl) (hb hby d6_19) (fun _ _ => ⟨rfl, HQ2, (by decide : 0 + 0 ≤ _), (by decide : 0 + 0 ≤ _)⟩)
  dsimp only [Pt.U, Pt.locs, Pt.cells, Pt.slots] at X3 l3 y3 z3 st3 hQ3
  subst l3 y3 z3
  obtain ⟨rfl, N3q, HQ3⟩ := hQ3
  have N3 := Fr.app N2 N3q
  refine Goes.pre (U' := T3.setTop (mkF m 22 #[.val (.ref a), .val (.int (0 : Int32))] [(.int (own_space c0))])) (fun t k => st3 t k) ?_
  by_cases hc22 : (own_space c0) = (0 : Int32)
  ·
    refine Goes.pre (U' := T3.setTop (mkF m 26 #[.val (.ref a), .val (.int (0 : Int32))] [(.int (0 : Int32))])) (fun t k => XS.ifNo X3.here hx rfl (hb hby d6_22) rfl ((if0 _ _).trans (teq hc22).2) (XS.iconst X3.here hx rfl (hb hby d6_25) k)) ?_
    refine Goes.ret X3 (v := (some (.int (0 : Int32)))) (fun h => by rw [hret] at h; cases h) hlk (by decide) (by decide) HQ3 (fun fs hr => retN X3 hx (t := .boolean) hret (by simp) (hb hby d6_26) hr) ?_
    exact ⟨congrArg (fun z => some (Value.int z)) (show (0 : Int32) = own_blank2 c0 c1 from (show own_blank2 c0 c1 = (0 : Int32) from by unfold own_blank2; rw [if_pos hc22]).symm), N3, rfl⟩
  ·
    refine Goes.pre (U' := T3.setTop (mkF m 30 #[.val (.ref a), .val (.int ((0 : Int32) + (1 : Int32)))] [])) (fun t k => XS.ifYes X3.here hx rfl (pc0 := 22) (pc' := 27) rfl (hb hby d6_22) rfl ((if0 _ _).trans (feq hc22).2) (by decide) (by decide) (XT.iincV X3.here hx rfl (1 : Int32) (hb hby d6_27) (by decide) rfl (l' := #[.val (.ref a), .val (.int ((0 : Int32) + (1 : Int32)))]) rfl k)) ?_
    rw [(by decide : ((0 : Int32) + (1 : Int32)) = (1 : Int32))]
    refine Goes.pre (U' := T3.setTop (mkF m 4 #[.val (.ref a), .val (.int (1 : Int32))] [(.ref a), (.int (1 : Int32))])) (fun t k => XS.goto X3.here hx rfl (pc0 := 30) (pc' := 2) rfl (hb hby d6_30) (by decide) (by decide) (XS.iloadN X3.here hx rfl (hb hby d6_2) rfl (XS.aloadN X3.here hx rfl (hb hby d6_3) rfl rfl k))) ?_
    obtain ⟨cq4, kq4, q4a, q4b, q4c⟩ := isOf hZ HQ3 S_a.1
    obtain ⟨_, _, ⟨T4, L4, k4, n4⟩, -, X4, ⟨Lc4, hQ4, l4, y4, z4⟩, st4⟩ := X3.interfaceBack hx (xi := (⟨"java/lang/CharSequence", "length", "()I"⟩ : MethodName)) (y := (⟨"java/lang/String", "length", "()I"⟩ : MethodName)) hown (mvT hZ (wq hw 34 rfl)) (mvT hZ (wq hw 35 rfl)) (mvT hZ (wq hw 36 rfl)) (mvT hZ (wq hw 37 rfl)) (mvT hZ (wq hw 38 rfl)) (mvT hZ (wq hw 39 rfl)) (mvT hZ (wq hw 40 rfl)) (mvT hZ (wq hw 41 rfl)) (by decide) (backOf (W := 1) (rm_len2 l Z a0 hw [] a b kb c0 c1 cs h0 n0 Z0 S_a S_COMPACT_STRINGS hcs O) hZ (wq hw 42 rfl) (wq hw 10 rfl) (by decide) (by decide)) q4a q4b q4c (g := (mkF m 4 #[.val (.ref a), .val (.int (1 : Int32))] [(.ref a), (.int (1 : Int32))])) rfl (by rw [hml]; rfl) (Steps.refl _) (argsL := []) (rest := [(.int (1 : Int32))]) (lenOf pd__28_29I rfl) rfl (by show 2 * 0 + _ ≤ _; exact Nat.le_of_eq rfl) (hb hby d6_4) (fun _ _ => ⟨rfl, HQ3, (by decide : 0 + 0 ≤ _), (by decide : 0 + 0 ≤ _)⟩)
    dsimp only [Pt.U, Pt.locs, Pt.cells, Pt.slots] at X4 l4 y4 z4 st4 hQ4
    subst l4 y4 z4
    obtain ⟨rfl, N4q, HQ4⟩ := hQ4
    have N4 := Fr.app N3 N4q
    refine Goes.pre (U' := T4.setTop (mkF m 9 #[.val (.ref a), .val (.int (1 : Int32))] [(.int (2 : Int32)), (.int (1 : Int32))])) (fun t k => st4.trans k) ?_
    have hc9 : (1 : Int32) < (2 : Int32) := by decide
    refine Goes.pre (U' := T4.setTop (mkF m 14 #[.val (.ref a), .val (.int (1 : Int32))] [(.int (1 : Int32)), (.ref a)])) (fun t k => XS.icmpNo X4.here hx rfl (hb hby d6_9) rfl (tlt hc9).2.1 (XS.aloadN X4.here hx rfl (hb hby d6_12) rfl rfl (XS.iloadN X4.here hx rfl (hb hby d6_13) rfl k))) ?_
    obtain ⟨cq5, kq5, q5a, q5b, q5c⟩ := isOf hZ HQ4 S_a.1
    obtain ⟨_, _, ⟨T5, L5, k5, n5⟩, -, X5, ⟨Lc5, hQ5, l5, y5, z5⟩, st5⟩ := X4.interfaceBack hx (xi := (⟨"java/lang/CharSequence", "charAt", "(I)C"⟩ : MethodName)) (y := (⟨"java/lang/String", "charAt", "(I)C"⟩ : MethodName)) hown (mvT hZ (wq hw 62 rfl)) (mvT hZ (wq hw 63 rfl)) (mvT hZ (wq hw 64 rfl)) (mvT hZ (wq hw 65 rfl)) (mvT hZ (wq hw 66 rfl)) (mvT hZ (wq hw 67 rfl)) (mvT hZ (wq hw 68 rfl)) (mvT hZ (wq hw 41 rfl)) (by decide) (backOf (W := 0) (rm_ch21 l Z a0 hw [] a b kb c0 c1 cs sf h0 n0 Z0 S_a S_COMPACT_STRINGS S__assertionsDisabled S_HI_BYTE_SHIFT S_LO_BYTE_SHIFT S_SIOOBE_FORMATTER hcs hsf O) hZ (wq hw 69 rfl) (wq hw 10 rfl) (by decide) (by decide)) q5a q5b q5c (g := (mkF m 14 #[.val (.ref a), .val (.int (1 : Int32))] [(.int (1 : Int32)), (.ref a)])) rfl (by rw [hml]; rfl) (Steps.refl _) (argsL := [(.int (1 : Int32))]) (rest := []) (lenOf pd__28I_29C rfl) rfl (by show 2 * 0 + _ ≤ _; exact Nat.le_of_eq rfl) (hb hby d6_14) (fun _ _ => ⟨rfl, HQ4, (by decide : 0 + 0 ≤ _), (by decide : 0 + 0 ≤ _)⟩)
    dsimp only [Pt.U, Pt.locs, Pt.cells, Pt.slots] at X5 l5 y5 z5 st5 hQ5
    subst l5 y5 z5
    obtain ⟨rfl, N5q, HQ5⟩ := hQ5
    have N5 := Fr.app N4 N5q
    refine Goes.pre (U' := T5.setTop (mkF m 19 #[.val (.ref a), .val (.int (1 : Int32))] [(.int c1)])) (fun t k => st5.trans k) ?_
    obtain ⟨_, _, ⟨T6, L6, k6, n6⟩, -, X6, ⟨Lc6, hQ6, l6, y6, z6⟩, st6⟩ := Jvm.LawKit.callS X5 hx (y := (⟨"com/example/restate/restate/plan/Spaces", "space", "(C)Z"⟩ : MethodName)) hown (mvT hZ (wq hw 87 rfl)) (mvT hZ (wq hw 88 rfl)) (mvT hZ (wq hw 32 rfl)) (mvT hZ (wq hw 89 rfl)) (by decide) (backOf (W := 0) (rm_space l Z a0 hw [] c1 h0 n0 Z0) hZ (wq hw 89 rfl) (wq hw 32 rfl) (by decide) (by decide)) (g := (mkF m 19 #[.val (.ref a), .val (.int (1 : Int32))] [(.int c1)])) rfl (by rw [hml]; rfl) (argsL := [(.int c1)]) (rest := []) (lenOf pd__28C_29Z rfl) rfl (by show 2 * 0 + _ ≤ _; exact Nat.le_of_eq rfl) (hb hby d6_19) (fun _ _ => ⟨rfl, HQ5, (by decide : 0 + 0 ≤ _), (by decide : 0 + 0 ≤ _)⟩)
    dsimp only [Pt.U, Pt.locs, Pt.cells, Pt.slots] at X6 l6 y6 z6 st6 hQ6
    subst l6 y6 z6
    obtain ⟨rfl, N6q, HQ6⟩ := hQ6
    have N6 := Fr.app N5 N6q
    refine Goes.pre (U' := T6.setTop (mkF m 22 #[.val (.ref a), .val (.int (1 : Int32))] [(.int (own_space c1))])) (fun t k => st6 t k) ?_
    by_cases hc22_2 : (own_space c1) = (0 : Int32)
    ·
      refine Goes.pre (U' := T6.setTop (mkF m 26 #[.val (.ref a), .val (.int (1 : Int32))] [(.int (0 : Int32))])) (fun t k => XS.ifNo X6.here hx rfl (hb hby d6_22) rfl ((if0 _ _).trans (teq hc22_2).2) (XS.iconst X6.here hx rfl (hb hby d6_25) k)) ?_
      refine Goes.ret X6 (v := (some (.int (0 : Int32)))) (fun h => by rw [hret] at h; cases h) hlk (by decide) (by decide) HQ6 (fun fs hr => retN X6 hx (t := .boolean) hret (by simp) (hb hby d6_26) hr) ?_
      exact ⟨congrArg (fun z => some (Value.int z)) (show (0 : Int32) = own_blank2 c0 c1 from (show own_blank2 c0 c1 = (0 : Int32) from by unfold own_blank2; rw [if_neg hc22, if_pos hc22_2]).symm), N6, rfl⟩
    ·
      refine Goes.pre (U' := T6.setTop (mkF m 30 #[.val (.ref a), .val (.int ((1 : Int32) + (1 : Int32)))] [])) (fun t k => XS.ifYes X6.here hx rfl (pc0 := 22) (pc' := 27) rfl (hb hby d6_22) rfl ((if0 _ _).trans (feq hc22_2).2) (by decide) (by decide) (XT.iincV X6.here hx rfl (1 : Int32) (hb hby d6_27) (by decide) rfl (l' := #[.val (.ref a), .val (.int ((1 : Int32) + (1 : Int32)))]) rfl k)) ?_
      rw [(by decide : ((1 : Int32) + (1 : Int32)) = (2 : Int32))]
      refine Goes.pre (U' := T6.setTop (mkF m 4 #[.val (.ref a), .val (.int (2 : Int32))] [(.ref a), (.int (2 : Int32))])) (fun t k => XS.goto X6.here hx rfl (pc0 := 30) (pc' := 2) rfl (hb hby d6_30) (by decide) (by decide) (XS.iloadN X6.here hx rfl (hb hby d6_2) rfl (XS.aloadN X6.here hx rfl (hb hby d6_3) rfl rfl k))) ?_
      obtain ⟨cq7, kq7, q7a, q7b, q7c⟩ := isOf hZ HQ6 S_a.1
      obtain ⟨_, _, ⟨T7, L7, k7, n7⟩, -, X7, ⟨Lc7, hQ7, l7, y7, z7⟩, st7⟩ := X6.interfaceBack hx (xi := (⟨"java/lang/CharSequence", "length", "()I"⟩ : MethodName)) (y := (⟨"java/lang/String", "length", "()I"⟩ : MethodName)) hown (mvT hZ (wq hw 34 rfl)) (mvT hZ (wq hw 35 rfl)) (mvT hZ (wq hw 36 rfl)) (mvT hZ (wq hw 37 rfl)) (mvT hZ (wq hw 38 rfl)) (mvT hZ (wq hw 39 rfl)) (mvT hZ (wq hw 40 rfl)) (mvT hZ (wq hw 41 rfl)) (by decide) (backOf (W := 1) (rm_len2 l Z a0 hw [] a b kb c0 c1 cs h0 n0 Z0 S_a S_COMPACT_STRINGS hcs O) hZ (wq hw 42 rfl) (wq hw 10 rfl) (by decide) (by decide)) q7a q7b q7c (g := (mkF m 4 #[.val (.ref a), .val (.int (2 : Int32))] [(.ref a), (.int (2 : Int32))])) rfl (by rw [hml]; rfl) (Steps.refl _) (argsL := []) (rest := [(.int (2 : Int32))]) (lenOf pd__28_29I rfl) rfl (by show 2 * 0 + _ ≤ _; exact Nat.le_of_eq rfl) (hb hby d6_4) (fun _ _ => ⟨rfl, HQ6, (by decide : 0 + 0 ≤ _), (by decide : 0 + 0 ≤ _)⟩)
      dsimp only [Pt.U, Pt.locs, Pt.cells, Pt.slots] at X7 l7 y7 z7 st7 hQ7
      subst l7 y7 z7
      obtain ⟨rfl, N7q, HQ7⟩ := hQ7
      have N7 := Fr.app N6 N7q
      refine Goes.pre (U' := T7.setTop (mkF m 9 #[.val (.ref a), .val (.int (2 : Int32))] [(.int (2 : Int32)), (.int (2 : Int32))])) (fun t k => st7.trans k) ?_
      have hc9 : ¬ ((2 : Int32) < (2 : Int32)) := by decide
      refine Goes.pre (U' := T7.setTop (mkF m 34 #[.val (.ref a), .val (.int (2 : Int32))] [(.int (1 : Int32))])) (fun t k => XS.icmpYes X7.here hx rfl (pc0 := 9) (pc' := 33) rfl (hb hby d6_9) rfl (flt hc9).2.1 (by decide) (by decide) (XS.iconst X7.here hx rfl (hb hby d6_33) k)) ?_
      refine Goes.ret X7 (v := (some (.int (1 : Int32)))) (fun h => by rw [hret] at h; cases h) hlk (by decide) (by decide) HQ7 (fun fs hr => retN X7 hx (t := .boolean) hret (by simp) (hb hby d6_34) hr) ?_
      exact ⟨congrArg (fun z => some (Value.int z)) (show (1 : Int32) = own_blank2 c0 c1 from (show own_blank2 c0 c1 = (1 : Int32) from by unfold own_blank2; rw [if_neg hc22, if_neg hc22_2]).symm), N7, rfl⟩
theorem ef_rm_blank3 (m : MethodId) (x0 : Addr) : entryFrame m #[(.ref x0)] 2 = mkF m 0 #[.val (.ref x0), .unset] [] := by first | (simp [entryFrame, mkF, argsToLocals, Value.category]; done) | rfl
def own_blank3 (c0 c1 c2 : Int32) : Int32 := (if (own_space c0) = (0 : Int32) then (0 : Int32) else (if (own_space c1) = (0 : Int32) then (0 : Int32) else (if (own_space c2) = (0 : Int32) then (0 : Int32) else (1 : Int32))))
def Q_rm_blank3 (Z : State) (a : Addr) (b : Addr) (kb : ClassId) (c0 : Int32) (c1 : Int32) (c2 : Int32) (cs : Int32) (sf : Value) (h0 : Heap) (n0 : Nat) (v : Option Value) (h : Heap) (L : List Loc) : Prop := v = some (.int (own_blank3 c0 c1 c2)) ∧ Fr n0 L ∧ h = h0
set_option maxRecDepth 65536 in
set_option maxHeartbeats 40000000 in
theorem rm_blank3 (l : Launch) (Z : State) (a0 : Array Value) (hw : ∀ d ∈ tables_1, d.before a0 Z = true) (ws : List Jvm.Cond) (a : Addr) (b : Addr) (kb : ClassId) (c0 : Int32) (c1 : Int32) (c2 : Int32) (cs : Int32) (sf : Value) (h0 : Heap) (n0 : Nat) (Z0 : n0 ≤ h0.size) (S_a : OwnStr Z h0 a b kb [c0, c1, c2]) (S_COMPACT_STRINGS : Sta Z Z.heap "java/lang/String" "COMPACT_STRINGS" "Z" (.int cs)) (S__assertionsDisabled : Sta Z Z.heap "java/lang/StringUTF16" "$assertionsDisabled" "Z" (.int (1 : Int32))) (S_HI_BYTE_SHIFT : Sta Z Z.heap "java/lang/StringUTF16" "HI_BYTE_SHIFT" "I" (.int (0 : Int32))) (S_LO_BYTE_SHIFT : Sta Z Z.heap "java/lang/StringUTF16" "LO_BYTE_SHIFT" "I" (.int (8 : Int32))) (S_SIOOBE_FORMATTER : Sta Z Z.heap "jdk/internal/util/Preconditions" "SIOOBE_FORMATTER" "Ljava/util/function/BiFunction;" sf) (hcs : ¬ (cs = (0 : Int32))) (hsf : sf.isRef = true) (O : Old Z n0 h0) :
    Met l Z M6 prog_34_method_3_code 2 (some .boolean) ws (Rm 5 0 0 66) #[(.ref a)] h0 (Q_rm_blank3 Z a b kb c0 c1 c2 cs sf h0 n0) := by
  refine met_of (plainFor_of_name pn_com_example_restate_restate_plan_Spaces) (own := "com/example/restate/restate/plan/Spaces") rfl (fun m => ef_rm_blank3 m a) ?_
  intro p e s m below meth c s₁ hx hby hml hown hnm hZ X0 e0 hret hlk
  have N0 := Fr.nil n0
  show Goes p e below s _ _ _ (s₁.setTop (mkF m 0 #[.val (.ref a), .unset] []))
  refine Goes.pre (U' := s₁.setTop (mkF m 4 #[.val (.ref a), .val (.int (0 : Int32))] [(.ref a), (.int (0 : Int32))])) (fun t k => XS.iconst X0.here hx rfl (hb hby d6_0) (XS.istoreN X0.here hx rfl (hb hby d6_1) rfl (l' := #[.val (.ref a), .val (.int (0 : Int32))]) rfl (XS.iloadN X0.here hx rfl (hb hby d6_2) rfl (XS.aloadN X0.here hx rfl (hb hby d6_3) rfl rfl k)))) ?_
  obtain ⟨cq1, kq1, q1a, q1b, q1c⟩ := isOf hZ e0 S_a.1
  obtain ⟨_, _, ⟨T1, L1, k1, n1⟩, -, X1, ⟨Lc1, hQ1, l1, y1, z1⟩, st1⟩ := X0.interfaceBack hx (xi := (⟨"java/lang/CharSequence", "length", "()I"⟩ : MethodName)) (y := (⟨"java/lang/String", "length", "()I"⟩ : MethodName)) hown (mvT hZ (wq hw 34 rfl)) (mvT hZ (wq hw 35 rfl)) (mvT hZ (wq hw 36 rfl)) (mvT hZ (wq hw 37 rfl)) (mvT hZ (wq hw 38 rfl)) (mvT hZ (wq hw 39 rfl)) (mvT hZ (wq hw 40 rfl)) (mvT hZ (wq hw 41 rfl)) (by decide) (backOf (W := 1) (rm_len3 l Z a0 hw [] a b kb c0 c1 c2 cs h0 n0 Z0 S_a S_COMPACT_STRINGS hcs O) hZ (wq hw 42 rfl) (wq hw 10 rfl) (by decide) (by decide)) q1a q1b q1c (g := (mkF m 4 #[.val (.ref a), .val (.int (0 : Int32))] [(.ref a), (.int (0 : Int32))])) rfl (by rw [hml]; rfl) (Steps.refl _) (argsL := []) (rest := [(.int (0 : Int32))]) (lenOf pd__28_29I rfl) rfl (by show 2 * 0 + _ ≤ _; exact Nat.le_of_eq rfl) (hb hby d6_4) (fun _ _ => ⟨rfl, e0, (by decide : 0 + 0 ≤ _), (by decide : 0 + 0 ≤ _)⟩)
  dsimp only [Pt.U, Pt.locs, Pt.cells, Pt.slots] at X1 l1 y1 z1 st1 hQ1
  subst l1 y1 z1
  obtain ⟨rfl, N1q, HQ1⟩ := hQ1
  have N1 := Fr.app N0 N1q
  refine Goes.pre (U' := T1.setTop (mkF m 9 #[.val (.ref a), .val (.int (0 : Int32))] [(.int (3 : Int32)), (.int (0 : Int32))])) (fun t k => st1.trans k) ?_
  have hc9 : (0 : Int32) < (3 : Int32) := by decide
  refine Goes.pre (U' := T1.setTop (mkF m 14 #[.val (.ref a), .val (.int (0 : Int32))] [(.int (0 : Int32)), (.ref a)])) (fun t k => XS.icmpNo X1.here hx rfl (hb hby d6_9) rfl (tlt hc9).2.1 (XS.aloadN X1.here hx rfl (hb hby d6_12) rfl rfl (XS.iloadN X1.here hx rfl (hb hby d6_13) rfl k))) ?_
  obtain ⟨cq2, kq2, q2a, q2b, q2c⟩ := isOf hZ HQ1 S_a.1
  obtain ⟨_, _, ⟨T2, L2, k2, n2⟩, -, X2, ⟨Lc2, hQ2, l2, y2, z2⟩, st2⟩ := X1.interfaceBack hx (xi := (⟨"java/lang/CharSequence", "charAt", "(I)C"⟩ : MethodName)) (y := (⟨"java/lang/String", "charAt", "(I)C"⟩ : MethodName)) hown (mvT hZ (wq hw 62 rfl)) (mvT hZ (wq hw 63 rfl)) (mvT hZ (wq hw 64 rfl)) (mvT hZ (wq hw 65 rfl)) (mvT hZ (wq hw 66 rfl)) (mvT hZ (wq hw 67 rfl)) (mvT hZ (wq hw 68 rfl)) (mvT hZ (wq hw 41 rfl)) (by decide) (backOf (W := 0) (rm_ch30 l Z a0 hw [] a b kb c0 c1 c2 cs sf h0 n0 Z0 S_a S_COMPACT_STRINGS S__assertionsDisabled S_HI_BYTE_SHIFT S_LO_BYTE_SHIFT S_SIOOBE_FORMATTER hcs hsf O) hZ (wq hw 69 rfl) (wq hw 10 rfl) (by decide) (by decide)) q2a q2b q2c (g := (mkF m 14 #[.val (.ref a), .val (.int (0 : Int32))] [(.int (0 : Int32)), (.ref a)])) rfl (by rw [hml]; rfl) (Steps.refl _) (argsL := [(.int (0 : Int32))]) (rest := []) (lenOf pd__28I_29C rfl) rfl (by show 2 * 0 + _ ≤ _; exact Nat.le_of_eq rfl) (hb hby d6_14) (fun _ _ => ⟨rfl, HQ1, (by decide : 0 + 0 ≤ _), (by decide : 0 + 0 ≤ _)⟩)
  dsimp only [Pt.U, Pt.locs, Pt.cells, Pt.slots] at X2 l2 y2 z2 st2 hQ2
  subst l2 y2 z2
  obtain ⟨rfl, N2q, HQ2⟩ := hQ2
  have N2 := Fr.app N1 N2q
  refine Goes.pre (U' := T2.setTop (mkF m 19 #[.val (.ref a), .val (.int (0 : Int32))] [(.int c0)])) (fun t k => st2.trans k) ?_
  obtain ⟨_, _, ⟨T3, L3, k3, n3⟩, -, X3, ⟨Lc3, hQ3, l3, y3, z3⟩, st3⟩ := Jvm.LawKit.callS X2 hx (y := (⟨"com/example/restate/restate/plan/Spaces", "space", "(C)Z"⟩ : MethodName)) hown (mvT hZ (wq hw 87 rfl)) (mvT hZ (wq hw 88 rfl)) (mvT hZ (wq hw 32 rfl)) (mvT hZ (wq hw 89 rfl)) (by decide) (backOf (W := 0) (rm_space l Z a0 hw [] c0 h0 n0 Z0) hZ (wq hw 89 rfl) (wq hw 32 rfl) (by decide) (by decide)) (g := (mkF m 19 #[.val (.ref a), .val (.int (0 : Int32))] [(.int c0)])) rfl (by rw [hml]; rfl) (argsL := [(.int c0)]) (rest := []) (lenOf pd__28C_29Z rfl) rfl (by show 2 * 0 + _ ≤ _; exact Nat.le_of_eq rfl) (hb hby d6_19) (fun _ _ => ⟨rfl, HQ2, (by decide : 0 + 0 ≤ _), (by decide : 0 + 0 ≤ _)⟩)
  dsimp only [Pt.U, Pt.locs, Pt.cells, Pt.slots] at X3 l3 y3 z3 st3 hQ3
  subst l3 y3 z3
  obtain ⟨rfl, N3q, HQ3⟩ := hQ3
  have N3 := Fr.app N2 N3q
  refine Goes.pre (U' := T3.setTop (mkF m 22 #[.val (.ref a), .val (.int (0 : Int32))] [(.int (own_space c0))])) (fun t k => st3 t k) ?_
  by_cases hc22 : (own_space c0) = (0 : Int32)
  ·
    refine Goes.pre (U' := T3.setTop (mkF m 26 #[.val (.ref a), .val (.int (0 : Int32))] [(.int (0 : Int32))])) (fun t k => XS.ifNo X3.here hx rfl (hb hby d6_22) rfl ((if0 _ _).trans (teq hc22).2) (XS.iconst X3.here hx rfl (hb hby d6_25) k)) ?_
    refine Goes.ret X3 (v := (some (.int (0 : Int32)))) (fun h => by rw [hret] at h; cases h) hlk (by decide) (by decide) HQ3 (fun fs hr => retN X3 hx (t := .boolean) hret (by simp) (hb hby d6_26) hr) ?_
    exact ⟨congrArg (fun z => some (Value.int z)) (show (0 : Int32) = own_blank3 c0 c1 c2 from (show own_blank3 c0 c1 c2 = (0 : Int32) from by unfold own_blank3; rw [if_pos hc22]).symm), N3, rfl⟩
  ·
    refine Goes.pre (U' := T3.setTop (mkF m 30 #[.val (.ref a), .val (.int ((0 : Int32) + (1 : Int32)))] [])) (fun t k => XS.ifYes X3.here hx rfl (pc0 := 22) (pc' := 27) rfl (hb hby d6_22) rfl ((if0 _ _).trans (feq hc22).2) (by decide) (by decide) (XT.iincV X3.here hx rfl (1 : Int32) (hb hby d6_27) (by decide) rfl (l' := #[.val (.ref a), .val (.int ((0 : Int32) + (1 : Int32)))]) rfl k)) ?_
    rw [(by decide : ((0 : Int32) + (1 : Int32)) = (1 : Int32))]
    refine Goes.pre (U' := T3.setTop (mkF m 4 #[.val (.ref a), .val (.int (1 : Int32))] [(.ref a), (.int (1 : Int32))])) (fun t k => XS.goto X3.here hx rfl (pc0 := 30) (pc' := 2) rfl (hb hby d6_30) (by decide) (by decide) (XS.iloadN X3.here hx rfl (hb hby d6_2) rfl (XS.aloadN X3.here hx rfl (hb hby d6_3) rfl rfl k))) ?_
    obtain ⟨cq4, kq4, q4a, q4b, q4c⟩ := isOf hZ HQ3 S_a.1
    obtain ⟨_, _, ⟨T4, L4, k4, n4⟩, -, X4, ⟨Lc4, hQ4, l4, y4, z4⟩, st4⟩ := X3.interfaceBack hx (xi := (⟨"java/lang/CharSequence", "length", "()I"⟩ : MethodName)) (y := (⟨"java/lang/String", "length", "()I"⟩ : MethodName)) hown (mvT hZ (wq hw 34 rfl)) (mvT hZ (wq hw 35 rfl)) (mvT hZ (wq hw 36 rfl)) (mvT hZ (wq hw 37 rfl)) (mvT hZ (wq hw 38 rfl)) (mvT hZ (wq hw 39 rfl)) (mvT hZ (wq hw 40 rfl)) (mvT hZ (wq hw 41 rfl)) (by decide) (backOf (W := 1) (rm_len3 l Z a0 hw [] a b kb c0 c1 c2 cs h0 n0 Z0 S_a S_COMPACT_STRINGS hcs O) hZ (wq hw 42 rfl) (wq hw 10 rfl) (by decide) (by decide)) q4a q4b q4c (g := (mkF m 4 #[.val (.ref a), .val (.int (1 : Int32))] [(.ref a), (.int (1 : Int32))])) rfl (by rw [hml]; rfl) (Steps.refl _) (argsL := []) (rest := [(.int (1 : Int32))]) (lenOf pd__28_29I rfl) rfl (by show 2 * 0 + _ ≤ _; exact Nat.le_of_eq rfl) (hb hby d6_4) (fun _ _ => ⟨rfl, HQ3, (by decide : 0 + 0 ≤ _), (by decide : 0 + 0 ≤ _)⟩)
    dsimp only [Pt.U, Pt.locs, Pt.cells, Pt.slots] at X4 l4 y4 z4 st4 hQ4
    subst l4 y4 z4
    obtain ⟨rfl, N4q, HQ4⟩ := hQ4
    have N4 := Fr.app N3 N4q
    refine Goes.pre (U' := T4.setTop (mkF m 9 #[.val (.ref a), .val (.int (1 : Int32))] [(.int (3 : Int32)), (.int (1 : Int32))])) (fun t k => st4.trans k) ?_
    have hc9 : (1 : Int32) < (3 : Int32) := by decide
    refine Goes.pre (U' := T4.setTop (mkF m 14 #[.val (.ref a), .val (.int (1 : Int32))] [(.int (1 : Int32)), (.ref a)])) (fun t k => XS.icmpNo X4.here hx rfl (hb hby d6_9) rfl (tlt hc9).2.1 (XS.aloadN X4.here hx rfl (hb hby d6_12) rfl rfl (XS.iloadN X4.here hx rfl (hb hby d6_13) rfl k))) ?_
    obtain ⟨cq5, kq5, q5a, q5b, q5c⟩ := isOf hZ HQ4 S_a.1
    obtain ⟨_, _, ⟨T5, L5, k5, n5⟩, -, X5, ⟨Lc5, hQ5, l5, y5, z5⟩, st5⟩ := X4.interfaceBack hx (xi := (⟨"java/lang/CharSequence", "charAt", "(I)C"⟩ : MethodName)) (y := (⟨"java/lang/String", "charAt", "(I)C"⟩ : MethodName)) hown (mvT hZ (wq hw 62 rfl)) (mvT hZ (wq hw 63 rfl)) (mvT hZ (wq hw 64 rfl)) (mvT hZ (wq hw 65 rfl)) (mvT hZ (wq hw 66 rfl)) (mvT hZ (wq hw 67 rfl)) (mvT hZ (wq hw 68 rfl)) (mvT hZ (wq hw 41 rfl)) (by decide) (backOf (W := 0) (rm_ch31 l Z a0 hw [] a b kb c0 c1 c2 cs sf h0 n0 Z0 S_a S_COMPACT_STRINGS S__assertionsDisabled S_HI_BYTE_SHIFT S_LO_BYTE_SHIFT S_SIOOBE_FORMATTER hcs hsf O) hZ (wq hw 69 rfl) (wq hw 10 rfl) (by decide) (by decide)) q5a q5b q5c (g := (mkF m 14 #[.val (.ref a), .val (.int (1 : Int32))] [(.int (1 : Int32)), (.ref a)])) rfl (by rw [hml]; rfl) (Steps.refl _) (argsL := [(.int (1 : Int32))]) (rest := []) (lenOf pd__28I_29C rfl) rfl (by show 2 * 0 + _ ≤ _; exact Nat.le_of_eq rfl) (hb hby d6_14) (fun _ _ => ⟨rfl, HQ4, (by decide : 0 + 0 ≤ _), (by decide : 0 + 0 ≤ _)⟩)
    dsimp only [Pt.U, Pt.locs, Pt.cells, Pt.slots] at X5 l5 y5 z5 st5 hQ5
    subst l5 y5 z5
    obtain ⟨rfl, N5q, HQ5⟩ := hQ5
    have N5 := Fr.app N4 N5q
    refine Goes.pre (U' := T5.setTop (mkF m 19 #[.val (.ref a), .val (.int (1 : Int32))] [(.int c1)])) (fun t k => st5.trans k) ?_
    obtain ⟨_, _, ⟨T6, L6, k6, n6⟩, -, X6, ⟨Lc6, hQ6, l6, y6, z6⟩, st6⟩ := Jvm.LawKit.callS X5 hx (y := (⟨"com/example/restate/restate/plan/Spaces", "space", "(C)Z"⟩ : MethodName)) hown (mvT hZ (wq hw 87 rfl)) (mvT hZ (wq hw 88 rfl)) (mvT hZ (wq hw 32 rfl)) (mvT hZ (wq hw 89 rfl)) (by decide) (backOf (W := 0) (rm_space l Z a0 hw [] c1 h0 n0 Z0) hZ (wq hw 89 rfl) (wq hw 32 rfl) (by decide) (by decide)) (g := (mkF m 19 #[.val (.ref a), .val (.int (1 : Int32))] [(.int c1)])) rfl (by rw [hml]; rfl) (argsL := [(.int c1)]) (rest := []) (lenOf pd__28C_29Z rfl) rfl (by show 2 * 0 + _ ≤ _; exact Nat.le_of_eq rfl) (hb hby d6_19) (fun _ _ => ⟨rfl, HQ5, (by decide : 0 + 0 ≤ _), (by decide : 0 + 0 ≤ _)⟩)
    dsimp only [Pt.U, Pt.locs, Pt.cells, Pt.slots] at X6 l6 y6 z6 st6 hQ6
    subst l6 y6 z6
    obtain ⟨rfl, N6q, HQ6⟩ := hQ6
    have N6 := Fr.app N5 N6q
    refine Goes.pre (U' := T6.setTop (mkF m 22 #[.val (.ref a), .val (.int (1 : Int32))] [(.int (own_space c1))])) (fun t k => st6 t k) ?_
    by_cases hc22_2 : (own_space c1) = (0 : Int32)
    ·
      refine Goes.pre (U' := T6.setTop (mkF m 26 #[.val (.ref a), .val (.int (1 : Int32))] [(.int (0 : Int32))])) (fun t k => XS.ifNo X6.here hx rfl (hb hby d6_22) rfl ((if0 _ _).trans (teq hc22_2).2) (XS.iconst X6.here hx rfl (hb hby d6_25) k)) ?_
      refine Goes.ret X6 (v := (some (.int (0 : Int32)))) (fun h => by rw [hret] at h; cases h) hlk (by decide) (by decide) HQ6 (fun fs hr => retN X6 hx (t := .boolean) hret (by simp) (hb hby d6_26) hr) ?_
      exact ⟨congrArg (fun z => some (Value.int z)) (show (0 : Int32) = own_blank3 c0 c1 c2 from (show own_blank3 c0 c1 c2 = (0 : Int32) from by unfold own_blank3; rw [if_neg hc22, if_pos hc22_2]).symm), N6, rfl⟩
    ·
      refine Goes.pre (U' := T6.setTop (mkF m 30 #[.val (.ref a), .val (.int ((1 : Int32) + (1 : Int32)))] [])) (fun t k => XS.ifYes X6.here hx rfl (pc0 := 22) (pc' := 27) rfl (hb hby d6_22) rfl ((if0 _ _).trans (feq hc22_2).2) (by decide) (by decide) (XT.iincV X6.here hx rfl (1 : Int32) (hb hby d6_27) (by decide) rfl (l' := #[.val (.ref a), .val (.int ((1 : Int32) + (1 : Int32)))]) rfl k)) ?_
      rw [(by decide : ((1 : Int32) + (1 : Int32)) = (2 : Int32))]
      refine Goes.pre (U' := T6.setTop (mkF m 4 #[.val (.ref a), .val (.int (2 : Int32))] [(.ref a), (.int (2 : Int32))])) (fun t k => XS.goto X6.here hx rfl (pc0 := 30) (pc' := 2) rfl (hb hby d6_30) (by decide) (by decide) (XS.iloadN X6.here hx rfl (hb hby d6_2) rfl (XS.aloadN X6.here hx rfl (hb hby d6_3) rfl rfl k))) ?_
      obtain ⟨cq7, kq7, q7a, q7b, q7c⟩ := isOf hZ HQ6 S_a.1
      obtain ⟨_, _, ⟨T7, L7, k7, n7⟩, -, X7, ⟨Lc7, hQ7, l7, y7, z7⟩, st7⟩ := X6.interfaceBack hx (xi := (⟨"java/lang/CharSequence", "length", "()I"⟩ : MethodName)) (y := (⟨"java/lang/String", "length", "()I"⟩ : MethodName)) hown (mvT hZ (wq hw 34 rfl)) (mvT hZ (wq hw 35 rfl)) (mvT hZ (wq hw 36 rfl)) (mvT hZ (wq hw 37 rfl)) (mvT hZ (wq hw 38 rfl)) (mvT hZ (wq hw 39 rfl)) (mvT hZ (wq hw 40 rfl)) (mvT hZ (wq hw 41 rfl)) (by decide) (backOf (W := 1) (rm_len3 l Z a0 hw [] a b kb c0 c1 c2 cs h0 n0 Z0 S_a S_COMPACT_STRINGS hcs O) hZ (wq hw 42 rfl) (wq hw 10 rfl) (by decide) (by decide)) q7a q7b q7c (g := (mkF m 4 #[.val (.ref a), .val (.int (2 : Int32))] [(.ref a), (.int (2 : Int32))])) rfl (by rw [hml]; rfl) (Steps.refl _) (argsL := []) (rest := [(.int (2 : Int32))]) (lenOf pd__28_29I rfl) rfl (by show 2 * 0 + _ ≤ _; exact Nat.le_of_eq rfl) (hb hby d6_4) (fun _ _ => ⟨rfl, HQ6, (by decide : 0 + 0 ≤ _), (by decide : 0 + 0 ≤ _)⟩)
      dsimp only [Pt.U, Pt.locs, Pt.cells, Pt.slots] at X7 l7 y7 z7 st7 hQ7
      subst l7 y7 z7
      obtain ⟨rfl, N7q, HQ7⟩ := hQ7
      have N7 := Fr.app N6 N7q
      refine Goes.pre (U' := T7.setTop (mkF m 9 #[.val (.ref a), .val (.int (2 : Int32))] [(.int (3 : Int32)), (.int (2 : Int32))])) (fun t k => st7.trans k) ?_
      have hc9 : (2 : Int32) < (3 : Int32) := by decide
      refine Goes.pre (U' := T7.setTop (mkF m 14 #[.val (.ref a), .val (.int (2 : Int32))] [(.int (2 : Int32)), (.ref a)])) (fun t k => XS.icmpNo X7.here hx rfl (hb hby d6_9) rfl (tlt hc9).2.1 (XS.aloadN X7.here hx rfl (hb hby d6_12) rfl rfl (XS.iloadN X7.here hx rfl (hb hby d6_13) rfl k))) ?_
      obtain ⟨cq8, kq8, q8a, q8b, q8c⟩ := isOf hZ HQ7 S_a.1
      obtain ⟨_, _, ⟨T8, L8, k8, n8⟩, -, X8, ⟨Lc8, hQ8, l8, y8, z8⟩, st8⟩ := X7.interfaceBack hx (xi := (⟨"java/lang/CharSequence", "charAt", "(I)C"⟩ : MethodName)) (y := (⟨"java/lang/String", "charAt", "(I)C"⟩ : MethodName)) hown (mvT hZ (wq hw 62 rfl)) (mvT hZ (wq hw 63 rfl)) (mvT hZ (wq hw 64 rfl)) (mvT hZ (wq hw 65 rfl)) (mvT hZ (wq hw 66 rfl)) (mvT hZ (wq hw 67 rfl)) (mvT hZ (wq hw 68 rfl)) (mvT hZ (wq hw 41 rfl)) (by decide) (backOf (W := 0) (rm_ch32 l Z a0 hw [] a b kb c0 c1 c2 cs sf h0 n0 Z0 S_a S_COMPACT_STRINGS S__assertionsDisabled S_HI_BYTE_SHIFT S_LO_BYTE_SHIFT S_SIOOBE_FORMATTER hcs hsf O) hZ (wq hw 69 rfl) (wq hw 10 rfl) (by decide) (by decide)) q8a q8b q8c (g := (mkF m 14 #[.val (.ref a), .val (.int (2 : Int32))] [(.int (2 : Int32)), (.ref a)])) rfl (by rw [hml]; rfl) (Steps.refl _) (argsL := [(.int (2 : Int32))]) (rest := []) (lenOf pd__28I_29C rfl) rfl (by show 2 * 0 + _ ≤ _; exact Nat.le_of_eq rfl) (hb hby d6_14) (fun _ _ => ⟨rfl, HQ7, (by decide : 0 + 0 ≤ _), (by decide : 0 + 0 ≤ _)⟩)
      dsimp only [Pt.U, Pt.locs, Pt.cells, Pt.slots] at X8 l8 y8 z8 st8 hQ8
      subst l8 y8 z8
      obtain ⟨rfl, N8q, HQ8⟩ := hQ8
      have N8 := Fr.app N7 N8q
      refine Goes.pre (U' := T8.setTop (mkF m 19 #[.val (.ref a), .val (.int (2 : Int32))] [(.int c2)])) (fun t k => st8.trans k) ?_
      obtain ⟨_, _, ⟨T9, L9, k9, n9⟩, -, X9, ⟨Lc9, hQ9, l9, y9, z9⟩, st9⟩ := Jvm.LawKit.callS X8 hx (y := (⟨"com/example/restate/restate/plan/Spaces", "space", "(C)Z"⟩ : MethodName)) hown (mvT hZ (wq hw 87 rfl)) (mvT hZ (wq hw 88 rfl)) (mvT hZ (wq hw 32 rfl)) (mvT hZ (wq hw 89 rfl)) (by decide) (backOf (W := 0) (rm_space l Z a0 hw [] c2 h0 n0 Z0) hZ (wq hw 89 rfl) (wq hw 32 rfl) (by decide) (by decide)) (g := (mkF m 19 #[.val (.ref a), .val (.int (2 : Int32))] [(.int c2)])) rfl (by rw [hml]; rfl) (argsL := [(.int c2)]) (rest := []) (lenOf pd__28C_29Z rfl) rfl (by show 2 * 0 + _ ≤ _; exact Nat.le_of_eq rfl) (hb hby d6_19) (fun _ _ => ⟨rfl, HQ8, (by decide : 0 + 0 ≤ _), (by decide : 0 + 0 ≤ _)⟩)
      dsimp only [Pt.U, Pt.locs, Pt.cells, Pt.slots] at X9 l9 y9 z9 st9 hQ9
      subst l9 y9 z9
      obtain ⟨rfl, N9q, HQ9⟩ := hQ9
      have N9 := Fr.app N8 N9q
      refine Goes.pre (U' := T9.setTop (mkF m 22 #[.val (.ref a), .val (.int (2 : Int32))] [(.int (own_space c2))])) (fun t k => st9 t k) ?_
      by_cases hc22_3 : (own_space c2) = (0 : Int32)
      ·
        refine Goes.pre (U' := T9.setTop (mkF m 26 #[.val (.ref a), .val (.int (2 : Int32))] [(.int (0 : Int32))])) (fun t k => XS.ifNo X9.here hx rfl (hb hby d6_22) rfl ((if0 _ _).trans (teq hc22_3).2) (XS.iconst X9.here hx rfl (hb hby d6_25) k)) ?_
        refine Goes.ret X9 (v := (some (.int (0 : Int32)))) (fun h => by rw [hret] at h; cases h) hlk (by decide) (by decide) HQ9 (fun fs hr => retN X9 hx (t := .boolean) hret (by simp) (hb hby d6_26) hr) ?_
        exact ⟨congrArg (fun z => some (Value.int z)) (show (0 : Int32) = own_blank3 c0 c1 c2 from (show own_blank3 c0 c1 c2 = (0 : Int32) from by unfold own_blank3; rw [if_neg hc22, if_neg hc22_2, if_pos hc22_3]).symm), N9, rfl⟩
      ·
        refine Goes.pre (U' := T9.setTop (mkF m 30 #[.val (.ref a), .val (.int ((2 : Int32) + (1 : Int32)))] [])) (fun t k => XS.ifYes X9.here hx rfl (pc0 := 22) (pc' := 27) rfl (hb hby d6_22) rfl ((if0 _ _).trans (feq hc22_3).2) (by decide) (by decide) (XT.iincV X9.here hx rfl (1 : Int32) (hb hby d6_27) (by decide) rfl (l' := #[.val (.ref a), .val (.int ((2 : Int32) + (1 : Int32)))]) rfl k)) ?_
        rw [(by decide : ((2 : Int32) + (1 : Int32)) = (3 : Int32))]
        refine Goes.pre (U' := T9.setTop (mkF m 4 #[.val (.ref a), .val (.int (3 : Int32))] [(.ref a), (.int (3 : Int32))])) (fun t k => XS.goto X9.here hx rfl (pc0 := 30) (pc' := 2) rfl (hb hby d6_30) (by decide) (by decide) (XS.iloadN X9.here hx rfl (hb hby d6_2) rfl (XS.aloadN X9.here hx rfl (hb hby d6_3) rfl rfl k))) ?_
        obtain ⟨cq10, kq10, q10a, q10b, q10c⟩ := isOf hZ HQ9 S_a.1
        obtain ⟨_, _, ⟨T10, L10, k10, n10⟩, -, X10, ⟨Lc10, hQ10, l10, y10, z10⟩, st10⟩ := X9.interfaceBack hx (xi := (⟨"java/lang/CharSequence", "length", "()I"⟩ : MethodName)) (y := (⟨"java/lang/String", "length", "()I"⟩ : MethodName)) hown (mvT hZ (wq hw 34 rfl)) (mvT hZ (wq hw 35 rfl)) (mvT hZ (wq hw 36 rfl)) (mvT hZ (wq hw 37 rfl)) (mvT hZ (wq hw 38 rfl)) (mvT hZ (wq hw 39 rfl)) (mvT hZ (wq hw 40 rfl)) (mvT hZ (wq hw 41 rfl)) (by decide) (backOf (W := 1) (rm_len3 l Z a0 hw [] a b kb c0 c1 c2 cs h0 n0 Z0 S_a S_COMPACT_STRINGS hcs O) hZ (wq hw 42 rfl) (wq hw 10 rfl) (by decide) (by decide)) q10a q10b q10c (g := (mkF m 4 #[.val (.ref a), .val (.int (3 : Int32))] [(.ref a), (.int (3 : Int32))])) rfl (by rw [hml]; rfl) (Steps.refl _) (argsL := []) (rest := [(.int (3 : Int32))]) (lenOf pd__28_29I rfl) rfl (by show 2 * 0 + _ ≤ _; exact Nat.le_of_eq rfl) (hb hby d6_4) (fun _ _ => ⟨rfl, HQ9, (by decide : 0 + 0 ≤ _), (by decide : 0 + 0 ≤ _)⟩)
        dsimp only [Pt.U, Pt.locs, Pt.cells, Pt.slots] at X10 l10 y10 z10 st10 hQ10
        subst l10 y10 z10
        obtain ⟨rfl, N10q, HQ10⟩ := hQ10
        have N10 := Fr.app N9 N10q
        refine Goes.pre (U' := T10.setTop (mkF m 9 #[.val (.ref a), .val (.int (3 : Int32))] [(.int (3 : Int32)), (.int (3 : Int32))])) (fun t k => st10.trans k) ?_
        have hc9 : ¬ ((3 : Int32) < (3 : Int32)) := by decide
        refine Goes.pre (U' := T10.setTop (mkF m 34 #[.val (.ref a), .val (.int (3 : Int32))] [(.int (1 : Int32))])) (fun t k => XS.icmpYes X10.here hx rfl (pc0 := 9) (pc' := 33) rfl (hb hby d6_9) rfl (flt hc9).2.1 (by decide) (by decide) (XS.iconst X10.here hx rfl (hb hby d6_33) k)) ?_
        refine Goes.ret X10 (v := (some (.int (1 : Int32)))) (fun h => by rw [hret] at h; cases h) hlk (by decide) (by decide) HQ10 (fun fs hr => retN X10 hx (t := .boolean) hret (by simp) (hb hby d6_34) hr) ?_
        exact ⟨congrArg (fun z => some (Value.int z)) (show (1 : Int32) = own_blank3 c0 c1 c2 from (show own_blank3 c0 c1 c2 = (1 : Int32) from by unfold own_blank3; rw [if_neg hc22, if_neg hc22_2, if_neg hc22_3]).symm), N10, rfl⟩
theorem ef_rm0 (m : MethodId) (x0 : Int32) (x1 : Int32) (x2 : Int32) (x3 : Int32) : entryFrame m #[(.int x0), (.int x1), (.int x2), (.int x3)] maxLocals = mkF m 0 #[.val (.int x0), .val (.int x1), .val (.int x2), .val (.int x3), .unset, .unset, .unset, .unset, .unset, .unset] [] := by first | (simp [entryFrame, mkF, argsToLocals, Value.category, maxLocals]; done) | rfl
theorem pd__28ICCC_29Ljava_2flang_2fString_3b : parseMethodDescriptor "(ICCC)Ljava/lang/String;" = some ⟨[.int, .char, .char, .char], some (.object "java/lang/String")⟩ := by decide +kernel
theorem pd__28Ljava_2flang_2fCharSequence_3b_29Z : parseMethodDescriptor "(Ljava/lang/CharSequence;)Z" = some ⟨[(.object "java/lang/CharSequence")], some .boolean⟩ := by decide +kernel
def Q_rm0 (Z : State) (p1 p2 p3 p4 : Int32) (cs : Int32) (sf : Value) (h0 : Heap) (n0 : Nat) (v : Option Value) (h : Heap) (L : List Loc) : Prop := v = some (.int 1) ∧ Fr n0 L
set_option maxRecDepth 65536 in
set_option maxHeartbeats 40000000 in
theorem rm0 (l : Launch) (Z : State) (a0 : Array Value) (hw : ∀ d ∈ tables_1, d.before a0 Z = true) (hEL : EW Z a0 own_EL) (ws : List Jvm.Cond) (p1 p2 p3 p4 : Int32) (cs : Int32) (sf : Value) (h0 : Heap) (n0 : Nat) (Z0 : n0 ≤ h0.size) (S_COMPACT_STRINGS : Sta Z Z.heap "java/lang/String" "COMPACT_STRINGS" "Z" (.int cs)) (S__assertionsDisabled : Sta Z Z.heap "java/lang/StringUTF16" "$assertionsDisabled" "Z" (.int (1 : Int32))) (S_HI_BYTE_SHIFT : Sta Z Z.heap "java/lang/StringUTF16" "HI_BYTE_SHIFT" "I" (.int (0 : Int32))) (S_LO_BYTE_SHIFT : Sta Z Z.heap "java/lang/StringUTF16" "LO_BYTE_SHIFT" "I" (.int (8 : Int32))) (S_SIOOBE_FORMATTER : Sta Z Z.heap "jdk/internal/util/Preconditions" "SIOOBE_FORMATTER" "Ljava/util/function/BiFunction;" sf) (hcs : ¬ (cs = (0 : Int32))) (hsf : sf.isRef = true) (O : Old Z n0 h0) :
    MetW l Z own_EL x code maxLocals ret ws room_1 #[(.int p1), (.int p2), (.int p3), (.int p4)] [] h0 (Q_rm0 Z p1 p2 p3 p4 cs sf h0 n0) := by
  refine metW_of (plainFor_of_name pn_com_example_restate_restate_plan_SpacesBlankPinLaw) (own := "com/example/restate/restate/plan/SpacesBlankPinLaw") rfl (fun m => ef_rm0 m p1 p2 p3 p4) ?_
  intro p e s m below meth c s₁ hx hby hml hown hnm hZ X0 e0 hret hlk H hSf CR hS
  have hml : c.maxLocals = 10 := hml
  have N0 := Fr.nil n0
  have hk := Nat.le_refl h0.size
  show GoesW p e below s Z own_EL _ _ _ (s₁.setTop (mkF m 0 #[.val (.int p1), .val (.int p2), .val (.int p3), .val (.int p4), .unset, .unset, .unset, .unset, .unset, .unset] []))
  refine GoesW.pre (U' := s₁.setTop (mkF m 5 #[.val (.int p1), .val (.int p2), .val (.int p3), .val (.int p4), .val (.int (p1 &&& (3 : Int32))), .unset, .unset, .unset, .unset, .unset] [])) (fun t k => XS.iloadN X0.here hx rfl (hb hby at_0) rfl (XS.iconst X0.here hx rfl (hb hby at_1) (XS.iand X0.here hx rfl (hb hby at_2) rfl (XS.istore X0.here hx rfl (hb hby at_3) rfl (l' := #[.val (.int p1), .val (.int p2), .val (.int p3), .val (.int p4), .val (.int (p1 &&& (3 : Int32))), .unset, .unset, .unset, .unset, .unset]) rfl k)))) ?_
  obtain ⟨n, hn⟩ : ∃ z : Int32, z = (p1 &&& (3 : Int32)) := ⟨_, rfl⟩
  rw [← hn]
  refine GoesW.pre (U' := s₁.setTop (mkF m 6 #[.val (.int p1), .val (.int p2), .val (.int p3), .val (.int p4), .val (.int n), .unset, .unset, .unset, .unset, .unset] [(.int p2)])) (fun t k => XS.iloadN X0.here hx rfl (hb hby at_5) rfl k) ?_
  obtain ⟨_, _, ⟨T1, L1, k1, n1⟩, -, X1, ⟨Lc1, hQ1, l1, y1, z1⟩, st1⟩ := Jvm.LawKit.callS X0 hx (y := (⟨"com/example/restate/restate/plan/SpacesBlankPinLaw", "draw", "(I)C"⟩ : MethodName)) hown (mvT hZ (wq hw 0 rfl)) (mvT hZ (wq hw 1 rfl)) (mvT hZ (wq hw 2 rfl)) (mvT hZ (wq hw 3 rfl)) (by decide) (backOf (W := 0) (rm_draw l Z a0 hw [] p2 h0 n0 Z0 ) hZ (wq hw 3 rfl) (wq hw 2 rfl) (by decide) (by decide)) (g := (mkF m 6 #[.val (.int p1), .val (.int p2), .val (.int p3), .val (.int p4), .val (.int n), .unset, .unset, .unset, .unset, .unset] [(.int p2)])) rfl (by rw [hml]; rfl) (argsL := [(.int p2)]) (rest := []) (lenOf pd__28I_29C rfl) rfl (by show 2 * 0 + _ ≤ _; exact Nat.le_of_eq rfl) (hb hby at_6) (fun _ _ => ⟨rfl, e0, (by decide : 0 + 1 ≤ _), (by decide : 0 + 19 ≤ _)⟩)
  dsimp only [Pt.U, Pt.locs, Pt.cells, Pt.slots] at X1 l1 y1 z1 st1 hQ1
  subst l1 y1 z1
  obtain ⟨q1, rfl, N1q, KQ1, hx1⟩ := hQ1
  have N1 := Fr.app N0 N1q
  have Z2 : n0 ≤ T1.heap.size := Nat.le_trans Z0 KQ1.1
  have O := O.keep KQ1 all0
  have hsafe := (all0 : ∀ x ∈ ([] : List Addr), Safe Z own_EL s.vm h0 x)
  have CR := CR.trans (CHr.keep KQ1 hsafe H)
  have H := H.keep KQ1 hsafe
  have hk := Nat.le_trans hk KQ1.1
  refine GoesW.pre (U' := T1.setTop (mkF m 12 #[.val (.int p1), .val (.int p2), .val (.int p3), .val (.int p4), .val (.int n), .val (.int q1), .unset, .unset, .unset, .unset] [(.int p3)])) (fun t k => st1 t (XS.istore X1.here hx rfl (hb hby at_9) rfl (l' := #[.val (.int p1), .val (.int p2), .val (.int p3), .val (.int p4), .val (.int n), .val (.int q1), .unset, .unset, .unset, .unset]) rfl (XS.iloadN X1.here hx rfl (hb hby at_11) rfl k))) ?_
  obtain ⟨_, _, ⟨T3, L3, k3, n3⟩, -, X3, ⟨Lc3, hQ3, l3, y3, z3⟩, st3⟩ := Jvm.LawKit.callS X1 hx (y := (⟨"com/example/restate/restate/plan/SpacesBlankPinLaw", "draw", "(I)C"⟩ : MethodName)) hown (mvT hZ (wq hw 0 rfl)) (mvT hZ (wq hw 1 rfl)) (mvT hZ (wq hw 2 rfl)) (mvT hZ (wq hw 3 rfl)) (by decide) (backOf (W := 0) (rm_draw l Z a0 hw [] p3 T1.heap n0 Z2 ) hZ (wq hw 3 rfl) (wq hw 2 rfl) (by decide) (by decide)) (g := (mkF m 12 #[.val (.int p1), .val (.int p2), .val (.int p3), .val (.int p4), .val (.int n), .val (.int q1), .unset, .unset, .unset, .unset] [(.int p3)])) rfl (by rw [hml]; rfl) (argsL := [(.int p3)]) (rest := []) (lenOf pd__28I_29C rfl) rfl (by show 2 * 0 + _ ≤ _; exact Nat.le_of_eq rfl) (hb hby at_12) (fun _ _ => ⟨rfl, rfl, (by decide : 1 + 1 ≤ _), (by decide : 19 + 19 ≤ _)⟩)
  dsimp only [Pt.U, Pt.locs, Pt.cells, Pt.slots] at X3 l3 y3 z3 st3 hQ3
  subst l3 y3 z3
  obtain ⟨q3, rfl, N3q, KQ3, hx3⟩ := hQ3
  have N3 := Fr.app N1 N3q
  have Z4 : n0 ≤ T3.heap.size := Nat.le_trans Z2 KQ3.1
  have O := O.keep KQ3 all0
  have hsafe := (all0 : ∀ x ∈ ([] : List Addr), Safe Z own_EL s.vm T1.heap x)
  have CR := CR.trans (CHr.keep KQ3 hsafe H)
  have H := H.keep KQ3 hsafe
  have hk := Nat.le_trans hk KQ3.1
  refine GoesW.pre (U' := T3.setTop (mkF m 18 #[.val (.int p1), .val (.int p2), .val (.int p3), .val (.int p4), .val (.int n), .val (.int q1), .val (.int q3), .unset, .unset, .unset] [(.int p4)])) (fun t k => st3 t (XS.istore X3.here hx rfl (hb hby at_15) rfl (l' := #[.val (.int p1), .val (.int p2), .val (.int p3), .val (.int p4), .val (.int n), .val (.int q1), .val (.int q3), .unset, .unset, .unset]) rfl (XS.iloadN X3.here hx rfl (hb hby at_17) rfl k))) ?_
  obtain ⟨_, _, ⟨T5, L5, k5, n5⟩, -, X5, ⟨Lc5, hQ5, l5, y5, z5⟩, st5⟩ := Jvm.LawKit.callS X3 hx (y := (⟨"com/example/restate/restate/plan/SpacesBlankPinLaw", "draw", "(I)C"⟩ : MethodName)) hown (mvT hZ (wq hw 0 rfl)) (mvT hZ (wq hw 1 rfl)) (mvT hZ (wq hw 2 rfl)) (mvT hZ (wq hw 3 rfl)) (by decide) (backOf (W := 0) (rm_draw l Z a0 hw [] p4 T3.heap n0 Z4 ) hZ (wq hw 3 rfl) (wq hw 2 rfl) (by decide) (by decide)) (g := (mkF m 18 #[.val (.int p1), .val (.int p2), .val (.int p3), .val (.int p4), .val (.int n), .val (.int q1), .val (.int q3), .unset, .unset, .unset] [(.int p4)])) rfl (by rw [hml]; rfl) (argsL := [(.int p4)]) (rest := []) (lenOf pd__28I_29C rfl) rfl (by show 2 * 0 + _ ≤ _; exact Nat.le_of_eq rfl) (hb hby at_18) (fun _ _ => ⟨rfl, rfl, (by decide : 2 + 1 ≤ _), (by decide : 38 + 19 ≤ _)⟩)
  dsimp only [Pt.U, Pt.locs, Pt.cells, Pt.slots] at X5 l5 y5 z5 st5 hQ5
  subst l5 y5 z5
  obtain ⟨q5, rfl, N5q, KQ5, hx5⟩ := hQ5
  have N5 := Fr.app N3 N5q
  have Z6 : n0 ≤ T5.heap.size := Nat.le_trans Z4 KQ5.1
  have O := O.keep KQ5 all0
  have hsafe := (all0 : ∀ x ∈ ([] : List Addr), Safe Z own_EL s.vm T3.heap x)
  have CR := CR.trans (CHr.keep KQ5 hsafe H)
  have H := H.keep KQ5 hsafe
  have hk := Nat.le_trans hk KQ5.1
  refine GoesW.pre (U' := T5.setTop (mkF m 23 #[.val (.int p1), .val (.int p2), .val (.int p3), .val (.int p4), .val (.int n), .val (.int q1), .val (.int q3), .val (.int q5), .unset, .unset] [])) (fun t k => st5 t (XS.istore X5.here hx rfl (hb hby at_21) rfl (l' := #[.val (.int p1), .val (.int p2), .val (.int p3), .val (.int p4), .val (.int n), .val (.int q1), .val (.int q3), .val (.int q5), .unset, .unset]) rfl k)) ?_
  rcases own_n4 _ _ hn with rfl | rfl | rfl | rfl
  ·
    refine GoesW.pre (U' := T5.setTop (mkF m 31 #[.val (.int p1), .val (.int p2), .val (.int p3), .val (.int p4), .val (.int (0 : Int32)), .val (.int q1), .val (.int q3), .val (.int q5), .unset, .unset] [(.int q5), (.int q3), (.int q1), (.int (0 : Int32))])) (fun t k => XS.iload X5.here hx rfl (hb hby at_23) rfl (XS.iload X5.here hx rfl (hb hby at_25) rfl (XS.iload X5.here hx rfl (hb hby at_27) rfl (XS.iload X5.here hx rfl (hb hby at_29) rfl k)))) ?_
    obtain ⟨_, _, ⟨T7, L7, k7, n7⟩, -, X7, hS7, hge7, ⟨Lc7, hQ7, l7, y7, z7, CQ7⟩, st7⟩ := Jvm.RoadKit.callSS X5 hx (y := (⟨"com/example/restate/restate/plan/SpacesBlankPinLaw", "make", "(ICCC)Ljava/lang/String;"⟩ : MethodName)) hown (mvT hZ (wq hw 5 rfl)) (mvT hZ (wq hw 6 rfl)) (mvT hZ (wq hw 2 rfl)) (mvT hZ (wq hw 7 rfl)) (by decide) (own_backSH (s := s) (W := 0) (rm_make0 l Z a0 hw hEL [] q1 q3 q5 T5.heap n0 Z6 ) hZ (wq hw 7 rfl) (wq hw 2 rfl) (by decide) (by decide) hEL H all0) (g := (mkF m 31 #[.val (.int p1), .val (.int p2), .val (.int p3), .val (.int p4), .val (.int (0 : Int32)), .val (.int q1), .val (.int q3), .val (.int q5), .unset, .unset] [(.int q5), (.int q3), (.int q1), (.int (0 : Int32))])) rfl (by rw [hml]; rfl) (argsL := [(.int (0 : Int32)), (.int q1), (.int q3), (.int q5)]) (rest := []) (lenOf pd__28ICCC_29Ljava_2flang_2fString_3b rfl) rfl (by show 2 * 0 + _ ≤ _; exact Nat.le_of_eq rfl) (hb hby at_31) (fun _ _ => ⟨rfl, rfl, (by decide : 3 + 4 ≤ _), (by decide : 57 + 8 ≤ _)⟩)
    dsimp only [Pt.U, Pt.locs, Pt.cells, Pt.slots] at X7 l7 y7 z7 st7 hQ7 hS7 hge7 CQ7
    subst l7 y7 z7
    obtain ⟨r7, b7, kb7, rfl, N7q, KQ7, fo0_7⟩ := hQ7
    have N7 := Fr.app N5 N7q
    have hS := foldS (T := T5) hS hk hS7 hge7
    have hZ : Z.Warmed39 (s.setVm T7.vm).vm := State.Warmed39.trans (t := s.setVm s.vm) hZ hS7.1
    have hown := own_found hS7 hown
    have H := CQ7.1
    have CR := CR.trans CQ7
    have hk := Nat.le_refl T7.heap.size
    have Z8 : n0 ≤ T7.heap.size := Nat.le_trans Z6 KQ7.1
    have O := O.keep KQ7 all0
    have S_r7 := fo0_7
    refine GoesW.pre (U' := T7.setTop (mkF m 39 #[.val (.int p1), .val (.int p2), .val (.int p3), .val (.int p4), .val (.int (0 : Int32)), .val (.int q1), .val (.int q3), .val (.int q5), .val (.ref r7), .unset] [(.int (1 : Int32)), (.int (0 : Int32))])) (fun t k => st7.trans (XS.astore X7.here hx rfl (hb hby at_34) rfl rfl (l' := #[.val (.int p1), .val (.int p2), .val (.int p3), .val (.int p4), .val (.int (0 : Int32)), .val (.int q1), .val (.int q3), .val (.int q5), .val (.ref r7), .unset]) rfl (XS.iload X7.here hx rfl (hb hby at_36) rfl (XS.iconst X7.here hx rfl (hb hby at_38) k)))) ?_
    have hc39 : (0 : Int32) < (1 : Int32) := by decide
    refine GoesW.pre (U' := T7.setTop (mkF m 53 #[.val (.int p1), .val (.int p2), .val (.int p3), .val (.int p4), .val (.int (0 : Int32)), .val (.int q1), .val (.int q3), .val (.int q5), .val (.ref r7), .unset] [(.int (2 : Int32)), (.int (0 : Int32))])) (fun t k => XS.icmpYes X7.here hx rfl (pc0 := 39) (pc' := 50) rfl (hb hby at_39) rfl (tlt hc39).1 (by decide) (by decide) (XS.iload X7.here hx rfl (hb hby at_50) rfl (XS.iconst X7.here hx rfl (hb hby at_52) k))) ?_
    have hc53 : (0 : Int32) < (2 : Int32) := by decide
    refine GoesW.pre (U' := T7.setTop (mkF m 67 #[.val (.int p1), .val (.int p2), .val (.int p3), .val (.int p4), .val (.int (0 : Int32)), .val (.int q1), .val (.int q3), .val (.int q5), .val (.ref r7), .unset] [(.int (3 : Int32)), (.int (0 : Int32))])) (fun t k => XS.icmpYes X7.here hx rfl (pc0 := 53) (pc' := 64) rfl (hb hby at_53) rfl (tlt hc53).1 (by decide) (by decide) (XS.iload X7.here hx rfl (hb hby at_64) rfl (XS.iconst X7.here hx rfl (hb hby at_66) k))) ?_
    have hc67 : (0 : Int32) < (3 : Int32) := by decide
    refine GoesW.pre (U' := T7.setTop (mkF m 87 #[.val (.int p1), .val (.int p2), .val (.int p3), .val (.int p4), .val (.int (0 : Int32)), .val (.int q1), .val (.int q3), .val (.int q5), .val (.ref r7), .val (.int (1 : Int32))] [(.ref r7)])) (fun t k => XS.icmpYes X7.here hx rfl (pc0 := 67) (pc' := 78) rfl (hb hby at_67) rfl (tlt hc67).1 (by decide) (by decide) (XS.iconst X7.here hx rfl (hb hby at_78) (XS.goto X7.here hx rfl (pc0 := 79) (pc' := 83) rfl (hb hby at_79) (by decide) (by decide) (XS.istore X7.here hx rfl (hb hby at_83) rfl (l' := #[.val (.int p1), .val (.int p2), .val (.int p3), .val (.int p4), .val (.int (0 : Int32)), .val (.int q1), .val (.int q3), .val (.int q5), .val (.ref r7), .val (.int (1 : Int32))]) rfl (XS.aload X7.here hx rfl (hb hby at_85) rfl rfl k))))) ?_
    obtain ⟨_, _, ⟨T9, L9, k9, n9⟩, -, X9, ⟨Lc9, hQ9, l9, y9, z9⟩, st9⟩ := Jvm.LawKit.callS X7 hx (y := (⟨"com/example/restate/restate/plan/Spaces", "blank", "(Ljava/lang/CharSequence;)Z"⟩ : MethodName)) hown (mvT hZ (wq hw 30 rfl)) (mvT hZ (wq hw 31 rfl)) (mvT hZ (wq hw 32 rfl)) (mvT hZ (wq hw 33 rfl)) (by decide) (backOf (W := 0) (rm_blank0 l Z a0 hw [] r7 b7 kb7 cs sf T7.heap n0 Z8 S_r7 S_COMPACT_STRINGS S__assertionsDisabled S_HI_BYTE_SHIFT S_LO_BYTE_SHIFT S_SIOOBE_FORMATTER hcs hsf O) hZ (wq hw 33 rfl) (wq hw 32 rfl) (by decide) (by decide)) (g := (mkF m 87 #[.val (.int p1), .val (.int p2), .val (.int p3), .val (.int p4), .val (.int (0 : Int32)), .val (.int q1), .val (.int q3), .val (.int q5), .val (.ref r7), .val (.int (1 : Int32))] [(.ref r7)])) rfl (by rw [hml]; rfl) (argsL := [(.ref r7)]) (rest := []) (lenOf pd__28Ljava_2flang_2fCharSequence_3b_29Z rfl) rfl (by show 2 * 0 + _ ≤ _; exact Nat.le_of_eq rfl) (hb hby at_87) (fun _ _ => ⟨rfl, rfl, (by decide : 7 + 0 ≤ _), (by decide : 65 + 0 ≤ _)⟩)
    dsimp only [Pt.U, Pt.locs, Pt.cells, Pt.slots] at X9 l9 y9 z9 st9 hQ9
    subst l9 y9 z9
    obtain ⟨rfl, N9q, HQ9⟩ := hQ9
    have N9 := Fr.app N7 N9q
    refine GoesW.pre (U' := T9.setTop (mkF m 92 #[.val (.int p1), .val (.int p2), .val (.int p3), .val (.int p4), .val (.int (0 : Int32)), .val (.int q1), .val (.int q3), .val (.int q5), .val (.ref r7), .val (.int (1 : Int32))] [(.int (1 : Int32)), (.int own_blank0)])) (fun t k => st9 t (XS.iload X9.here hx rfl (hb hby at_90) rfl k)) ?_
    have hc92 : own_blank0 = (1 : Int32) := by rfl
    refine GoesW.pre (U' := T9.setTop (mkF m 100 #[.val (.int p1), .val (.int p2), .val (.int p3), .val (.int p4), .val (.int (0 : Int32)), .val (.int q1), .val (.int q3), .val (.int q5), .val (.ref r7), .val (.int (1 : Int32))] [(.int (1 : Int32))])) (fun t k => XS.icmpNo X9.here hx rfl (hb hby at_92) rfl (teq hc92).2 (XS.iconst X9.here hx rfl (hb hby at_95) (XS.goto X9.here hx rfl (pc0 := 96) (pc' := 100) rfl (hb hby at_96) (by decide) (by decide) k))) ?_
    refine GoesW.ret X9 hZ hEL hS hk H CR (v := (some (.int (1 : Int32)))) (fun h => by rw [hret] at h; cases h) hlk (by decide) (by decide) HQ9 (fun fs hr => retN X9 hx (t := .boolean) hret (by simp) (hb hby at_100) hr) ?_
    exact ⟨rfl, N9⟩
  ·
    refine GoesW.pre (U' := T5.setTop (mkF m 31 #[.val (.int p1), .val (.int p2), .val (.int p3), .val (.int p4), .val (.int (1 : Int32)), .val (.int q1), .val (.int q3), .val (.int q5), .unset, .unset] [(.int q5), (.int q3), (.int q1), (.int (1 : Int32))])) (fun t k => XS.iload X5.here hx rfl (hb hby at_23) rfl (XS.iload X5.here hx rfl (hb hby at_25) rfl (XS.iload X5.here hx rfl (hb hby at_27) rfl (XS.iload X5.here hx rfl (hb hby at_29) rfl k)))) ?_
    obtain ⟨_, _, ⟨T10, L10, k10, n10⟩, -, X10, ⟨Lc10, hQ10, l10, y10, z10⟩, st10⟩ := Jvm.LawKit.callS X5 hx (y := (⟨"com/example/restate/restate/plan/SpacesBlankPinLaw", "make", "(ICCC)Ljava/lang/String;"⟩ : MethodName)) hown (mvT hZ (wq hw 5 rfl)) (mvT hZ (wq hw 6 rfl)) (mvT hZ (wq hw 2 rfl)) (mvT hZ (wq hw 7 rfl)) (by decide) (backOf (W := 0) (rm_make1 l Z a0 hw [] q1 q3 q5 cs T5.heap n0 Z6 S_COMPACT_STRINGS S__assertionsDisabled S_HI_BYTE_SHIFT S_LO_BYTE_SHIFT hx1 hx3 hx5 hcs O) hZ (wq hw 7 rfl) (wq hw 2 rfl) (by decide) (by decide)) (g := (mkF m 31 #[.val (.int p1), .val (.int p2), .val (.int p3), .val (.int p4), .val (.int (1 : Int32)), .val (.int q1), .val (.int q3), .val (.int q5), .unset, .unset] [(.int q5), (.int q3), (.int q1), (.int (1 : Int32))])) rfl (by rw [hml]; rfl) (argsL := [(.int (1 : Int32)), (.int q1), (.int q3), (.int q5)]) (rest := []) (lenOf pd__28ICCC_29Ljava_2flang_2fString_3b rfl) rfl (by show 2 * 0 + _ ≤ _; exact Nat.le_of_eq rfl) (hb hby at_31) (fun _ _ => ⟨rfl, rfl, (by decide : 3 + 4 ≤ _), (by decide : 57 + 8 ≤ _)⟩)
    dsimp only [Pt.U, Pt.locs, Pt.cells, Pt.slots] at X10 l10 y10 z10 st10 hQ10
    subst l10 y10 z10
    obtain ⟨r10, b10, kb10, rfl, N10q, KQ10, fo0_10⟩ := hQ10
    have N10 := Fr.app N5 N10q
    have Z11 : n0 ≤ T10.heap.size := Nat.le_trans Z6 KQ10.1
    have O := O.keep KQ10 all0
    have hsafe := (all0 : ∀ x ∈ ([] : List Addr), Safe Z own_EL s.vm T5.heap x)
    have CR := CR.trans (CHr.keep KQ10 hsafe H)
    have H := H.keep KQ10 hsafe
    have hk := Nat.le_trans hk KQ10.1
    have S_r10 := fo0_10
    refine GoesW.pre (U' := T10.setTop (mkF m 39 #[.val (.int p1), .val (.int p2), .val (.int p3), .val (.int p4), .val (.int (1 : Int32)), .val (.int q1), .val (.int q3), .val (.int q5), .val (.ref r10), .unset] [(.int (1 : Int32)), (.int (1 : Int32))])) (fun t k => st10 t (XS.astore X10.here hx rfl (hb hby at_34) rfl rfl (l' := #[.val (.int p1), .val (.int p2), .val (.int p3), .val (.int p4), .val (.int (1 : Int32)), .val (.int q1), .val (.int q3), .val (.int q5), .val (.ref r10), .unset]) rfl (XS.iload X10.here hx rfl (hb hby at_36) rfl (XS.iconst X10.here hx rfl (hb hby at_38) k)))) ?_
    have hc39 : ¬ ((1 : Int32) < (1 : Int32)) := by decide
    refine GoesW.pre (U' := T10.setTop (mkF m 44 #[.val (.int p1), .val (.int p2), .val (.int p3), .val (.int p4), .val (.int (1 : Int32)), .val (.int q1), .val (.int q3), .val (.int q5), .val (.ref r10), .unset] [(.int q1)])) (fun t k => XS.icmpNo X10.here hx rfl (hb hby at_39) rfl (flt hc39).1 (XS.iload X10.here hx rfl (hb hby at_42) rfl k)) ?_
    obtain ⟨_, _, ⟨T12, L12, k12, n12⟩, -, X12, ⟨Lc12, hQ12, l12, y12, z12⟩, st12⟩ := Jvm.LawKit.callS X10 hx (y := (⟨"com/example/restate/restate/plan/SpacesBlankPinLaw", "isH", "(C)Z"⟩ : MethodName)) hown (mvT hZ (wq hw 59 rfl)) (mvT hZ (wq hw 60 rfl)) (mvT hZ (wq hw 2 rfl)) (mvT hZ (wq hw 61 rfl)) (by decide) (backOf (W := 0) (rm_isH l Z a0 hw [] q1 T10.heap n0 Z11) hZ (wq hw 61 rfl) (wq hw 2 rfl) (by decide) (by decide)) (g := (mkF m 44 #[.val (.int p1), .val (.int p2), .val (.int p3), .val (.int p4), .val (.int (1 : Int32)), .val (.int q1), .val (.int q3), .val (.int q5), .val (.ref r10), .unset] [(.int q1)])) rfl (by rw [hml]; rfl) (argsL := [(.int q1)]) (rest := []) (lenOf pd__28C_29Z rfl) rfl (by show 2 * 0 + _ ≤ _; exact Nat.le_of_eq rfl) (hb hby at_44) (fun _ _ => ⟨rfl, rfl, (by decide : 7 + 0 ≤ _), (by decide : 65 + 0 ≤ _)⟩)
    dsimp only [Pt.U, Pt.locs, Pt.cells, Pt.slots] at X12 l12 y12 z12 st12 hQ12
    subst l12 y12 z12
    obtain ⟨rfl, N12q, HQ12⟩ := hQ12
    have N12 := Fr.app N10 N12q
    refine GoesW.pre (U' := T12.setTop (mkF m 47 #[.val (.int p1), .val (.int p2), .val (.int p3), .val (.int p4), .val (.int (1 : Int32)), .val (.int q1), .val (.int q3), .val (.int q5), .val (.ref r10), .unset] [(.int (own_isH q1))])) (fun t k => st12 t k) ?_
    by_cases hc47 : (own_isH q1) = (0 : Int32)
    ·
      refine GoesW.pre (U' := T12.setTop (mkF m 87 #[.val (.int p1), .val (.int p2), .val (.int p3), .val (.int p4), .val (.int (1 : Int32)), .val (.int q1), .val (.int q3), .val (.int q5), .val (.ref r10), .val (.int (0 : Int32))] [(.ref r10)])) (fun t k => XS.ifYes X12.here hx rfl (pc0 := 47) (pc' := 82) rfl (hb hby at_47) rfl ((if0 _ _).trans (teq hc47).1) (by decide) (by decide) (XS.iconst X12.here hx rfl (hb hby at_82) (XS.istore X12.here hx rfl (hb hby at_83) rfl (l' := #[.val (.int p1), .val (.int p2), .val (.int p3), .val (.int p4), .val (.int (1 : Int32)), .val (.int q1), .val (.int q3), .val (.int q5), .val (.ref r10), .val (.int (0 : Int32))]) rfl (XS.aload X12.here hx rfl (hb hby at_85) rfl rfl k)))) ?_
      obtain ⟨_, _, ⟨T13, L13, k13, n13⟩, -, X13, ⟨Lc13, hQ13, l13, y13, z13⟩, st13⟩ := Jvm.LawKit.callS X12 hx (y := (⟨"com/example/restate/restate/plan/Spaces", "blank", "(Ljava/lang/CharSequence;)Z"⟩ : MethodName)) hown (mvT hZ (wq hw 30 rfl)) (mvT hZ (wq hw 31 rfl)) (mvT hZ (wq hw 32 rfl)) (mvT hZ (wq hw 33 rfl)) (by decide) (backOf (W := 0) (rm_blank1 l Z a0 hw [] r10 b10 kb10 q1 cs sf T10.heap n0 Z11 S_r10 S_COMPACT_STRINGS S__assertionsDisabled S_HI_BYTE_SHIFT S_LO_BYTE_SHIFT S_SIOOBE_FORMATTER hcs hsf O) hZ (wq hw 33 rfl) (wq hw 32 rfl) (by decide) (by decide)) (g := (mkF m 87 #[.val (.int p1), .val (.int p2), .val (.int p3), .val (.int p4), .val (.int (1 : Int32)), .val (.int q1), .val (.int q3), .val (.int q5), .val (.ref r10), .val (.int (0 : Int32))] [(.ref r10)])) rfl (by rw [hml]; rfl) (argsL := [(.ref r10)]) (rest := []) (lenOf pd__28Ljava_2flang_2fCharSequence_3b_29Z rfl) rfl (by show 2 * 0 + _ ≤ _; exact Nat.le_of_eq rfl) (hb hby at_87) (fun _ _ => ⟨rfl, HQ12, (by decide : 7 + 0 ≤ _), (by decide : 65 + 0 ≤ _)⟩)
      dsimp only [Pt.U, Pt.locs, Pt.cells, Pt.slots] at X13 l13 y13 z13 st13 hQ13
      subst l13 y13 z13
      obtain ⟨rfl, N13q, HQ13⟩ := hQ13
      have N13 := Fr.app N12 N13q
      refine GoesW.pre (U' := T13.setTop (mkF m 92 #[.val (.int p1), .val (.int p2), .val (.int p3), .val (.int p4), .val (.int (1 : Int32)), .val (.int q1), .val (.int q3), .val (.int q5), .val (.ref r10), .val (.int (0 : Int32))] [(.int (0 : Int32)), (.int (own_blank1 q1))])) (fun t k => st13 t (XS.iload X13.here hx rfl (hb hby at_90) rfl k)) ?_
      have hc92 : (own_blank1 q1) = (0 : Int32) := by simp only [own_blank1, own_same, hc47, if_true, if_false]
      refine GoesW.pre (U' := T13.setTop (mkF m 100 #[.val (.int p1), .val (.int p2), .val (.int p3), .val (.int p4), .val (.int (1 : Int32)), .val (.int q1), .val (.int q3), .val (.int q5), .val (.ref r10), .val (.int (0 : Int32))] [(.int (1 : Int32))])) (fun t k => XS.icmpNo X13.here hx rfl (hb hby at_92) rfl (teq hc92).2 (XS.iconst X13.here hx rfl (hb hby at_95) (XS.goto X13.here hx rfl (pc0 := 96) (pc' := 100) rfl (hb hby at_96) (by decide) (by decide) k))) ?_
      refine GoesW.ret X13 hZ hEL hS hk H CR (v := (some (.int (1 : Int32)))) (fun h => by rw [hret] at h; cases h) hlk (by decide) (by decide) HQ13 (fun fs hr => retN X13 hx (t := .boolean) hret (by simp) (hb hby at_100) hr) ?_
      exact ⟨rfl, N13⟩
    ·
      refine GoesW.pre (U' := T12.setTop (mkF m 53 #[.val (.int p1), .val (.int p2), .val (.int p3), .val (.int p4), .val (.int (1 : Int32)), .val (.int q1), .val (.int q3), .val (.int q5), .val (.ref r10), .unset] [(.int (2 : Int32)), (.int (1 : Int32))])) (fun t k => XS.ifNo X12.here hx rfl (hb hby at_47) rfl ((if0 _ _).trans (feq hc47).1) (XS.iload X12.here hx rfl (hb hby at_50) rfl (XS.iconst X12.here hx rfl (hb hby at_52) k))) ?_
      have hc53 : (1 : Int32) < (2 : Int32) := by decide
      refine GoesW.pre (U' := T12.setTop (mkF m 67 #[.val (.int p1), .val (.int p2), .val (.int p3), .val (.int p4), .val (.int (1 : Int32)), .val (.int q1), .val (.int q3), .val (.int q5), .val (.ref r10), .unset] [(.int (3 : Int32)), (.int (1 : Int32))])) (fun t k => XS.icmpYes X12.here hx rfl (pc0 := 53) (pc' := 64) rfl (hb hby at_53) rfl (tlt hc53).1 (by decide) (by decide) (XS.iload X12.here hx rfl (hb hby at_64) rfl (XS.iconst X12.here hx rfl (hb hby at_66) k))) ?_
      have hc67 : (1 : Int32) < (3 : Int32) := by decide
      refine GoesW.pre (U' := T12.setTop (mkF m 87 #[.val (.int p1), .val (.int p2), .val (.int p3), .val (.int p4), .val (.int (1 : Int32)), .val (.int q1), .val (.int q3), .val (.int q5), .val (.ref r10), .val (.int (1 : Int32))] [(.ref r10)])) (fun t k => XS.icmpYes X12.here hx rfl (pc0 := 67) (pc' := 78) rfl (hb hby at_67) rfl (tlt hc67).1 (by decide) (by decide) (XS.iconst X12.here hx rfl (hb hby at_78) (XS.goto X12.here hx rfl (pc0 := 79) (pc' := 83) rfl (hb hby at_79) (by decide) (by decide) (XS.istore X12.here hx rfl (hb hby at_83) rfl (l' := #[.val (.int p1), .val (.int p2), .val (.int p3), .val (.int p4), .val (.int (1 : Int32)), .val (.int q1), .val (.int q3), .val (.int q5), .val (.ref r10), .val (.int (1 : Int32))]) rfl (XS.aload X12.here hx rfl (hb hby at_85) rfl rfl k))))) ?_
      obtain ⟨_, _, ⟨T14, L14, k14, n14⟩, -, X14, ⟨Lc14, hQ14, l14, y14, z14⟩, st14⟩ := Jvm.LawKit.callS X12 hx (y := (⟨"com/example/restate/restate/plan/Spaces", "blank", "(Ljava/lang/CharSequence;)Z"⟩ : MethodName)) hown (mvT hZ (wq hw 30 rfl)) (mvT hZ (wq hw 31 rfl)) (mvT hZ (wq hw 32 rfl)) (mvT hZ (wq hw 33 rfl)) (by decide) (backOf (W := 0) (rm_blank1 l Z a0 hw [] r10 b10 kb10 q1 cs sf T10.heap n0 Z11 S_r10 S_COMPACT_STRINGS S__assertionsDisabled S_HI_BYTE_SHIFT S_LO_BYTE_SHIFT S_SIOOBE_FORMATTER hcs hsf O) hZ (wq hw 33 rfl) (wq hw 32 rfl) (by decide) (by decide)) (g := (mkF m 87 #[.val (.int p1), .val (.int p2), .val (.int p3), .val (.int p4), .val (.int (1 : Int32)), .val (.int q1), .val (.int q3), .val (.int q5), .val (.ref r10), .val (.int (1 : Int32))] [(.ref r10)])) rfl (by rw [hml]; rfl) (argsL := [(.ref r10)]) (rest := []) (lenOf pd__28Ljava_2flang_2fCharSequence_3b_29Z rfl) rfl (by show 2 * 0 + _ ≤ _; exact Nat.le_of_eq rfl) (hb hby at_87) (fun _ _ => ⟨rfl, HQ12, (by decide : 7 + 0 ≤ _), (by decide : 65 + 0 ≤ _)⟩)
      dsimp only [Pt.U, Pt.locs, Pt.cells, Pt.slots] at X14 l14 y14 z14 st14 hQ14
      subst l14 y14 z14
      obtain ⟨rfl, N14q, HQ14⟩ := hQ14
      have N14 := Fr.app N12 N14q
      refine GoesW.pre (U' := T14.setTop (mkF m 92 #[.val (.int p1), .val (.int p2), .val (.int p3), .val (.int p4), .val (.int (1 : Int32)), .val (.int q1), .val (.int q3), .val (.int q5), .val (.ref r10), .val (.int (1 : Int32))] [(.int (1 : Int32)), (.int (own_blank1 q1))])) (fun t k => st14 t (XS.iload X14.here hx rfl (hb hby at_90) rfl k)) ?_
      have hc92 : (own_blank1 q1) = (1 : Int32) := by simp only [own_blank1, own_same, hc47, if_true, if_false]
      refine GoesW.pre (U' := T14.setTop (mkF m 100 #[.val (.int p1), .val (.int p2), .val (.int p3), .val (.int p4), .val (.int (1 : Int32)), .val (.int q1), .val (.int q3), .val (.int q5), .val (.ref r10), .val (.int (1 : Int32))] [(.int (1 : Int32))])) (fun t k => XS.icmpNo X14.here hx rfl (hb hby at_92) rfl (teq hc92).2 (XS.iconst X14.here hx rfl (hb hby at_95) (XS.goto X14.here hx rfl (pc0 := 96) (pc' := 100) rfl (hb hby at_96) (by decide) (by decide) k))) ?_
      refine GoesW.ret X14 hZ hEL hS hk H CR (v := (some (.int (1 : Int32)))) (fun h => by rw [hret] at h; cases h) hlk (by decide) (by decide) HQ14 (fun fs hr => retN X14 hx (t := .boolean) hret (by simp) (hb hby at_100) hr) ?_
      exact ⟨rfl, N14⟩
  ·
    refine GoesW.pre (U' := T5.setTop (mkF m 31 #[.val (.int p1), .val (.int p2), .val (.int p3), .val (.int p4), .val (.int (2 : Int32)), .val (.int q1), .val (.int q3), .val (.int q5), .unset, .unset] [(.int q5), (.int q3), (.int q1), (.int (2 : Int32))])) (fun t k => XS.iload X5.here hx rfl (hb hby at_23) rfl (XS.iload X5.here hx rfl (hb hby at_25) rfl (XS.iload X5.here hx rfl (hb hby at_27) rfl (XS.iload X5.here hx rfl (hb hby at_29) rfl k)))) ?_
    obtain ⟨_, _, ⟨T15, L15, k15, n15⟩, -, X15, ⟨Lc15, hQ15, l15, y15, z15⟩, st15⟩ := Jvm.LawKit.callS X5 hx (y := (⟨"com/example/restate/restate/plan/SpacesBlankPinLaw", "make", "(ICCC)Ljava/lang/String;"⟩ : MethodName)) hown (mvT hZ (wq hw 5 rfl)) (mvT hZ (wq hw 6 rfl)) (mvT hZ (wq hw 2 rfl)) (mvT hZ (wq hw 7 rfl)) (by decide) (backOf (W := 0) (rm_make2 l Z a0 hw [] q1 q3 q5 cs T5.heap n0 Z6 S_COMPACT_STRINGS S__assertionsDisabled S_HI_BYTE_SHIFT S_LO_BYTE_SHIFT hx1 hx3 hx5 hcs O) hZ (wq hw 7 rfl) (wq hw 2 rfl) (by decide) (by decide)) (g := (mkF m 31 #[.val (.int p1), .val (.int p2), .val (.int p3), .val (.int p4), .val (.int (2 : Int32)), .val (.int q1), .val (.int q3), .val (.int q5), .unset, .unset] [(.int q5), (.int q3), (.int q1), (.int (2 : Int32))])) rfl (by rw [hml]; rfl) (argsL := [(.int (2 : Int32)), (.int q1), (.int q3), (.int q5)]) (rest := []) (lenOf pd__28ICCC_29Ljava_2flang_2fString_3b rfl) rfl (by show 2 * 0 + _ ≤ _; exact Nat.le_of_eq rfl) (hb hby at_31) (fun _ _ => ⟨rfl, rfl, (by decide : 3 + 4 ≤ _), (by decide : 57 + 12 ≤ _)⟩)
    dsimp only [Pt.U, Pt.locs, Pt.cells, Pt.slots] at X15 l15 y15 z15 st15 hQ15
    subst l15 y15 z15
    obtain ⟨r15, b15, kb15, rfl, N15q, KQ15, fo0_15⟩ := hQ15
    have N15 := Fr.app N5 N15q
    have Z16 : n0 ≤ T15.heap.size := Nat.le_trans Z6 KQ15.1
    have O := O.keep KQ15 all0
    have hsafe := (all0 : ∀ x ∈ ([] : List Addr), Safe Z own_EL s.vm T5.heap x)
    have CR := CR.trans (CHr.keep KQ15 hsafe H)
    have H := H.keep KQ15 hsafe
    have hk := Nat.le_trans hk KQ15.1
    have S_r15 := fo0_15
    refine GoesW.pre (U' := T15.setTop (mkF m 39 #[.val (.int p1), .val (.int p2), .val (.int p3), .val (.int p4), .val (.int (2 : Int32)), .val (.int q1), .val (.int q3), .val (.int q5), .val (.ref r15), .unset] [(.int (1 : Int32)), (.int (2 : Int32))])) (fun t k => st15 t (XS.astore X15.here hx rfl (hb hby at_34) rfl rfl (l' := #[.val (.int p1), .val (.int p2), .val (.int p3), .val (.int p4), .val (.int (2 : Int32)), .val (.int q1), .val (.int q3), .val (.int q5), .val (.ref r15), .unset]) rfl (XS.iload X15.here hx rfl (hb hby at_36) rfl (XS.iconst X15.here hx rfl (hb hby at_38) k)))) ?_
    have hc39 : ¬ ((2 : Int32) < (1 : Int32)) := by decide
    refine GoesW.pre (U' := T15.setTop (mkF m 44 #[.val (.int p1), .val (.int p2), .val (.int p3), .val (.int p4), .val (.int (2 : Int32)), .val (.int q1), .val (.int q3), .val (.int q5), .val (.ref r15), .unset] [(.int q1)])) (fun t k => XS.icmpNo X15.here hx rfl (hb hby at_39) rfl (flt hc39).1 (XS.iload X15.here hx rfl (hb hby at_42) rfl k)) ?_
    obtain ⟨_, _, ⟨T17, L17, k17, n17⟩, -, X17, ⟨Lc17, hQ17, l17, y17, z17⟩, st17⟩ := Jvm.LawKit.callS X15 hx (y := (⟨"com/example/restate/restate/plan/SpacesBlankPinLaw", "isH", "(C)Z"⟩ : MethodName)) hown (mvT hZ (wq hw 59 rfl)) (mvT hZ (wq hw 60 rfl)) (mvT hZ (wq hw 2 rfl)) (mvT hZ (wq hw 61 rfl)) (by decide) (backOf (W := 0) (rm_isH l Z a0 hw [] q1 T15.heap n0 Z16) hZ (wq hw 61 rfl) (wq hw 2 rfl) (by decide) (by decide)) (g := (mkF m 44 #[.val (.int p1), .val (.int p2), .val (.int p3), .val (.int p4), .val (.int (2 : Int32)), .val (.int q1), .val (.int q3), .val (.int q5), .val (.ref r15), .unset] [(.int q1)])) rfl (by rw [hml]; rfl) (argsL := [(.int q1)]) (rest := []) (lenOf pd__28C_29Z rfl) rfl (by show 2 * 0 + _ ≤ _; exact Nat.le_of_eq rfl) (hb hby at_44) (fun _ _ => ⟨rfl, rfl, (by decide : 7 + 0 ≤ _), (by decide : 69 + 0 ≤ _)⟩)
    dsimp only [Pt.U, Pt.locs, Pt.cells, Pt.slots] at X17 l17 y17 z17 st17 hQ17
    subst l17 y17 z17
    obtain ⟨rfl, N17q, HQ17⟩ := hQ17
    have N17 := Fr.app N15 N17q
    refine GoesW.pre (U' := T17.setTop (mkF m 47 #[.val (.int p1), .val (.int p2), .val (.int p3), .val (.int p4), .val (.int (2 : Int32)), .val (.int q1), .val (.int q3), .val (.int q5), .val (.ref r15), .unset] [(.int (own_isH q1))])) (fun t k => st17 t k) ?_
    by_cases hc47 : (own_isH q1) = (0 : Int32)
    ·
      refine GoesW.pre (U' := T17.setTop (mkF m 87 #[.val (.int p1), .val (.int p2), .val (.int p3), .val (.int p4), .val (.int (2 : Int32)), .val (.int q1), .val (.int q3), .val (.int q5), .val (.ref r15), .val (.int (0 : Int32))] [(.ref r15)])) (fun t k => XS.ifYes X17.here hx rfl (pc0 := 47) (pc' := 82) rfl (hb hby at_47) rfl ((if0 _ _).trans (teq hc47).1) (by decide) (by decide) (XS.iconst X17.here hx rfl (hb hby at_82) (XS.istore X17.here hx rfl (hb hby at_83) rfl (l' := #[.val (.int p1), .val (.int p2), .val (.int p3), .val (.int p4), .val (.int (2 : Int32)), .val (.int q1), .val (.int q3), .val (.int q5), .val (.ref r15), .val (.int (0 : Int32))]) rfl (XS.aload X17.here hx rfl (hb hby at_85) rfl rfl k)))) ?_
      obtain ⟨_, _, ⟨T18, L18, k18, n18⟩, -, X18, ⟨Lc18, hQ18, l18, y18, z18⟩, st18⟩ := Jvm.LawKit.callS X17 hx (y := (⟨"com/example/restate/restate/plan/Spaces", "blank", "(Ljava/lang/CharSequence;)Z"⟩ : MethodName)) hown (mvT hZ (wq hw 30 rfl)) (mvT hZ (wq hw 31 rfl)) (mvT hZ (wq hw 32 rfl)) (mvT hZ (wq hw 33 rfl)) (by decide) (backOf (W := 0) (rm_blank2 l Z a0 hw [] r15 b15 kb15 q1 q3 cs sf T15.heap n0 Z16 S_r15 S_COMPACT_STRINGS S__assertionsDisabled S_HI_BYTE_SHIFT S_LO_BYTE_SHIFT S_SIOOBE_FORMATTER hcs hsf O) hZ (wq hw 33 rfl) (wq hw 32 rfl) (by decide) (by decide)) (g := (mkF m 87 #[.val (.int p1), .val (.int p2), .val (.int p3), .val (.int p4), .val (.int (2 : Int32)), .val (.int q1), .val (.int q3), .val (.int q5), .val (.ref r15), .val (.int (0 : Int32))] [(.ref r15)])) rfl (by rw [hml]; rfl) (argsL := [(.ref r15)]) (rest := []) (lenOf pd__28Ljava_2flang_2fCharSequence_3b_29Z rfl) rfl (by show 2 * 0 + _ ≤ _; exact Nat.le_of_eq rfl) (hb hby at_87) (fun _ _ => ⟨rfl, HQ17, (by decide : 7 + 0 ≤ _), (by decide : 69 + 0 ≤ _)⟩)
      dsimp only [Pt.U, Pt.locs, Pt.cells, Pt.slots] at X18 l18 y18 z18 st18 hQ18
      subst l18 y18 z18
      obtain ⟨rfl, N18q, HQ18⟩ := hQ18
      have N18 := Fr.app N17 N18q
      refine GoesW.pre (U' := T18.setTop (mkF m 92 #[.val (.int p1), .val (.int p2), .val (.int p3), .val (.int p4), .val (.int (2 : Int32)), .val (.int q1), .val (.int q3), .val (.int q5), .val (.ref r15), .val (.int (0 : Int32))] [(.int (0 : Int32)), (.int (own_blank2 q1 q3))])) (fun t k => st18 t (XS.iload X18.here hx rfl (hb hby at_90) rfl k)) ?_
      have hc92 : (own_blank2 q1 q3) = (0 : Int32) := by simp only [own_blank2, own_same, hc47, if_true, if_false]
      refine GoesW.pre (U' := T18.setTop (mkF m 100 #[.val (.int p1), .val (.int p2), .val (.int p3), .val (.int p4), .val (.int (2 : Int32)), .val (.int q1), .val (.int q3), .val (.int q5), .val (.ref r15), .val (.int (0 : Int32))] [(.int (1 : Int32))])) (fun t k => XS.icmpNo X18.here hx rfl (hb hby at_92) rfl (teq hc92).2 (XS.iconst X18.here hx rfl (hb hby at_95) (XS.goto X18.here hx rfl (pc0 := 96) (pc' := 100) rfl (hb hby at_96) (by decide) (by decide) k))) ?_
      refine GoesW.ret X18 hZ hEL hS hk H CR (v := (some (.int (1 : Int32)))) (fun h => by rw [hret] at h; cases h) hlk (by decide) (by decide) HQ18 (fun fs hr => retN X18 hx (t := .boolean) hret (by simp) (hb hby at_100) hr) ?_
      exact ⟨rfl, N18⟩
    ·
      refine GoesW.pre (U' := T17.setTop (mkF m 53 #[.val (.int p1), .val (.int p2), .val (.int p3), .val (.int p4), .val (.int (2 : Int32)), .val (.int q1), .val (.int q3), .val (.int q5), .val (.ref r15), .unset] [(.int (2 : Int32)), (.int (2 : Int32))])) (fun t k => XS.ifNo X17.here hx rfl (hb hby at_47) rfl ((if0 _ _).trans (feq hc47).1) (XS.iload X17.here hx rfl (hb hby at_50) rfl (XS.iconst X17.here hx rfl (hb hby at_52) k))) ?_
      have hc53 : ¬ ((2 : Int32) < (2 : Int32)) := by decide
      refine GoesW.pre (U' := T17.setTop (mkF m 58 #[.val (.int p1), .val (.int p2), .val (.int p3), .val (.int p4), .val (.int (2 : Int32)), .val (.int q1), .val (.int q3), .val (.int q5), .val (.ref r15), .unset] [(.int q3)])) (fun t k => XS.icmpNo X17.here hx rfl (hb hby at_53) rfl (flt hc53).1 (XS.iload X17.here hx rfl (hb hby at_56) rfl k)) ?_
      obtain ⟨_, _, ⟨T19, L19, k19, n19⟩, -, X19, ⟨Lc19, hQ19, l19, y19, z19⟩, st19⟩ := Jvm.LawKit.callS X17 hx (y := (⟨"com/example/restate/restate/plan/SpacesBlankPinLaw", "isH", "(C)Z"⟩ : MethodName)) hown (mvT hZ (wq hw 59 rfl)) (mvT hZ (wq hw 60 rfl)) (mvT hZ (wq hw 2 rfl)) (mvT hZ (wq hw 61 rfl)) (by decide) (backOf (W := 0) (rm_isH l Z a0 hw [] q3 T15.heap n0 Z16) hZ (wq hw 61 rfl) (wq hw 2 rfl) (by decide) (by decide)) (g := (mkF m 58 #[.val (.int p1), .val (.int p2), .val (.int p3), .val (.int p4), .val (.int (2 : Int32)), .val (.int q1), .val (.int q3), .val (.int q5), .val (.ref r15), .unset] [(.int q3)])) rfl (by rw [hml]; rfl) (argsL := [(.int q3)]) (rest := []) (lenOf pd__28C_29Z rfl) rfl (by show 2 * 0 + _ ≤ _; exact Nat.le_of_eq rfl) (hb hby at_58) (fun _ _ => ⟨rfl, HQ17, (by decide : 7 + 0 ≤ _), (by decide : 69 + 0 ≤ _)⟩)
      dsimp only [Pt.U, Pt.locs, Pt.cells, Pt.slots] at X19 l19 y19 z19 st19 hQ19
      subst l19 y19 z19
      obtain ⟨rfl, N19q, HQ19⟩ := hQ19
      have N19 := Fr.app N17 N19q
      refine GoesW.pre (U' := T19.setTop (mkF m 61 #[.val (.int p1), .val (.int p2), .val (.int p3), .val (.int p4), .val (.int (2 : Int32)), .val (.int q1), .val (.int q3), .val (.int q5), .val (.ref r15), .unset] [(.int (own_isH q3))])) (fun t k => st19 t k) ?_
      by_cases hc61 : (own_isH q3) = (0 : Int32)
      ·
        refine GoesW.pre (U' := T19.setTop (mkF m 87 #[.val (.int p1), .val (.int p2), .val (.int p3), .val (.int p4), .val (.int (2 : Int32)), .val (.int q1), .val (.int q3), .val (.int q5), .val (.ref r15), .val (.int (0 : Int32))] [(.ref r15)])) (fun t k => XS.ifYes X19.here hx rfl (pc0 := 61) (pc' := 82) rfl (hb hby at_61) rfl ((if0 _ _).trans (teq hc61).1) (by decide) (by decide) (XS.iconst X19.here hx rfl (hb hby at_82) (XS.istore X19.here hx rfl (hb hby at_83) rfl (l' := #[.val (.int p1), .val (.int p2), .val (.int p3), .val (.int p4), .val (.int (2 : Int32)), .val (.int q1), .val (.int q3), .val (.int q5), .val (.ref r15), .val (.int (0 : Int32))]) rfl (XS.aload X19.here hx rfl (hb hby at_85) rfl rfl k)))) ?_
        obtain ⟨_, _, ⟨T20, L20, k20, n20⟩, -, X20, ⟨Lc20, hQ20, l20, y20, z20⟩, st20⟩ := Jvm.LawKit.callS X19 hx (y := (⟨"com/example/restate/restate/plan/Spaces", "blank", "(Ljava/lang/CharSequence;)Z"⟩ : MethodName)) hown (mvT hZ (wq hw 30 rfl)) (mvT hZ (wq hw 31 rfl)) (mvT hZ (wq hw 32 rfl)) (mvT hZ (wq hw 33 rfl)) (by decide) (backOf (W := 0) (rm_blank2 l Z a0 hw [] r15 b15 kb15 q1 q3 cs sf T15.heap n0 Z16 S_r15 S_COMPACT_STRINGS S__assertionsDisabled S_HI_BYTE_SHIFT S_LO_BYTE_SHIFT S_SIOOBE_FORMATTER hcs hsf O) hZ (wq hw 33 rfl) (wq hw 32 rfl) (by decide) (by decide)) (g := (mkF m 87 #[.val (.int p1), .val (.int p2), .val (.int p3), .val (.int p4), .val (.int (2 : Int32)), .val (.int q1), .val (.int q3), .val (.int q5), .val (.ref r15), .val (.int (0 : Int32))] [(.ref r15)])) rfl (by rw [hml]; rfl) (argsL := [(.ref r15)]) (rest := []) (lenOf pd__28Ljava_2flang_2fCharSequence_3b_29Z rfl) rfl (by show 2 * 0 + _ ≤ _; exact Nat.le_of_eq rfl) (hb hby at_87) (fun _ _ => ⟨rfl, HQ19, (by decide : 7 + 0 ≤ _), (by decide : 69 + 0 ≤ _)⟩)
        dsimp only [Pt.U, Pt.locs, Pt.cells, Pt.slots] at X20 l20 y20 z20 st20 hQ20
        subst l20 y20 z20
        obtain ⟨rfl, N20q, HQ20⟩ := hQ20
        have N20 := Fr.app N19 N20q
        refine GoesW.pre (U' := T20.setTop (mkF m 92 #[.val (.int p1), .val (.int p2), .val (.int p3), .val (.int p4), .val (.int (2 : Int32)), .val (.int q1), .val (.int q3), .val (.int q5), .val (.ref r15), .val (.int (0 : Int32))] [(.int (0 : Int32)), (.int (own_blank2 q1 q3))])) (fun t k => st20 t (XS.iload X20.here hx rfl (hb hby at_90) rfl k)) ?_
        have hc92 : (own_blank2 q1 q3) = (0 : Int32) := by simp only [own_blank2, own_same, hc47, hc61, if_true, if_false]
        refine GoesW.pre (U' := T20.setTop (mkF m 100 #[.val (.int p1), .val (.int p2), .val (.int p3), .val (.int p4), .val (.int (2 : Int32)), .val (.int q1), .val (.int q3), .val (.int q5), .val (.ref r15), .val (.int (0 : Int32))] [(.int (1 : Int32))])) (fun t k => XS.icmpNo X20.here hx rfl (hb hby at_92) rfl (teq hc92).2 (XS.iconst X20.here hx rfl (hb hby at_95) (XS.goto X20.here hx rfl (pc0 := 96) (pc' := 100) rfl (hb hby at_96) (by decide) (by decide) k))) ?_
        refine GoesW.ret X20 hZ hEL hS hk H CR (v := (some (.int (1 : Int32)))) (fun h => by rw [hret] at h; cases h) hlk (by decide) (by decide) HQ20 (fun fs hr => retN X20 hx (t := .boolean) hret (by simp) (hb hby at_100) hr) ?_
        exact ⟨rfl, N20⟩
      ·
        refine GoesW.pre (U' := T19.setTop (mkF m 67 #[.val (.int p1), .val (.int p2), .val (.int p3), .val (.int p4), .val (.int (2 : Int32)), .val (.int q1), .val (.int q3), .val (.int q5), .val (.ref r15), .unset] [(.int (3 : Int32)), (.int (2 : Int32))])) (fun t k => XS.ifNo X19.here hx rfl (hb hby at_61) rfl ((if0 _ _).trans (feq hc61).1) (XS.iload X19.here hx rfl (hb hby at_64) rfl (XS.iconst X19.here hx rfl (hb hby at_66) k))) ?_
        have hc67 : (2 : Int32) < (3 : Int32) := by decide
        refine GoesW.pre (U' := T19.setTop (mkF m 87 #[.val (.int p1), .val (.int p2), .val (.int p3), .val (.int p4), .val (.int (2 : Int32)), .val (.int q1), .val (.int q3), .val (.int q5), .val (.ref r15), .val (.int (1 : Int32))] [(.ref r15)])) (fun t k => XS.icmpYes X19.here hx rfl (pc0 := 67) (pc' := 78) rfl (hb hby at_67) rfl (tlt hc67).1 (by decide) (by decide) (XS.iconst X19.here hx rfl (hb hby at_78) (XS.goto X19.here hx rfl (pc0 := 79) (pc' := 83) rfl (hb hby at_79) (by decide) (by decide) (XS.istore X19.here hx rfl (hb hby at_83) rfl (l' := #[.val (.int p1), .val (.int p2), .val (.int p3), .val (.int p4), .val (.int (2 : Int32)), .val (.int q1), .val (.int q3), .val (.int q5), .val (.ref r15), .val (.int (1 : Int32))]) rfl (XS.aload X19.here hx rfl (hb hby at_85) rfl rfl k))))) ?_
        obtain ⟨_, _, ⟨T21, L21, k21, n21⟩, -, X21, ⟨Lc21, hQ21, l21, y21, z21⟩, st21⟩ := Jvm.LawKit.callS X19 hx (y := (⟨"com/example/restate/restate/plan/Spaces", "blank", "(Ljava/lang/CharSequence;)Z"⟩ : MethodName)) hown (mvT hZ (wq hw 30 rfl)) (mvT hZ (wq hw 31 rfl)) (mvT hZ (wq hw 32 rfl)) (mvT hZ (wq hw 33 rfl)) (by decide) (backOf (W := 0) (rm_blank2 l Z a0 hw [] r15 b15 kb15 q1 q3 cs sf T15.heap n0 Z16 S_r15 S_COMPACT_STRINGS S__assertionsDisabled S_HI_BYTE_SHIFT S_LO_BYTE_SHIFT S_SIOOBE_FORMATTER hcs hsf O) hZ (wq hw 33 rfl) (wq hw 32 rfl) (by decide) (by decide)) (g := (mkF m 87 #[.val (.int p1), .val (.int p2), .val (.int p3), .val (.int p4), .val (.int (2 : Int32)), .val (.int q1), .val (.int q3), .val (.int q5), .val (.ref r15), .val (.int (1 : Int32))] [(.ref r15)])) rfl (by rw [hml]; rfl) (argsL := [(.ref r15)]) (rest := []) (lenOf pd__28Ljava_2flang_2fCharSequence_3b_29Z rfl) rfl (by show 2 * 0 + _ ≤ _; exact Nat.le_of_eq rfl) (hb hby at_87) (fun _ _ => ⟨rfl, HQ19, (by decide : 7 + 0 ≤ _), (by decide : 69 + 0 ≤ _)⟩)
        dsimp only [Pt.U, Pt.locs, Pt.cells, Pt.slots] at X21 l21 y21 z21 st21 hQ21
        subst l21 y21 z21
        obtain ⟨rfl, N21q, HQ21⟩ := hQ21
        have N21 := Fr.app N19 N21q
        refine GoesW.pre (U' := T21.setTop (mkF m 92 #[.val (.int p1), .val (.int p2), .val (.int p3), .val (.int p4), .val (.int (2 : Int32)), .val (.int q1), .val (.int q3), .val (.int q5), .val (.ref r15), .val (.int (1 : Int32))] [(.int (1 : Int32)), (.int (own_blank2 q1 q3))])) (fun t k => st21 t (XS.iload X21.here hx rfl (hb hby at_90) rfl k)) ?_
        have hc92 : (own_blank2 q1 q3) = (1 : Int32) := by simp only [own_blank2, own_same, hc47, hc61, if_true, if_false]
        refine GoesW.pre (U' := T21.setTop (mkF m 100 #[.val (.int p1), .val (.int p2), .val (.int p3), .val (.int p4), .val (.int (2 : Int32)), .val (.int q1), .val (.int q3), .val (.int q5), .val (.ref r15), .val (.int (1 : Int32))] [(.int (1 : Int32))])) (fun t k => XS.icmpNo X21.here hx rfl (hb hby at_92) rfl (teq hc92).2 (XS.iconst X21.here hx rfl (hb hby at_95) (XS.goto X21.here hx rfl (pc0 := 96) (pc' := 100) rfl (hb hby at_96) (by decide) (by decide) k))) ?_
        refine GoesW.ret X21 hZ hEL hS hk H CR (v := (some (.int (1 : Int32)))) (fun h => by rw [hret] at h; cases h) hlk (by decide) (by decide) HQ21 (fun fs hr => retN X21 hx (t := .boolean) hret (by simp) (hb hby at_100) hr) ?_
        exact ⟨rfl, N21⟩
  ·
    refine GoesW.pre (U' := T5.setTop (mkF m 31 #[.val (.int p1), .val (.int p2), .val (.int p3), .val (.int p4), .val (.int (3 : Int32)), .val (.int q1), .val (.int q3), .val (.int q5), .unset, .unset] [(.int q5), (.int q3), (.int q1), (.int (3 : Int32))])) (fun t k => XS.iload X5.here hx rfl (hb hby at_23) rfl (XS.iload X5.here hx rfl (hb hby at_25) rfl (XS.iload X5.here hx rfl (hb hby at_27) rfl (XS.iload X5.here hx rfl (hb hby at_29) rfl k)))) ?_
    obtain ⟨_, _, ⟨T22, L22, k22, n22⟩, -, X22, ⟨Lc22, hQ22, l22, y22, z22⟩, st22⟩ := Jvm.LawKit.callS X5 hx (y := (⟨"com/example/restate/restate/plan/SpacesBlankPinLaw", "make", "(ICCC)Ljava/lang/String;"⟩ : MethodName)) hown (mvT hZ (wq hw 5 rfl)) (mvT hZ (wq hw 6 rfl)) (mvT hZ (wq hw 2 rfl)) (mvT hZ (wq hw 7 rfl)) (by decide) (backOf (W := 0) (rm_make3 l Z a0 hw [] q1 q3 q5 cs T5.heap n0 Z6 S_COMPACT_STRINGS S__assertionsDisabled S_HI_BYTE_SHIFT S_LO_BYTE_SHIFT hx1 hx3 hx5 hcs O) hZ (wq hw 7 rfl) (wq hw 2 rfl) (by decide) (by decide)) (g := (mkF m 31 #[.val (.int p1), .val (.int p2), .val (.int p3), .val (.int p4), .val (.int (3 : Int32)), .val (.int q1), .val (.int q3), .val (.int q5), .unset, .unset] [(.int q5), (.int q3), (.int q1), (.int (3 : Int32))])) rfl (by rw [hml]; rfl) (argsL := [(.int (3 : Int32)), (.int q1), (.int q3), (.int q5)]) (rest := []) (lenOf pd__28ICCC_29Ljava_2flang_2fString_3b rfl) rfl (by show 2 * 0 + _ ≤ _; exact Nat.le_of_eq rfl) (hb hby at_31) (fun _ _ => ⟨rfl, rfl, (by decide : 3 + 4 ≤ _), (by decide : 57 + 16 ≤ _)⟩)
    dsimp only [Pt.U, Pt.locs, Pt.cells, Pt.slots] at X22 l22 y22 z22 st22 hQ22
    subst l22 y22 z22
    obtain ⟨r22, b22, kb22, rfl, N22q, KQ22, fo0_22⟩ := hQ22
    have N22 := Fr.app N5 N22q
    have Z23 : n0 ≤ T22.heap.size := Nat.le_trans Z6 KQ22.1
    have O := O.keep KQ22 all0
    have hsafe := (all0 : ∀ x ∈ ([] : List Addr), Safe Z own_EL s.vm T5.heap x)
    have CR := CR.trans (CHr.keep KQ22 hsafe H)
    have H := H.keep KQ22 hsafe
    have hk := Nat.le_trans hk KQ22.1
    have S_r22 := fo0_22
    refine GoesW.pre (U' := T22.setTop (mkF m 39 #[.val (.int p1), .val (.int p2), .val (.int p3), .val (.int p4), .val (.int (3 : Int32)), .val (.int q1), .val (.int q3), .val (.int q5), .val (.ref r22), .unset] [(.int (1 : Int32)), (.int (3 : Int32))])) (fun t k => st22 t (XS.astore X22.here hx rfl (hb hby at_34) rfl rfl (l' := #[.val (.int p1), .val (.int p2), .val (.int p3), .val (.int p4), .val (.int (3 : Int32)), .val (.int q1), .val (.int q3), .val (.int q5), .val (.ref r22), .unset]) rfl (XS.iload X22.here hx rfl (hb hby at_36) rfl (XS.iconst X22.here hx rfl (hb hby at_38) k)))) ?_
    have hc39 : ¬ ((3 : Int32) < (1 : Int32)) := by decide
    refine GoesW.pre (U' := T22.setTop (mkF m 44 #[.val (.int p1), .val (.int p2), .val (.int p3), .val (.int p4), .val (.int (3 : Int32)), .val (.int q1), .val (.int q3), .val (.int q5), .val (.ref r22), .unset] [(.int q1)])) (fun t k => XS.icmpNo X22.here hx rfl (hb hby at_39) rfl (flt hc39).1 (XS.iload X22.here hx rfl (hb hby at_42) rfl k)) ?_
    obtain ⟨_, _, ⟨T24, L24, k24, n24⟩, -, X24, ⟨Lc24, hQ24, l24, y24, z24⟩, st24⟩ := Jvm.LawKit.callS X22 hx (y := (⟨"com/example/restate/restate/plan/SpacesBlankPinLaw", "isH", "(C)Z"⟩ : MethodName)) hown (mvT hZ (wq hw 59 rfl)) (mvT hZ (wq hw 60 rfl)) (mvT hZ (wq hw 2 rfl)) (mvT hZ (wq hw 61 rfl)) (by decide) (backOf (W := 0) (rm_isH l Z a0 hw [] q1 T22.heap n0 Z23) hZ (wq hw 61 rfl) (wq hw 2 rfl) (by decide) (by decide)) (g := (mkF m 44 #[.val (.int p1), .val (.int p2), .val (.int p3), .val (.int p4), .val (.int (3 : Int32)), .val (.int q1), .val (.int q3), .val (.int q5), .val (.ref r22), .unset] [(.int q1)])) rfl (by rw [hml]; rfl) (argsL := [(.int q1)]) (rest := []) (lenOf pd__28C_29Z rfl) rfl (by show 2 * 0 + _ ≤ _; exact Nat.le_of_eq rfl) (hb hby at_44) (fun _ _ => ⟨rfl, rfl, (by decide : 7 + 0 ≤ _), (by decide : 73 + 0 ≤ _)⟩)
    dsimp only [Pt.U, Pt.locs, Pt.cells, Pt.slots] at X24 l24 y24 z24 st24 hQ24
    subst l24 y24 z24
    obtain ⟨rfl, N24q, HQ24⟩ := hQ24
    have N24 := Fr.app N22 N24q
    refine GoesW.pre (U' := T24.setTop (mkF m 47 #[.val (.int p1), .val (.int p2), .val (.int p3), .val (.int p4), .val (.int (3 : Int32)), .val (.int q1), .val (.int q3), .val (.int q5), .val (.ref r22), .unset] [(.int (own_isH q1))])) (fun t k => st24 t k) ?_
    by_cases hc47 : (own_isH q1) = (0 : Int32)
    ·
      refine GoesW.pre (U' := T24.setTop (mkF m 87 #[.val (.int p1), .val (.int p2), .val (.int p3), .val (.int p4), .val (.int (3 : Int32)), .val (.int q1), .val (.int q3), .val (.int q5), .val (.ref r22), .val (.int (0 : Int32))] [(.ref r22)])) (fun t k => XS.ifYes X24.here hx rfl (pc0 := 47) (pc' := 82) rfl (hb hby at_47) rfl ((if0 _ _).trans (teq hc47).1) (by decide) (by decide) (XS.iconst X24.here hx rfl (hb hby at_82) (XS.istore X24.here hx rfl (hb hby at_83) rfl (l' := #[.val (.int p1), .val (.int p2), .val (.int p3), .val (.int p4), .val (.int (3 : Int32)), .val (.int q1), .val (.int q3), .val (.int q5), .val (.ref r22), .val (.int (0 : Int32))]) rfl (XS.aload X24.here hx rfl (hb hby at_85) rfl rfl k)))) ?_
      obtain ⟨_, _, ⟨T25, L25, k25, n25⟩, -, X25, ⟨Lc25, hQ25, l25, y25, z25⟩, st25⟩ := Jvm.LawKit.callS X24 hx (y := (⟨"com/example/restate/restate/plan/Spaces", "blank", "(Ljava/lang/CharSequence;)Z"⟩ : MethodName)) hown (mvT hZ (wq hw 30 rfl)) (mvT hZ (wq hw 31 rfl)) (mvT hZ (wq hw 32 rfl)) (mvT hZ (wq hw 33 rfl)) (by decide) (backOf (W := 0) (rm_blank3 l Z a0 hw [] r22 b22 kb22 q1 q3 q5 cs sf T22.heap n0 Z23 S_r22 S_COMPACT_STRINGS S__assertionsDisabled S_HI_BYTE_SHIFT S_LO_BYTE_SHIFT S_SIOOBE_FORMATTER hcs hsf O) hZ (wq hw 33 rfl) (wq hw 32 rfl) (by decide) (by decide)) (g := (mkF m 87 #[.val (.int p1), .val (.int p2), .val (.int p3), .val (.int p4), .val (.int (3 : Int32)), .val (.int q1), .val (.int q3), .val (.int q5), .val (.ref r22), .val (.int (0 : Int32))] [(.ref r22)])) rfl (by rw [hml]; rfl) (argsL := [(.ref r22)]) (rest := []) (lenOf pd__28Ljava_2flang_2fCharSequence_3b_29Z rfl) rfl (by show 2 * 0 + _ ≤ _; exact Nat.le_of_eq rfl) (hb hby at_87) (fun _ _ => ⟨rfl, HQ24, (by decide : 7 + 0 ≤ _), (by decide : 73 + 0 ≤ _)⟩)
      dsimp only [Pt.U, Pt.locs, Pt.cells, Pt.slots] at X25 l25 y25 z25 st25 hQ25
      subst l25 y25 z25
      obtain ⟨rfl, N25q, HQ25⟩ := hQ25
      have N25 := Fr.app N24 N25q
      refine GoesW.pre (U' := T25.setTop (mkF m 92 #[.val (.int p1), .val (.int p2), .val (.int p3), .val (.int p4), .val (.int (3 : Int32)), .val (.int q1), .val (.int q3), .val (.int q5), .val (.ref r22), .val (.int (0 : Int32))] [(.int (0 : Int32)), (.int (own_blank3 q1 q3 q5))])) (fun t k => st25 t (XS.iload X25.here hx rfl (hb hby at_90) rfl k)) ?_
      have hc92 : (own_blank3 q1 q3 q5) = (0 : Int32) := by simp only [own_blank3, own_same, hc47, if_true, if_false]
      refine GoesW.pre (U' := T25.setTop (mkF m 100 #[.val (.int p1), .val (.int p2), .val (.int p3), .val (.int p4), .val (.int (3 : Int32)), .val (.int q1), .val (.int q3), .val (.int q5), .val (.ref r22), .val (.int (0 : Int32))] [(.int (1 : Int32))])) (fun t k => XS.icmpNo X25.here hx rfl (hb hby at_92) rfl (teq hc92).2 (XS.iconst X25.here hx rfl (hb hby at_95) (XS.goto X25.here hx rfl (pc0 := 96) (pc' := 100) rfl (hb hby at_96) (by decide) (by decide) k))) ?_
      refine GoesW.ret X25 hZ hEL hS hk H CR (v := (some (.int (1 : Int32)))) (fun h => by rw [hret] at h; cases h) hlk (by decide) (by decide) HQ25 (fun fs hr => retN X25 hx (t := .boolean) hret (by simp) (hb hby at_100) hr) ?_
      exact ⟨rfl, N25⟩
    ·
      refine GoesW.pre (U' := T24.setTop (mkF m 53 #[.val (.int p1), .val (.int p2), .val (.int p3), .val (.int p4), .val (.int (3 : Int32)), .val (.int q1), .val (.int q3), .val (.int q5), .val (.ref r22), .unset] [(.int (2 : Int32)), (.int (3 : Int32))])) (fun t k => XS.ifNo X24.here hx rfl (hb hby at_47) rfl ((if0 _ _).trans (feq hc47).1) (XS.iload X24.here hx rfl (hb hby at_50) rfl (XS.iconst X24.here hx rfl (hb hby at_52) k))) ?_
      have hc53 : ¬ ((3 : Int32) < (2 : Int32)) := by decide
      refine GoesW.pre (U' := T24.setTop (mkF m 58 #[.val (.int p1), .val (.int p2), .val (.int p3), .val (.int p4), .val (.int (3 : Int32)), .val (.int q1), .val (.int q3), .val (.int q5), .val (.ref r22), .unset] [(.int q3)])) (fun t k => XS.icmpNo X24.here hx rfl (hb hby at_53) rfl (flt hc53).1 (XS.iload X24.here hx rfl (hb hby at_56) rfl k)) ?_
      obtain ⟨_, _, ⟨T26, L26, k26, n26⟩, -, X26, ⟨Lc26, hQ26, l26, y26, z26⟩, st26⟩ := Jvm.LawKit.callS X24 hx (y := (⟨"com/example/restate/restate/plan/SpacesBlankPinLaw", "isH", "(C)Z"⟩ : MethodName)) hown (mvT hZ (wq hw 59 rfl)) (mvT hZ (wq hw 60 rfl)) (mvT hZ (wq hw 2 rfl)) (mvT hZ (wq hw 61 rfl)) (by decide) (backOf (W := 0) (rm_isH l Z a0 hw [] q3 T22.heap n0 Z23) hZ (wq hw 61 rfl) (wq hw 2 rfl) (by decide) (by decide)) (g := (mkF m 58 #[.val (.int p1), .val (.int p2), .val (.int p3), .val (.int p4), .val (.int (3 : Int32)), .val (.int q1), .val (.int q3), .val (.int q5), .val (.ref r22), .unset] [(.int q3)])) rfl (by rw [hml]; rfl) (argsL := [(.int q3)]) (rest := []) (lenOf pd__28C_29Z rfl) rfl (by show 2 * 0 + _ ≤ _; exact Nat.le_of_eq rfl) (hb hby at_58) (fun _ _ => ⟨rfl, HQ24, (by decide : 7 + 0 ≤ _), (by decide : 73 + 0 ≤ _)⟩)
      dsimp only [Pt.U, Pt.locs, Pt.cells, Pt.slots] at X26 l26 y26 z26 st26 hQ26
      subst l26 y26 z26
      obtain ⟨rfl, N26q, HQ26⟩ := hQ26
      have N26 := Fr.app N24 N26q
      refine GoesW.pre (U' := T26.setTop (mkF m 61 #[.val (.int p1), .val (.int p2), .val (.int p3), .val (.int p4), .val (.int (3 : Int32)), .val (.int q1), .val (.int q3), .val (.int q5), .val (.ref r22), .unset] [(.int (own_isH q3))])) (fun t k => st26 t k) ?_
      by_cases hc61 : (own_isH q3) = (0 : Int32)
      ·
        refine GoesW.pre (U' := T26.setTop (mkF m 87 #[.val (.int p1), .val (.int p2), .val (.int p3), .val (.int p4), .val (.int (3 : Int32)), .val (.int q1), .val (.int q3), .val (.int q5), .val (.ref r22), .val (.int (0 : Int32))] [(.ref r22)])) (fun t k => XS.ifYes X26.here hx rfl (pc0 := 61) (pc' := 82) rfl (hb hby at_61) rfl ((if0 _ _).trans (teq hc61).1) (by decide) (by decide) (XS.iconst X26.here hx rfl (hb hby at_82) (XS.istore X26.here hx rfl (hb hby at_83) rfl (l' := #[.val (.int p1), .val (.int p2), .val (.int p3), .val (.int p4), .val (.int (3 : Int32)), .val (.int q1), .val (.int q3), .val (.int q5), .val (.ref r22), .val (.int (0 : Int32))]) rfl (XS.aload X26.here hx rfl (hb hby at_85) rfl rfl k)))) ?_
        obtain ⟨_, _, ⟨T27, L27, k27, n27⟩, -, X27, ⟨Lc27, hQ27, l27, y27, z27⟩, st27⟩ := Jvm.LawKit.callS X26 hx (y := (⟨"com/example/restate/restate/plan/Spaces", "blank", "(Ljava/lang/CharSequence;)Z"⟩ : MethodName)) hown (mvT hZ (wq hw 30 rfl)) (mvT hZ (wq hw 31 rfl)) (mvT hZ (wq hw 32 rfl)) (mvT hZ (wq hw 33 rfl)) (by decide) (backOf (W := 0) (rm_blank3 l Z a0 hw [] r22 b22 kb22 q1 q3 q5 cs sf T22.heap n0 Z23 S_r22 S_COMPACT_STRINGS S__assertionsDisabled S_HI_BYTE_SHIFT S_LO_BYTE_SHIFT S_SIOOBE_FORMATTER hcs hsf O) hZ (wq hw 33 rfl) (wq hw 32 rfl) (by decide) (by decide)) (g := (mkF m 87 #[.val (.int p1), .val (.int p2), .val (.int p3), .val (.int p4), .val (.int (3 : Int32)), .val (.int q1), .val (.int q3), .val (.int q5), .val (.ref r22), .val (.int (0 : Int32))] [(.ref r22)])) rfl (by rw [hml]; rfl) (argsL := [(.ref r22)]) (rest := []) (lenOf pd__28Ljava_2flang_2fCharSequence_3b_29Z rfl) rfl (by show 2 * 0 + _ ≤ _; exact Nat.le_of_eq rfl) (hb hby at_87) (fun _ _ => ⟨rfl, HQ26, (by decide : 7 + 0 ≤ _), (by decide : 73 + 0 ≤ _)⟩)
        dsimp only [Pt.U, Pt.locs, Pt.cells, Pt.slots] at X27 l27 y27 z27 st27 hQ27
        subst l27 y27 z27
        obtain ⟨rfl, N27q, HQ27⟩ := hQ27
        have N27 := Fr.app N26 N27q
        refine GoesW.pre (U' := T27.setTop (mkF m 92 #[.val (.int p1), .val (.int p2), .val (.int p3), .val (.int p4), .val (.int (3 : Int32)), .val (.int q1), .val (.int q3), .val (.int q5), .val (.ref r22), .val (.int (0 : Int32))] [(.int (0 : Int32)), (.int (own_blank3 q1 q3 q5))])) (fun t k => st27 t (XS.iload X27.here hx rfl (hb hby at_90) rfl k)) ?_
        have hc92 : (own_blank3 q1 q3 q5) = (0 : Int32) := by simp only [own_blank3, own_same, hc47, hc61, if_true, if_false]
        refine GoesW.pre (U' := T27.setTop (mkF m 100 #[.val (.int p1), .val (.int p2), .val (.int p3), .val (.int p4), .val (.int (3 : Int32)), .val (.int q1), .val (.int q3), .val (.int q5), .val (.ref r22), .val (.int (0 : Int32))] [(.int (1 : Int32))])) (fun t k => XS.icmpNo X27.here hx rfl (hb hby at_92) rfl (teq hc92).2 (XS.iconst X27.here hx rfl (hb hby at_95) (XS.goto X27.here hx rfl (pc0 := 96) (pc' := 100) rfl (hb hby at_96) (by decide) (by decide) k))) ?_
        refine GoesW.ret X27 hZ hEL hS hk H CR (v := (some (.int (1 : Int32)))) (fun h => by rw [hret] at h; cases h) hlk (by decide) (by decide) HQ27 (fun fs hr => retN X27 hx (t := .boolean) hret (by simp) (hb hby at_100) hr) ?_
        exact ⟨rfl, N27⟩
      ·
        refine GoesW.pre (U' := T26.setTop (mkF m 67 #[.val (.int p1), .val (.int p2), .val (.int p3), .val (.int p4), .val (.int (3 : Int32)), .val (.int q1), .val (.int q3), .val (.int q5), .val (.ref r22), .unset] [(.int (3 : Int32)), (.int (3 : Int32))])) (fun t k => XS.ifNo X26.here hx rfl (hb hby at_61) rfl ((if0 _ _).trans (feq hc61).1) (XS.iload X26.here hx rfl (hb hby at_64) rfl (XS.iconst X26.here hx rfl (hb hby at_66) k))) ?_
        have hc67 : ¬ ((3 : Int32) < (3 : Int32)) := by decide
        refine GoesW.pre (U' := T26.setTop (mkF m 72 #[.val (.int p1), .val (.int p2), .val (.int p3), .val (.int p4), .val (.int (3 : Int32)), .val (.int q1), .val (.int q3), .val (.int q5), .val (.ref r22), .unset] [(.int q5)])) (fun t k => XS.icmpNo X26.here hx rfl (hb hby at_67) rfl (flt hc67).1 (XS.iload X26.here hx rfl (hb hby at_70) rfl k)) ?_
        obtain ⟨_, _, ⟨T28, L28, k28, n28⟩, -, X28, ⟨Lc28, hQ28, l28, y28, z28⟩, st28⟩ := Jvm.LawKit.callS X26 hx (y := (⟨"com/example/restate/restate/plan/SpacesBlankPinLaw", "isH", "(C)Z"⟩ : MethodName)) hown (mvT hZ (wq hw 59 rfl)) (mvT hZ (wq hw 60 rfl)) (mvT hZ (wq hw 2 rfl)) (mvT hZ (wq hw 61 rfl)) (by decide) (backOf (W := 0) (rm_isH l Z a0 hw [] q5 T22.heap n0 Z23) hZ (wq hw 61 rfl) (wq hw 2 rfl) (by decide) (by decide)) (g := (mkF m 72 #[.val (.int p1), .val (.int p2), .val (.int p3), .val (.int p4), .val (.int (3 : Int32)), .val (.int q1), .val (.int q3), .val (.int q5), .val (.ref r22), .unset] [(.int q5)])) rfl (by rw [hml]; rfl) (argsL := [(.int q5)]) (rest := []) (lenOf pd__28C_29Z rfl) rfl (by show 2 * 0 + _ ≤ _; exact Nat.le_of_eq rfl) (hb hby at_72) (fun _ _ => ⟨rfl, HQ26, (by decide : 7 + 0 ≤ _), (by decide : 73 + 0 ≤ _)⟩)
        dsimp only [Pt.U, Pt.locs, Pt.cells, Pt.slots] at X28 l28 y28 z28 st28 hQ28
        subst l28 y28 z28
        obtain ⟨rfl, N28q, HQ28⟩ := hQ28
        have N28 := Fr.app N26 N28q
        refine GoesW.pre (U' := T28.setTop (mkF m 75 #[.val (.int p1), .val (.int p2), .val (.int p3), .val (.int p4), .val (.int (3 : Int32)), .val (.int q1), .val (.int q3), .val (.int q5), .val (.ref r22), .unset] [(.int (own_isH q5))])) (fun t k => st28 t k) ?_
        by_cases hc75 : (own_isH q5) = (0 : Int32)
        ·
          refine GoesW.pre (U' := T28.setTop (mkF m 87 #[.val (.int p1), .val (.int p2), .val (.int p3), .val (.int p4), .val (.int (3 : Int32)), .val (.int q1), .val (.int q3), .val (.int q5), .val (.ref r22), .val (.int (0 : Int32))] [(.ref r22)])) (fun t k => XS.ifYes X28.here hx rfl (pc0 := 75) (pc' := 82) rfl (hb hby at_75) rfl ((if0 _ _).trans (teq hc75).1) (by decide) (by decide) (XS.iconst X28.here hx rfl (hb hby at_82) (XS.istore X28.here hx rfl (hb hby at_83) rfl (l' := #[.val (.int p1), .val (.int p2), .val (.int p3), .val (.int p4), .val (.int (3 : Int32)), .val (.int q1), .val (.int q3), .val (.int q5), .val (.ref r22), .val (.int (0 : Int32))]) rfl (XS.aload X28.here hx rfl (hb hby at_85) rfl rfl k)))) ?_
          obtain ⟨_, _, ⟨T29, L29, k29, n29⟩, -, X29, ⟨Lc29, hQ29, l29, y29, z29⟩, st29⟩ := Jvm.LawKit.callS X28 hx (y := (⟨"com/example/restate/restate/plan/Spaces", "blank", "(Ljava/lang/CharSequence;)Z"⟩ : MethodName)) hown (mvT hZ (wq hw 30 rfl)) (mvT hZ (wq hw 31 rfl)) (mvT hZ (wq hw 32 rfl)) (mvT hZ (wq hw 33 rfl)) (by decide) (backOf (W := 0) (rm_blank3 l Z a0 hw [] r22 b22 kb22 q1 q3 q5 cs sf T22.heap n0 Z23 S_r22 S_COMPACT_STRINGS S__assertionsDisabled S_HI_BYTE_SHIFT S_LO_BYTE_SHIFT S_SIOOBE_FORMATTER hcs hsf O) hZ (wq hw 33 rfl) (wq hw 32 rfl) (by decide) (by decide)) (g := (mkF m 87 #[.val (.int p1), .val (.int p2), .val (.int p3), .val (.int p4), .val (.int (3 : Int32)), .val (.int q1), .val (.int q3), .val (.int q5), .val (.ref r22), .val (.int (0 : Int32))] [(.ref r22)])) rfl (by rw [hml]; rfl) (argsL := [(.ref r22)]) (rest := []) (lenOf pd__28Ljava_2flang_2fCharSequence_3b_29Z rfl) rfl (by show 2 * 0 + _ ≤ _; exact Nat.le_of_eq rfl) (hb hby at_87) (fun _ _ => ⟨rfl, HQ28, (by decide : 7 + 0 ≤ _), (by decide : 73 + 0 ≤ _)⟩)
          dsimp only [Pt.U, Pt.locs, Pt.cells, Pt.slots] at X29 l29 y29 z29 st29 hQ29
          subst l29 y29 z29
          obtain ⟨rfl, N29q, HQ29⟩ := hQ29
          have N29 := Fr.app N28 N29q
          refine GoesW.pre (U' := T29.setTop (mkF m 92 #[.val (.int p1), .val (.int p2), .val (.int p3), .val (.int p4), .val (.int (3 : Int32)), .val (.int q1), .val (.int q3), .val (.int q5), .val (.ref r22), .val (.int (0 : Int32))] [(.int (0 : Int32)), (.int (own_blank3 q1 q3 q5))])) (fun t k => st29 t (XS.iload X29.here hx rfl (hb hby at_90) rfl k)) ?_
          have hc92 : (own_blank3 q1 q3 q5) = (0 : Int32) := by simp only [own_blank3, own_same, hc47, hc61, hc75, if_true, if_false]
          refine GoesW.pre (U' := T29.setTop (mkF m 100 #[.val (.int p1), .val (.int p2), .val (.int p3), .val (.int p4), .val (.int (3 : Int32)), .val (.int q1), .val (.int q3), .val (.int q5), .val (.ref r22), .val (.int (0 : Int32))] [(.int (1 : Int32))])) (fun t k => XS.icmpNo X29.here hx rfl (hb hby at_92) rfl (teq hc92).2 (XS.iconst X29.here hx rfl (hb hby at_95) (XS.goto X29.here hx rfl (pc0 := 96) (pc' := 100) rfl (hb hby at_96) (by decide) (by decide) k))) ?_
          refine GoesW.ret X29 hZ hEL hS hk H CR (v := (some (.int (1 : Int32)))) (fun h => by rw [hret] at h; cases h) hlk (by decide) (by decide) HQ29 (fun fs hr => retN X29 hx (t := .boolean) hret (by simp) (hb hby at_100) hr) ?_
          exact ⟨rfl, N29⟩
        ·
          refine GoesW.pre (U' := T28.setTop (mkF m 87 #[.val (.int p1), .val (.int p2), .val (.int p3), .val (.int p4), .val (.int (3 : Int32)), .val (.int q1), .val (.int q3), .val (.int q5), .val (.ref r22), .val (.int (1 : Int32))] [(.ref r22)])) (fun t k => XS.ifNo X28.here hx rfl (hb hby at_75) rfl ((if0 _ _).trans (feq hc75).1) (XS.iconst X28.here hx rfl (hb hby at_78) (XS.goto X28.here hx rfl (pc0 := 79) (pc' := 83) rfl (hb hby at_79) (by decide) (by decide) (XS.istore X28.here hx rfl (hb hby at_83) rfl (l' := #[.val (.int p1), .val (.int p2), .val (.int p3), .val (.int p4), .val (.int (3 : Int32)), .val (.int q1), .val (.int q3), .val (.int q5), .val (.ref r22), .val (.int (1 : Int32))]) rfl (XS.aload X28.here hx rfl (hb hby at_85) rfl rfl k))))) ?_
          obtain ⟨_, _, ⟨T30, L30, k30, n30⟩, -, X30, ⟨Lc30, hQ30, l30, y30, z30⟩, st30⟩ := Jvm.LawKit.callS X28 hx (y := (⟨"com/example/restate/restate/plan/Spaces", "blank", "(Ljava/lang/CharSequence;)Z"⟩ : MethodName)) hown (mvT hZ (wq hw 30 rfl)) (mvT hZ (wq hw 31 rfl)) (mvT hZ (wq hw 32 rfl)) (mvT hZ (wq hw 33 rfl)) (by decide) (backOf (W := 0) (rm_blank3 l Z a0 hw [] r22 b22 kb22 q1 q3 q5 cs sf T22.heap n0 Z23 S_r22 S_COMPACT_STRINGS S__assertionsDisabled S_HI_BYTE_SHIFT S_LO_BYTE_SHIFT S_SIOOBE_FORMATTER hcs hsf O) hZ (wq hw 33 rfl) (wq hw 32 rfl) (by decide) (by decide)) (g := (mkF m 87 #[.val (.int p1), .val (.int p2), .val (.int p3), .val (.int p4), .val (.int (3 : Int32)), .val (.int q1), .val (.int q3), .val (.int q5), .val (.ref r22), .val (.int (1 : Int32))] [(.ref r22)])) rfl (by rw [hml]; rfl) (argsL := [(.ref r22)]) (rest := []) (lenOf pd__28Ljava_2flang_2fCharSequence_3b_29Z rfl) rfl (by show 2 * 0 + _ ≤ _; exact Nat.le_of_eq rfl) (hb hby at_87) (fun _ _ => ⟨rfl, HQ28, (by decide : 7 + 0 ≤ _), (by decide : 73 + 0 ≤ _)⟩)
          dsimp only [Pt.U, Pt.locs, Pt.cells, Pt.slots] at X30 l30 y30 z30 st30 hQ30
          subst l30 y30 z30
          obtain ⟨rfl, N30q, HQ30⟩ := hQ30
          have N30 := Fr.app N28 N30q
          refine GoesW.pre (U' := T30.setTop (mkF m 92 #[.val (.int p1), .val (.int p2), .val (.int p3), .val (.int p4), .val (.int (3 : Int32)), .val (.int q1), .val (.int q3), .val (.int q5), .val (.ref r22), .val (.int (1 : Int32))] [(.int (1 : Int32)), (.int (own_blank3 q1 q3 q5))])) (fun t k => st30 t (XS.iload X30.here hx rfl (hb hby at_90) rfl k)) ?_
          have hc92 : (own_blank3 q1 q3 q5) = (1 : Int32) := by simp only [own_blank3, own_same, hc47, hc61, hc75, if_true, if_false]
          refine GoesW.pre (U' := T30.setTop (mkF m 100 #[.val (.int p1), .val (.int p2), .val (.int p3), .val (.int p4), .val (.int (3 : Int32)), .val (.int q1), .val (.int q3), .val (.int q5), .val (.ref r22), .val (.int (1 : Int32))] [(.int (1 : Int32))])) (fun t k => XS.icmpNo X30.here hx rfl (hb hby at_92) rfl (teq hc92).2 (XS.iconst X30.here hx rfl (hb hby at_95) (XS.goto X30.here hx rfl (pc0 := 96) (pc' := 100) rfl (hb hby at_96) (by decide) (by decide) k))) ?_
          refine GoesW.ret X30 hZ hEL hS hk H CR (v := (some (.int (1 : Int32)))) (fun h => by rw [hret] at h; cases h) hlk (by decide) (by decide) HQ30 (fun fs hr => retN X30 hx (t := .boolean) hret (by simp) (hb hby at_100) hr) ?_
          exact ⟨rfl, N30⟩
theorem own_stat {Z : State} {args : Array Value} {t : Term} {k : Int32} (w : (Cond.eq t (Term.int k)).value args Z none Z [] = some true) : t.eval args Z none [] Z = some (.int k) := by
  obtain ⟨x, y, e1, e2, k1, -⟩ := cmp_v (Or.inl w)
  have e3 : y = .int k := (Option.some.inj (e2.symm.trans (Term.int_eval k)))
  subst e3
  have e4 : ∃ i, x = .int i := by
    have w' := w
    simp only [Cond.value, e1, e2] at w'
    cases x <;> simp at w' ⊢
  obtain ⟨i, rfl⟩ := e4
  rw [e1, gotT (Cond.eq_ints e1 e2) w]
set_option maxRecDepth 65536 in
set_option maxHeartbeats 40000000 in
theorem comes_1 {Post : Tables → Env → Array Value → State → Outcome → State → Prop} (hpost : ∀ tb e args s v u, (limb_1_1.after args s (.returned v) u = true ∧ limb_1_2.after args s (.returned v) u = true ∧ True) → ReturnedEndW s (.returned v) u (Jvm.fieldLocs frame_1_writes args s ++ Jvm.arrayLocs frame_1_arrays args s ++ Jvm.staticLocs frame_1_statics s) 24 1280 → Post tb e args s (.returned v) u) :
    ArmFor flags0 classFile x code maxLocals ret World_1 tables_1 room_1 Calls_1 rest_1 Pre_1 Post := by
  intro l hfl _ _ p e ha hc hk s m args below hf hA hF happ hP
  obtain ⟨hcalls, hrest, hpre⟩ := hP
  obtain ⟨-, -, -, hnamed, -, -, -, hat⟩ := (Spec.applies_iff hf).mp happ
  obtain ⟨hg, hn⟩ := and_e (Cond.before_iff.mp (show (Jvm.Cond.and given_1 narrow_1).before args s = true from hpre))
  obtain ⟨g1, g2⟩ := and_e hg
  obtain ⟨g3, g4⟩ := and_e g2
  obtain ⟨g5, g6⟩ := and_e g4
  obtain ⟨g7, g8⟩ := and_e g6
  obtain ⟨w0, w1, w2, w3, rfl⟩ : ∃ w0 w1 w2 w3 : Value, args = #[w0, w1, w2, w3] := by
    have hs : args.size = 4 := by simpa [Cond.value, given_1] using g1
    obtain ⟨L⟩ := args
    match L, hs with
    | [w0, w1, w2, w3], _ => exact ⟨w0, w1, w2, w3, rfl⟩
  have hw := fun d (hd : d ∈ tables_1) => atoms_spec (ws := Jvm.Cond.code x code maxLocals ret :: tables_1) hat d (List.mem_cons_of_mem _ hd)
  have hfit : Fit s := fun {y c} hc i hi => by
    obtain ⟨ha, rfl⟩ := Array.getElem?_eq_some_iff.mp hc
    have q := List.all_eq_true.mp ((Array.all_eq_true_iff_forall_mem.mp hF) _ (Array.getElem_mem ha)) i (List.mem_range.mpr hi)
    simpa [Array.getElem?_eq_getElem hi] using q
  obtain ⟨hsets, hown0⟩ := atoms_of _ (rest_1_c_eq ▸ (show rest_1_c.before _ s = true from hrest))
  have hr0 := Cond.before_iff.mp hown0
  obtain ⟨i0, ei0⟩ := is_v g3
  obtain rfl : w0 = (.int i0) := Option.some.inj ei0
  obtain ⟨i1, ei1⟩ := is_v g5
  obtain rfl : w1 = (.int i1) := Option.some.inj ei1
  obtain ⟨i2, ei2⟩ := is_v g7
  obtain rfl : w2 = (.int i2) := Option.some.inj ei2
  obtain ⟨i3, ei3⟩ := is_v g8
  obtain rfl : w3 = (.int i3) := Option.some.inj ei3
  obtain ⟨cs, ecs⟩ := is_v (Cond.before_iff.mp (hsets _ (List.mem_of_getElem? (i := 1) rfl)))
  have S_CS : Sta s s.heap "java/lang/String" "COMPACT_STRINGS" "Z" (.int cs) := Sta.start ecs (Or.inl (hsets _ (List.mem_of_getElem? (i := 0) rfl)))
  have hcs : ¬ (cs = (0 : Int32)) := gotF (Cond.eq_ints ecs (Term.int_eval (0))) (not_v (Cond.before_iff.mp (hsets _ (List.mem_of_getElem? (i := 2) rfl))))
  obtain ⟨sf, esf, hsf⟩ := isR_v (Cond.before_iff.mp (hsets _ (List.mem_of_getElem? (i := 8) rfl)))
  have S_SF : Sta s s.heap "jdk/internal/util/Preconditions" "SIOOBE_FORMATTER" "Ljava/util/function/BiFunction;" sf := Sta.start esf (Or.inl (hsets _ (List.mem_of_getElem? (i := 7) rfl)))
  have S_AD : Sta s s.heap "java/lang/StringUTF16" "$assertionsDisabled" "Z" (.int (1 : Int32)) := Sta.start (own_stat (Cond.before_iff.mp (hsets _ (List.mem_of_getElem? (i := 12) rfl)))) (Or.inl (hsets _ (List.mem_of_getElem? (i := 11) rfl)))
  have S_HI : Sta s s.heap "java/lang/StringUTF16" "HI_BYTE_SHIFT" "I" (.int (0 : Int32)) := Sta.start (own_stat (Cond.before_iff.mp (hsets _ (List.mem_of_getElem? (i := 15) rfl)))) (Or.inl (hsets _ (List.mem_of_getElem? (i := 14) rfl)))
  have S_LO : Sta s s.heap "java/lang/StringUTF16" "LO_BYTE_SHIFT" "I" (.int (8 : Int32)) := Sta.start (own_stat (Cond.before_iff.mp (hsets _ (List.mem_of_getElem? (i := 18) rfl)))) (Or.inl (hsets _ (List.mem_of_getElem? (i := 17) rfl)))
  have hEL : EW s _ own_EL := (EW.cons (wq hw 22 rfl) (by decide) EW.nil)
  have hCH : CHv s own_EL s.vm s.heap := CHv.start hEL (fun p hp => hcalls.1 p hp) (hsets _ (List.mem_of_getElem? (i := 2) rfl)) (wq hw 23 rfl) (wq hw 9 rfl)
  obtain ⟨n, o, h1, h2, h3, _, L, rfl, ⟨rfl, N⟩, -, hq⟩ := rm0 l s _ hw hEL tables_1 i0 i1 i2 i3 cs sf s.heap s.heap.size (Nat.le_refl _) S_CS S_AD S_HI S_LO S_SF hcs hsf (Old.start s) p e ha hc hk s m _ below hf ((Spec.applies_iff_loose hf).mp happ).1 ⟨rfl, State.Warmed39.refl s, rfl, hCH, all0⟩ trivial
  refine ⟨n, _, h1, h2, h3, hpost _ _ _ _ _ _ ⟨Cond.after_iff.mpr rfl, Cond.after_iff.mpr (eq_i res_at (Term.int_eval (1)) rfl), trivial⟩ ⟨hq.1, hq.2.1, hq.2.2.1, (hq.2.2.2.sift fun y hy => Or.inr (N y hy)).mono (by decide) (by decide)⟩⟩
theorem main_1_1 : Claimed_1_1 := comes_1 fun _ _ _ _ _ _ h hF => ⟨h.1, hF⟩
theorem main_1_2 : Claimed_1_2 := comes_1 fun _ _ _ _ _ _ h hF => ⟨h.2.1, hF⟩
end Jvm.Pilot.@@N@@
namespace Jvm.Pilot.@@N@@
open Jvm Jvm.ClassFile Sem Op Lib Jvm.Free Jvm.Stand Jvm.Pilot.@@N@@.Jvm.D
/-! MADE BY PROGRAM (witnessworld.py) out of the Statement's table words and the real class files: 20 classes; the members and pool entries that the words name. The judged class is class 1, her method 4. -/
namespace start1
open Jvm.ClassFile
def u (s : String) : CpInfo := .utf8 (stringToUtf16 s)
/-- a pool by its gaps: so many unusable entries, then the entry; so many at the end -/
def gap : Nat → List CpInfo → List CpInfo
  | 0, r => r
  | n + 1, r => .unusable :: gap n r
def poolList (es : List (Nat × CpInfo)) (last : Nat) : List CpInfo := es.foldr (fun e r => gap e.1 (e.2 :: r)) (gap last [])
def pool (es : List (Nat × CpInfo)) (last : Nat) : Array CpInfo := ⟨poolList es last⟩
def fileOf (pool : Array CpInfo) (this : Nat) (attrs : Array Attribute := #[]) (ms : Array MethodInfo := #[]) (fl : Nat := 33) (sup : Nat := 0) (ifs : Array Nat := #[]) (fds : Array FieldInfo := #[]) : ClassFile where
  minorVersion := 0
  majorVersion := 65
  constantPool := pool
  accessFlags := fl
  thisClass := this
  superClass := sup
  interfaces := ifs
  fields := fds
  methods := ms
  attributes := attrs
def plain (name : String) (sup : Option ClassId) : Class where
  name := name
  kind := .ordinary
  loader := none
  accessFlags := 33
  super := sup
  interfaces := #[]
  cf := none
  fields := #[]
  methods := #[]
  instanceTypes := #[]
  staticTypes := #[]
  resolved := #[]
  callSites := []
  init := .initialized
  statics := none
  mirror := none

def pool0 : Array CpInfo := pool [(5, u "<init>"), (0, u "()V"), (1, .class_ 10), (1, u "java/lang/Object")] 113

def k0c0 : Code := { maxStack := 0, maxLocals := 1, code := object_method_1_code, exceptionTable := #[], attributes := #[] }
def k0m0 : Method := { name := "<init>", desc := "()V", sig := { parameters := [], returnType := none }, accessFlags := 1, code := some k0c0 }
/-- java/lang/Object -/
def k0 : Class := { plain "java/lang/Object" none with
  accessFlags := 33
  interfaces := #[]
  cf := some (fileOf pool0 8 #[] #[{ accessFlags := 1, nameIndex := 5, descriptorIndex := 6, attributes := #[] }] 33 0 #[] #[])
  fields := #[]
  methods := #[k0m0]
  instanceTypes := #[]
  staticTypes := #[]
  resolved := Array.replicate 124 none
  statics := none }

def pool1 : Array CpInfo := pool [(2, .class_ 4), (1, u "java/lang/Object"), (0, u "<init>"), (0, u "()V"), (0, .integer 65536), (0, .class_ 9), (0, u "java/lang/String"), (0, .methodref 8 11), (0, .nameAndType 5 12), (0, u "([C)V"), (0, .methodref 14 15), (0, .class_ 16), (0, .nameAndType 17 18), (0, u "com/example/restate/restate/plan/SpacesBlankPinLaw"), (0, u "draw"), (0, u "(I)C"), (0, .methodref 14 20), (0, .nameAndType 21 22), (0, u "make"), (0, u "(ICCC)Ljava/lang/String;"), (0, .methodref 14 24), (0, .nameAndType 25 26), (0, u "isH"), (0, u "(C)Z"), (0, .methodref 28 29), (0, .class_ 30), (0, .nameAndType 31 32), (0, u "com/example/restate/restate/plan/Spaces"), (0, u "blank"), (0, u "(Ljava/lang/CharSequence;)Z"), (3, u "law"), (0, u "(IIII)Z")] 2

def k1m0 : Method := { name := "<init>", desc := "()V", sig := { parameters := [], returnType := none }, accessFlags := 2, code := none }
def k1c1 : Code := { maxStack := 2, maxLocals := 1, code := method_2_code, exceptionTable := #[], attributes := #[] }
def k1m1 : Method := { name := "isH", desc := "(C)Z", sig := { parameters := [.char], returnType := some .boolean }, accessFlags := 10, code := some k1c1 }
def k1c2 : Code := { maxStack := 4, maxLocals := 2, code := method_3_code, exceptionTable := #[], attributes := #[] }
def k1m2 : Method := { name := "draw", desc := "(I)C", sig := { parameters := [.int], returnType := some .char }, accessFlags := 10, code := some k1c2 }
def k1c3 : Code := { maxStack := 6, maxLocals := 4, code := method_4_code, exceptionTable := #[], attributes := #[] }
def k1m3 : Method := { name := "make", desc := "(ICCC)Ljava/lang/String;", sig := { parameters := [.int, .char, .char, .char], returnType := some (.object "java/lang/String") }, accessFlags := 10, code := some k1c3 }
def k1c4 : Code := { maxStack := 4, maxLocals := 10, code := code, exceptionTable := #[], attributes := #[] }
def k1m4 : Method := { name := "law", desc := "(IIII)Z", sig := { parameters := [.int, .int, .int, .int], returnType := some .boolean }, accessFlags := 9, code := some k1c4 }
/-- com/example/restate/restate/plan/SpacesBlankPinLaw -/
def k1 : Class := { plain "com/example/restate/restate/plan/SpacesBlankPinLaw" (some 0) with
  accessFlags := 49
  interfaces := #[]
  cf := some (fileOf pool1 14 #[] #[{ accessFlags := 2, nameIndex := 5, descriptorIndex := 6, attributes := #[] }, { accessFlags := 10, nameIndex := 25, descriptorIndex := 26, attributes := #[] }, { accessFlags := 10, nameIndex := 17, descriptorIndex := 18, attributes := #[] }, { accessFlags := 10, nameIndex := 21, descriptorIndex := 22, attributes := #[] }, { accessFlags := 9, nameIndex := 36, descriptorIndex := 37, attributes := #[] }] 49 2 #[] #[])
  fields := #[]
  methods := #[k1m0, k1m1, k1m2, k1m3, k1m4]
  instanceTypes := #[]
  staticTypes := #[]
  resolved := Array.replicate 40 none
  statics := none }

def pool2 : Array CpInfo := pool [(1, .class_ 2), (0, u "java/io/Serializable"), (0, .class_ 4), (0, u "java/lang/Object")] 2

/-- java/io/Serializable -/
def k2 : Class := { plain "java/io/Serializable" (some 0) with
  accessFlags := 1537
  interfaces := #[]
  cf := some (fileOf pool2 1 #[] #[] 1537 3 #[] #[])
  fields := #[]
  methods := #[]
  instanceTypes := #[]
  staticTypes := #[]
  resolved := Array.replicate 7 none
  statics := none }

def pool3 : Array CpInfo := pool [(1, .class_ 2), (0, u "java/lang/Comparable"), (0, .class_ 4), (0, u "java/lang/Object")] 7

/-- java/lang/Comparable -/
def k3 : Class := { plain "java/lang/Comparable" (some 0) with
  accessFlags := 1537
  interfaces := #[]
  cf := some (fileOf pool3 1 #[] #[] 1537 3 #[] #[])
  fields := #[]
  methods := #[]
  instanceTypes := #[]
  staticTypes := #[]
  resolved := Array.replicate 12 none
  statics := none }

def pool4 : Array CpInfo := pool [(2, .class_ 4), (1, u "java/lang/CharSequence"), (0, u "length"), (0, u "()I"), (38, u "charAt"), (0, u "(I)C"), (0, .class_ 48), (0, u "java/lang/CharSequence$1CodePointIterator"), (10, .class_ 60), (0, u "java/lang/CharSequence$1CharIterator"), (5, .class_ 67), (0, u "java/lang/Object")] 63

def k4m0 : Method := { name := "length", desc := "()I", sig := { parameters := [], returnType := some .int }, accessFlags := 1025, code := none }
def k4m1 : Method := { name := "charAt", desc := "(I)C", sig := { parameters := [.int], returnType := some .char }, accessFlags := 1025, code := none }
/-- java/lang/CharSequence -/
def k4 : Class := { plain "java/lang/CharSequence" (some 0) with
  accessFlags := 1537
  interfaces := #[]
  cf := some (fileOf pool4 2 #[.nestMembers #[47, 59]] #[{ accessFlags := 1025, nameIndex := 5, descriptorIndex := 6, attributes := #[] }, { accessFlags := 1025, nameIndex := 45, descriptorIndex := 46, attributes := #[] }] 1537 66 #[] #[])
  fields := #[]
  methods := #[k4m0, k4m1]
  instanceTypes := #[]
  staticTypes := #[]
  resolved := Array.replicate 131 none
  statics := none }

def pool5 : Array CpInfo := pool [(1, .class_ 2), (0, u "java/lang/constant/Constable"), (0, .class_ 4), (0, u "java/lang/Object")] 6

/-- java/lang/constant/Constable -/
def k5 : Class := { plain "java/lang/constant/Constable" (some 0) with
  accessFlags := 1537
  interfaces := #[]
  cf := some (fileOf pool5 1 #[] #[] 1537 3 #[] #[])
  fields := #[]
  methods := #[]
  instanceTypes := #[]
  staticTypes := #[]
  resolved := Array.replicate 11 none
  statics := none }

def pool6 : Array CpInfo := pool [(1, .class_ 2), (0, u "java/lang/constant/ConstantDesc"), (0, .class_ 4), (0, u "java/lang/Object")] 32

/-- java/lang/constant/ConstantDesc -/
def k6 : Class := { plain "java/lang/constant/ConstantDesc" (some 0) with
  accessFlags := 1537
  interfaces := #[]
  cf := some (fileOf pool6 1 #[] #[] 1537 3 #[] #[])
  fields := #[]
  methods := #[]
  instanceTypes := #[]
  staticTypes := #[]
  resolved := Array.replicate 37 none
  statics := none }

def pool7 : Array CpInfo := pool [(1, .methodref 2 3), (0, .class_ 4), (0, .nameAndType 5 6), (0, u "java/lang/Object"), (0, u "<init>"), (0, u "()V"), (0, .string 8), (0, u ""), (0, .fieldref 10 11), (0, .class_ 12), (0, .nameAndType 13 14), (0, u "java/lang/String"), (0, u "value"), (0, u "[B"), (0, .fieldref 10 16), (0, .nameAndType 17 18), (0, u "coder"), (0, u "B"), (2, u "hash"), (0, u "I"), (2, u "hashIsZero"), (0, u "Z"), (0, .methodref 10 28), (0, .nameAndType 5 29), (0, u "([CIILjava/lang/Void;)V"), (8, .fieldref 10 39), (0, .nameAndType 40 26), (0, u "COMPACT_STRINGS"), (1, .class_ 44), (1, u "java/lang/StringUTF16"), (0, u "compress"), (1, .methodref 42 48), (0, .nameAndType 49 50), (0, u "coderFromArrayLen"), (0, u "([BI)B"), (56, .class_ 109), (1, u "java/lang/StringLatin1"), (32, u "()Z"), (34, .methodref 42 178), (0, .nameAndType 45 179), (0, u "([CII)[B"), (154, u "()I"), (0, .methodref 10 336), (0, .nameAndType 17 337), (0, u "()B"), (25, u "([BI)C"), (27, u "(II)V"), (35, u "(I)C"), (64, .methodref 10 493), (0, .nameAndType 494 142), (0, u "isLatin1"), (0, .methodref 107 496), (0, .nameAndType 497 363), (0, u "charAt"), (0, .methodref 42 496), (2, u "checkIndex"), (5, u "length"), (67, .class_ 576), (0, u "java/lang/CharSequence"), (22, u "CASE_INSENSITIVE_ORDER"), (0, u "Ljava/util/Comparator;"), (409, u "([C)V"), (42, .fieldref 1054 1055), (0, .class_ 1056), (0, .nameAndType 1057 1058), (0, u "jdk/internal/util/Preconditions"), (0, u "SIOOBE_FORMATTER"), (0, u "Ljava/util/function/BiFunction;"), (0, .methodref 1054 1060), (0, .nameAndType 501 1061), (0, u "(IILjava/util/function/BiFunction;)I"), (39, u "serialPersistentFields"), (0, u "[Ljava/io/ObjectStreamField;"), (0, .class_ 1104), (0, u "java/lang/String$CaseInsensitiveComparator"), (1, .class_ 1107), (0, u "java/io/Serializable"), (0, .class_ 1109), (0, u "java/lang/Comparable"), (0, .class_ 1111), (0, u "java/lang/constant/Constable"), (0, .class_ 1113), (0, u "java/lang/constant/ConstantDesc"), (2, u "serialVersionUID"), (0, u "J"), (3, u "REPL"), (0, u "C"), (2, u "LATIN1"), (1, u "UTF16")] 323

def k7m0 : Method := { name := "<init>", desc := "()V", sig := { parameters := [], returnType := none }, accessFlags := 1, code := none }
def k7c1 : Code := { maxStack := 5, maxLocals := 2, code := jdk_42_method_3_code, exceptionTable := #[], attributes := #[] }
def k7m1 : Method := { name := "<init>", desc := "([C)V", sig := { parameters := [(.array .char)], returnType := none }, accessFlags := 1, code := some k7c1 }
def k7c2 : Code := { maxStack := 2, maxLocals := 1, code := jdk_42_method_54_code, exceptionTable := #[], attributes := #[] }
def k7m2 : Method := { name := "length", desc := "()I", sig := { parameters := [], returnType := some .int }, accessFlags := 1, code := some k7c2 }
def k7c3 : Code := { maxStack := 2, maxLocals := 2, code := jdk_42_method_56_code, exceptionTable := #[], attributes := #[] }
def k7m3 : Method := { name := "charAt", desc := "(I)C", sig := { parameters := [.int], returnType := some .char }, accessFlags := 1, code := some k7c3 }
def k7c4 : Code := { maxStack := 4, maxLocals := 6, code := jdk_42_method_149_code, exceptionTable := #[], attributes := #[] }
def k7m4 : Method := { name := "<init>", desc := "([CIILjava/lang/Void;)V", sig := { parameters := [(.array .char), .int, .int, (.object "java/lang/Void")], returnType := none }, accessFlags := 2, code := some k7c4 }
def k7c5 : Code := { maxStack := 1, maxLocals := 1, code := jdk_42_method_152_code, exceptionTable := #[], attributes := #[] }
def k7m5 : Method := { name := "coder", desc := "()B", sig := { parameters := [], returnType := some .byte }, accessFlags := 0, code := some k7c5 }
def k7c6 : Code := { maxStack := 1, maxLocals := 1, code := jdk_42_method_154_code, exceptionTable := #[], attributes := #[] }
def k7m6 : Method := { name := "isLatin1", desc := "()Z", sig := { parameters := [], returnType := some .boolean }, accessFlags := 0, code := some k7c6 }
def k7c7 : Code := { maxStack := 3, maxLocals := 2, code := jdk_42_method_155_code, exceptionTable := #[], attributes := #[] }
def k7m7 : Method := { name := "checkIndex", desc := "(II)V", sig := { parameters := [.int, .int], returnType := none }, accessFlags := 8, code := some k7c7 }
/-- java/lang/String -/
def k7 : Class := { plain "java/lang/String" (some 0) with
  accessFlags := 49
  interfaces := #[2, 3, 4, 5, 6]
  cf := some (fileOf pool7 10 #[.nestMembers #[1103]] #[{ accessFlags := 1, nameIndex := 5, descriptorIndex := 6, attributes := #[] }, { accessFlags := 1, nameIndex := 5, descriptorIndex := 1010, attributes := #[] }, { accessFlags := 1, nameIndex := 507, descriptorIndex := 334, attributes := #[] }, { accessFlags := 1, nameIndex := 497, descriptorIndex := 427, attributes := #[] }, { accessFlags := 2, nameIndex := 5, descriptorIndex := 29, attributes := #[] }, { accessFlags := 0, nameIndex := 17, descriptorIndex := 337, attributes := #[] }, { accessFlags := 0, nameIndex := 494, descriptorIndex := 142, attributes := #[] }, { accessFlags := 8, nameIndex := 501, descriptorIndex := 391, attributes := #[] }] 49 2 #[1106, 1108, 575, 1110, 1112] #[{ accessFlags := 18, nameIndex := 13, descriptorIndex := 14, attributes := #[] }, { accessFlags := 18, nameIndex := 17, descriptorIndex := 18, attributes := #[] }, { accessFlags := 2, nameIndex := 21, descriptorIndex := 22, attributes := #[] }, { accessFlags := 2, nameIndex := 25, descriptorIndex := 26, attributes := #[] }, { accessFlags := 26, nameIndex := 1116, descriptorIndex := 1117, attributes := #[] }, { accessFlags := 24, nameIndex := 40, descriptorIndex := 26, attributes := #[] }, { accessFlags := 26, nameIndex := 1101, descriptorIndex := 1102, attributes := #[] }, { accessFlags := 26, nameIndex := 1121, descriptorIndex := 1122, attributes := #[] }, { accessFlags := 25, nameIndex := 599, descriptorIndex := 600, attributes := #[] }, { accessFlags := 24, nameIndex := 1125, descriptorIndex := 18, attributes := #[] }, { accessFlags := 24, nameIndex := 1127, descriptorIndex := 18, attributes := #[] }])
  fields := #[{ name := "value", type := (.array .byte), accessFlags := 18, slot := 0, constantValue := 0 }, { name := "coder", type := .byte, accessFlags := 18, slot := 1, constantValue := 0 }, { name := "hash", type := .int, accessFlags := 2, slot := 2, constantValue := 0 }, { name := "hashIsZero", type := .boolean, accessFlags := 2, slot := 3, constantValue := 0 }, { name := "serialVersionUID", type := .long, accessFlags := 26, slot := 0, constantValue := 0 }, { name := "COMPACT_STRINGS", type := .boolean, accessFlags := 24, slot := 1, constantValue := 0 }, { name := "serialPersistentFields", type := (.array (.object "java/io/ObjectStreamField")), accessFlags := 26, slot := 2, constantValue := 0 }, { name := "REPL", type := .char, accessFlags := 26, slot := 3, constantValue := 0 }, { name := "CASE_INSENSITIVE_ORDER", type := (.object "java/util/Comparator"), accessFlags := 25, slot := 4, constantValue := 0 }, { name := "LATIN1", type := .byte, accessFlags := 24, slot := 5, constantValue := 0 }, { name := "UTF16", type := .byte, accessFlags := 24, slot := 6, constantValue := 0 }]
  methods := #[k7m0, k7m1, k7m2, k7m3, k7m4, k7m5, k7m6, k7m7]
  instanceTypes := #[(.array .byte), .byte, .int, .boolean]
  staticTypes := #[.long, .boolean, (.array (.object "java/io/ObjectStreamField")), .char, (.object "java/util/Comparator"), .byte, .byte]
  resolved := Array.replicate 1451 none
  statics := some 0 }

def pool8 : Array CpInfo := pool [(2, .class_ 4), (1, u "java/lang/Object"), (0, u "<init>"), (0, u "()V"), (0, .interfaceMethodref 8 9), (0, .class_ 10), (0, .nameAndType 11 12), (0, u "java/lang/CharSequence"), (0, u "length"), (0, u "()I"), (0, .interfaceMethodref 8 14), (0, .nameAndType 15 16), (0, u "charAt"), (0, u "(I)C"), (0, .methodref 18 19), (0, .class_ 20), (0, .nameAndType 21 22), (0, u "com/example/restate/restate/plan/Spaces"), (0, u "space"), (0, u "(C)Z"), (26, u "blank"), (0, u "(Ljava/lang/CharSequence;)Z")] 4

def k8m0 : Method := { name := "<init>", desc := "()V", sig := { parameters := [], returnType := none }, accessFlags := 2, code := none }
def k8c1 : Code := { maxStack := 2, maxLocals := 1, code := prog_34_method_2_code, exceptionTable := #[], attributes := #[] }
def k8m1 : Method := { name := "space", desc := "(C)Z", sig := { parameters := [.char], returnType := some .boolean }, accessFlags := 8, code := some k8c1 }
def k8c2 : Code := { maxStack := 2, maxLocals := 2, code := prog_34_method_3_code, exceptionTable := #[], attributes := #[] }
def k8m2 : Method := { name := "blank", desc := "(Ljava/lang/CharSequence;)Z", sig := { parameters := [(.object "java/lang/CharSequence")], returnType := some .boolean }, accessFlags := 8, code := some k8c2 }
/-- com/example/restate/restate/plan/Spaces -/
def k8 : Class := { plain "com/example/restate/restate/plan/Spaces" (some 0) with
  accessFlags := 48
  interfaces := #[]
  cf := some (fileOf pool8 18 #[] #[{ accessFlags := 2, nameIndex := 5, descriptorIndex := 6, attributes := #[] }, { accessFlags := 8, nameIndex := 21, descriptorIndex := 22, attributes := #[] }, { accessFlags := 8, nameIndex := 49, descriptorIndex := 50, attributes := #[] }] 48 2 #[] #[])
  fields := #[]
  methods := #[k8m0, k8m1, k8m2]
  instanceTypes := #[]
  staticTypes := #[]
  resolved := Array.replicate 55 none
  statics := none }

def pool9 : Array CpInfo := pool [(3, .class_ 4), (0, u "java/lang/String"), (1, .class_ 8), (1, u "java/lang/Object"), (0, u "<init>"), (0, u "()V"), (0, .methodref 12 13), (0, .class_ 14), (0, .nameAndType 15 16), (0, u "java/lang/StringUTF16"), (0, u "newBytesLength"), (0, u "(I)I"), (3, .integer 1073741823), (23, .fieldref 12 45), (0, .nameAndType 46 47), (0, u "$assertionsDisabled"), (0, u "Z"), (0, .methodref 12 49), (0, .nameAndType 50 51), (0, u "length"), (0, u "([B)I"), (7, .fieldref 12 60), (0, .nameAndType 61 62), (0, u "HI_BYTE_SHIFT"), (0, u "I"), (0, .fieldref 12 64), (0, .nameAndType 65 62), (0, u "LO_BYTE_SHIFT"), (1, .methodref 12 68), (0, .nameAndType 69 70), (0, u "checkIndex"), (0, u "(I[B)V"), (0, .methodref 12 72), (0, .nameAndType 73 74), (0, u "getChar"), (0, u "([BI)C"), (32, .methodref 12 108), (0, .nameAndType 109 110), (0, u "newBytesFor"), (0, u "(I)[B"), (0, .methodref 12 112), (0, .nameAndType 113 114), (0, u "putChar"), (0, u "([BII)V"), (0, .methodref 12 116), (0, .nameAndType 117 118), (0, u "compress"), (0, u "([CI[BII)I"), (0, .methodref 12 120), (0, .nameAndType 121 122), (0, u "toBytes"), (0, u "([CII)[B"), (138, u "coderFromArrayLen"), (0, u "([BI)B"), (106, .class_ 371), (1, u "java/lang/StringUTF16$LinesSpliterator"), (20, u "charAt"), (21, .methodref 3 415), (0, .nameAndType 69 416), (0, u "(II)V"), (13, u "MAX_LENGTH"), (196, .class_ 628), (0, u "java/lang/StringUTF16$CodePointsSpliterator"), (0, .class_ 630), (0, u "java/lang/StringUTF16$CharsSpliterator")] 4

def k9m0 : Method := { name := "<init>", desc := "()V", sig := { parameters := [], returnType := none }, accessFlags := 0, code := none }
def k9c1 : Code := { maxStack := 1, maxLocals := 1, code := jdk_52_method_2_code, exceptionTable := #[], attributes := #[] }
def k9m1 : Method := { name := "newBytesFor", desc := "(I)[B", sig := { parameters := [.int], returnType := some (.array .byte) }, accessFlags := 9, code := some k9c1 }
def k9c2 : Code := { maxStack := 4, maxLocals := 1, code := jdk_52_method_3_code, exceptionTable := #[], attributes := #[] }
def k9m2 : Method := { name := "newBytesLength", desc := "(I)I", sig := { parameters := [.int], returnType := some .int }, accessFlags := 9, code := some k9c2 }
def k9c3 : Code := { maxStack := 4, maxLocals := 3, code := jdk_52_method_4_code, exceptionTable := #[], attributes := #[] }
def k9m3 : Method := { name := "putChar", desc := "([BII)V", sig := { parameters := [(.array .byte), .int, .int], returnType := none }, accessFlags := 8, code := some k9c3 }
def k9c4 : Code := { maxStack := 3, maxLocals := 2, code := jdk_52_method_5_code, exceptionTable := #[], attributes := #[] }
def k9m4 : Method := { name := "getChar", desc := "([BI)C", sig := { parameters := [(.array .byte), .int], returnType := some .char }, accessFlags := 8, code := some k9c4 }
def k9c5 : Code := { maxStack := 2, maxLocals := 1, code := jdk_52_method_6_code, exceptionTable := #[], attributes := #[] }
def k9m5 : Method := { name := "length", desc := "([B)I", sig := { parameters := [(.array .byte)], returnType := some .int }, accessFlags := 9, code := some k9c5 }
def k9c6 : Code := { maxStack := 4, maxLocals := 5, code := jdk_52_method_14_code, exceptionTable := #[], attributes := #[] }
def k9m6 : Method := { name := "toBytes", desc := "([CII)[B", sig := { parameters := [(.array .char), .int, .int], returnType := some (.array .byte) }, accessFlags := 9, code := some k9c6 }
def k9c7 : Code := { maxStack := 2, maxLocals := 2, code := jdk_52_method_15_code, exceptionTable := #[], attributes := #[] }
def k9m7 : Method := { name := "coderFromArrayLen", desc := "([BI)B", sig := { parameters := [(.array .byte), .int], returnType := some .byte }, accessFlags := 8, code := some k9c7 }
def k9c8 : Code := { maxStack := 5, maxLocals := 6, code := jdk_52_method_16_code, exceptionTable := #[], attributes := #[] }
def k9m8 : Method := { name := "compress", desc := "([CII)[B", sig := { parameters := [(.array .char), .int, .int], returnType := some (.array .byte) }, accessFlags := 9, code := some k9c8 }
def k9c9 : Code := { maxStack := 3, maxLocals := 7, code := jdk_52_method_21_code, exceptionTable := #[], attributes := #[] }
def k9m9 : Method := { name := "compress", desc := "([CI[BII)I", sig := { parameters := [(.array .char), .int, (.array .byte), .int, .int], returnType := some .int }, accessFlags := 9, code := some k9c9 }
def k9c10 : Code := { maxStack := 2, maxLocals := 2, code := jdk_52_method_83_code, exceptionTable := #[], attributes := #[] }
def k9m10 : Method := { name := "charAt", desc := "([BI)C", sig := { parameters := [(.array .byte), .int], returnType := some .char }, accessFlags := 9, code := some k9c10 }
def k9c11 : Code := { maxStack := 2, maxLocals := 2, code := jdk_52_method_91_code, exceptionTable := #[], attributes := #[] }
def k9m11 : Method := { name := "checkIndex", desc := "(I[B)V", sig := { parameters := [.int, (.array .byte)], returnType := none }, accessFlags := 9, code := some k9c11 }
/-- java/lang/StringUTF16 -/
def k9 : Class := { plain "java/lang/StringUTF16" (some 0) with
  accessFlags := 48
  interfaces := #[]
  cf := some (fileOf pool9 12 #[.nestMembers #[627, 629, 369]] #[{ accessFlags := 0, nameIndex := 9, descriptorIndex := 10, attributes := #[] }, { accessFlags := 9, nameIndex := 109, descriptorIndex := 110, attributes := #[] }, { accessFlags := 9, nameIndex := 15, descriptorIndex := 16, attributes := #[] }, { accessFlags := 8, nameIndex := 113, descriptorIndex := 114, attributes := #[] }, { accessFlags := 8, nameIndex := 73, descriptorIndex := 74, attributes := #[] }, { accessFlags := 9, nameIndex := 50, descriptorIndex := 51, attributes := #[] }, { accessFlags := 9, nameIndex := 121, descriptorIndex := 122, attributes := #[] }, { accessFlags := 8, nameIndex := 261, descriptorIndex := 262, attributes := #[] }, { accessFlags := 9, nameIndex := 117, descriptorIndex := 122, attributes := #[] }, { accessFlags := 9, nameIndex := 117, descriptorIndex := 118, attributes := #[] }, { accessFlags := 9, nameIndex := 392, descriptorIndex := 74, attributes := #[] }, { accessFlags := 9, nameIndex := 69, descriptorIndex := 70, attributes := #[] }] 48 6 #[] #[{ accessFlags := 26, nameIndex := 61, descriptorIndex := 62, attributes := #[] }, { accessFlags := 26, nameIndex := 65, descriptorIndex := 62, attributes := #[] }, { accessFlags := 24, nameIndex := 430, descriptorIndex := 62, attributes := #[] }, { accessFlags := 4120, nameIndex := 46, descriptorIndex := 47, attributes := #[] }])
  fields := #[{ name := "HI_BYTE_SHIFT", type := .int, accessFlags := 26, slot := 0, constantValue := 0 }, { name := "LO_BYTE_SHIFT", type := .int, accessFlags := 26, slot := 1, constantValue := 0 }, { name := "MAX_LENGTH", type := .int, accessFlags := 24, slot := 2, constantValue := 0 }, { name := "$assertionsDisabled", type := .boolean, accessFlags := 4120, slot := 3, constantValue := 0 }]
  methods := #[k9m0, k9m1, k9m2, k9m3, k9m4, k9m5, k9m6, k9m7, k9m8, k9m9, k9m10, k9m11]
  instanceTypes := #[]
  staticTypes := #[.int, .int, .int, .boolean]
  resolved := Array.replicate 635 none
  statics := some 1 }

def pool10 : Array CpInfo := pool [(1, .class_ 2), (0, u "java/lang/String"), (1, .class_ 6), (1, u "java/lang/Object"), (0, u "<init>"), (0, u "()V"), (0, .methodref 1 10), (0, .nameAndType 11 12), (0, u "checkIndex"), (0, u "(II)V"), (1, .class_ 16), (1, u "java/lang/StringLatin1"), (36, u "([BI)C"), (67, u "$assertionsDisabled"), (0, u "Z"), (98, .class_ 223), (1, u "java/lang/StringLatin1$LinesSpliterator"), (28, u "charAt"), (137, .class_ 391), (0, u "java/lang/StringLatin1$CharsSpliterator")] 3

def k10m0 : Method := { name := "<init>", desc := "()V", sig := { parameters := [], returnType := none }, accessFlags := 0, code := none }
def k10c1 : Code := { maxStack := 2, maxLocals := 2, code := jdk_43_method_2_code, exceptionTable := #[], attributes := #[] }
def k10m1 : Method := { name := "charAt", desc := "([BI)C", sig := { parameters := [(.array .byte), .int], returnType := some .char }, accessFlags := 9, code := some k10c1 }
/-- java/lang/StringLatin1 -/
def k10 : Class := { plain "java/lang/StringLatin1" (some 0) with
  accessFlags := 48
  interfaces := #[]
  cf := some (fileOf pool10 14 #[.nestMembers #[390, 221]] #[{ accessFlags := 0, nameIndex := 7, descriptorIndex := 8, attributes := #[] }, { accessFlags := 9, nameIndex := 252, descriptorIndex := 53, attributes := #[] }] 48 4 #[] #[{ accessFlags := 4120, nameIndex := 121, descriptorIndex := 122, attributes := #[] }])
  fields := #[{ name := "$assertionsDisabled", type := .boolean, accessFlags := 4120, slot := 0, constantValue := 0 }]
  methods := #[k10m0, k10m1]
  instanceTypes := #[]
  staticTypes := #[.boolean]
  resolved := Array.replicate 395 none
  statics := none }

def pool11 : Array CpInfo := pool [(2, .class_ 4), (1, u "java/lang/Object"), (0, u "<init>"), (0, u "()V"), (17, .class_ 26), (1, u "jdk/internal/util/Preconditions"), (6, u "checkIndex"), (21, .class_ 56), (0, u "jdk/internal/util/Preconditions$4"), (57, .class_ 115), (0, u "jdk/internal/util/Preconditions$1"), (7, u "SIOOBE_FORMATTER"), (0, u "Ljava/util/function/BiFunction;"), (0, .class_ 126), (0, u "jdk/internal/util/Preconditions$2"), (3, u "AIOOBE_FORMATTER"), (0, .class_ 132), (0, u "jdk/internal/util/Preconditions$3"), (3, u "IOOBE_FORMATTER"), (41, u "(IILjava/util/function/BiFunction;)I")] 15

def k11m0 : Method := { name := "<init>", desc := "()V", sig := { parameters := [], returnType := none }, accessFlags := 1, code := none }
def k11c1 : Code := { maxStack := 3, maxLocals := 3, code := jdk_41_method_11_code, exceptionTable := #[], attributes := #[] }
def k11m1 : Method := { name := "checkIndex", desc := "(IILjava/util/function/BiFunction;)I", sig := { parameters := [.int, .int, (.object "java/util/function/BiFunction")], returnType := some .int }, accessFlags := 9, code := some k11c1 }
/-- jdk/internal/util/Preconditions -/
def k11 : Class := { plain "jdk/internal/util/Preconditions" (some 0) with
  accessFlags := 33
  interfaces := #[]
  cf := some (fileOf pool11 24 #[.nestMembers #[55, 131, 125, 114]] #[{ accessFlags := 1, nameIndex := 5, descriptorIndex := 6, attributes := #[] }, { accessFlags := 9, nameIndex := 33, descriptorIndex := 178, attributes := #[] }] 33 2 #[] #[{ accessFlags := 25, nameIndex := 123, descriptorIndex := 124, attributes := #[] }, { accessFlags := 25, nameIndex := 130, descriptorIndex := 124, attributes := #[] }, { accessFlags := 25, nameIndex := 136, descriptorIndex := 124, attributes := #[] }])
  fields := #[{ name := "SIOOBE_FORMATTER", type := (.object "java/util/function/BiFunction"), accessFlags := 25, slot := 0, constantValue := 0 }, { name := "AIOOBE_FORMATTER", type := (.object "java/util/function/BiFunction"), accessFlags := 25, slot := 1, constantValue := 0 }, { name := "IOOBE_FORMATTER", type := (.object "java/util/function/BiFunction"), accessFlags := 25, slot := 2, constantValue := 0 }]
  methods := #[k11m0, k11m1]
  instanceTypes := #[]
  staticTypes := #[(.object "java/util/function/BiFunction"), (.object "java/util/function/BiFunction"), (.object "java/util/function/BiFunction")]
  resolved := Array.replicate 194 none
  statics := some 2 }

def pool12 : Array CpInfo := pool [(9, u "<init>"), (6, .class_ 18), (1, u "java/lang/Object"), (0, u "()V"), (1, .class_ 23), (1, u "jdk/internal/util/ArraysSupport"), (0, u "LOG2_ARRAY_LONG_INDEX_SCALE"), (0, u "I"), (2, u "U"), (0, u "Ljdk/internal/misc/Unsafe;"), (8, u "BIG_ENDIAN"), (0, u "Z"), (8, u "LOG2_BYTE_BIT_SIZE"), (4, u "LOG2_ARRAY_INT_INDEX_SCALE"), (54, u "JLA"), (0, u "Ljdk/internal/access/JavaLangAccess;"), (11, u "LOG2_ARRAY_BOOLEAN_INDEX_SCALE"), (9, u "LOG2_ARRAY_BYTE_INDEX_SCALE"), (5, u "LOG2_ARRAY_CHAR_INDEX_SCALE"), (5, u "LOG2_ARRAY_SHORT_INDEX_SCALE"), (18, u "LOG2_ARRAY_FLOAT_INDEX_SCALE"), (24, u "LOG2_ARRAY_DOUBLE_INDEX_SCALE"), (89, u "T_BOOLEAN"), (2, u "T_CHAR"), (1, u "T_FLOAT"), (1, u "T_DOUBLE"), (1, u "T_BYTE"), (1, u "T_SHORT"), (1, u "T_INT"), (1, u "T_LONG"), (1, u "SOFT_MAX_ARRAY_LENGTH")] 83

def k12m0 : Method := { name := "<init>", desc := "()V", sig := { parameters := [], returnType := none }, accessFlags := 2, code := none }
/-- jdk/internal/util/ArraysSupport -/
def k12 : Class := { plain "jdk/internal/util/ArraysSupport" (some 0) with
  accessFlags := 33
  interfaces := #[]
  cf := some (fileOf pool12 21 #[] #[{ accessFlags := 2, nameIndex := 9, descriptorIndex := 19, attributes := #[] }] 33 16 #[] #[{ accessFlags := 24, nameIndex := 28, descriptorIndex := 29, attributes := #[] }, { accessFlags := 26, nameIndex := 38, descriptorIndex := 39, attributes := #[] }, { accessFlags := 25, nameIndex := 121, descriptorIndex := 25, attributes := #[] }, { accessFlags := 25, nameIndex := 131, descriptorIndex := 25, attributes := #[] }, { accessFlags := 25, nameIndex := 137, descriptorIndex := 25, attributes := #[] }, { accessFlags := 25, nameIndex := 143, descriptorIndex := 25, attributes := #[] }, { accessFlags := 25, nameIndex := 53, descriptorIndex := 25, attributes := #[] }, { accessFlags := 25, nameIndex := 24, descriptorIndex := 25, attributes := #[] }, { accessFlags := 25, nameIndex := 162, descriptorIndex := 25, attributes := #[] }, { accessFlags := 25, nameIndex := 187, descriptorIndex := 25, attributes := #[] }, { accessFlags := 26, nameIndex := 48, descriptorIndex := 25, attributes := #[] }, { accessFlags := 25, nameIndex := 277, descriptorIndex := 25, attributes := #[] }, { accessFlags := 25, nameIndex := 280, descriptorIndex := 25, attributes := #[] }, { accessFlags := 25, nameIndex := 282, descriptorIndex := 25, attributes := #[] }, { accessFlags := 25, nameIndex := 284, descriptorIndex := 25, attributes := #[] }, { accessFlags := 25, nameIndex := 286, descriptorIndex := 25, attributes := #[] }, { accessFlags := 25, nameIndex := 288, descriptorIndex := 25, attributes := #[] }, { accessFlags := 25, nameIndex := 290, descriptorIndex := 25, attributes := #[] }, { accessFlags := 25, nameIndex := 292, descriptorIndex := 25, attributes := #[] }, { accessFlags := 26, nameIndex := 108, descriptorIndex := 109, attributes := #[] }, { accessFlags := 25, nameIndex := 294, descriptorIndex := 25, attributes := #[] }])
  fields := #[{ name := "U", type := (.object "jdk/internal/misc/Unsafe"), accessFlags := 24, slot := 0, constantValue := 0 }, { name := "BIG_ENDIAN", type := .boolean, accessFlags := 26, slot := 1, constantValue := 0 }, { name := "LOG2_ARRAY_BOOLEAN_INDEX_SCALE", type := .int, accessFlags := 25, slot := 2, constantValue := 0 }, { name := "LOG2_ARRAY_BYTE_INDEX_SCALE", type := .int, accessFlags := 25, slot := 3, constantValue := 0 }, { name := "LOG2_ARRAY_CHAR_INDEX_SCALE", type := .int, accessFlags := 25, slot := 4, constantValue := 0 }, { name := "LOG2_ARRAY_SHORT_INDEX_SCALE", type := .int, accessFlags := 25, slot := 5, constantValue := 0 }, { name := "LOG2_ARRAY_INT_INDEX_SCALE", type := .int, accessFlags := 25, slot := 6, constantValue := 0 }, { name := "LOG2_ARRAY_LONG_INDEX_SCALE", type := .int, accessFlags := 25, slot := 7, constantValue := 0 }, { name := "LOG2_ARRAY_FLOAT_INDEX_SCALE", type := .int, accessFlags := 25, slot := 8, constantValue := 0 }, { name := "LOG2_ARRAY_DOUBLE_INDEX_SCALE", type := .int, accessFlags := 25, slot := 9, constantValue := 0 }, { name := "LOG2_BYTE_BIT_SIZE", type := .int, accessFlags := 26, slot := 10, constantValue := 0 }, { name := "T_BOOLEAN", type := .int, accessFlags := 25, slot := 11, constantValue := 0 }, { name := "T_CHAR", type := .int, accessFlags := 25, slot := 12, constantValue := 0 }, { name := "T_FLOAT", type := .int, accessFlags := 25, slot := 13, constantValue := 0 }, { name := "T_DOUBLE", type := .int, accessFlags := 25, slot := 14, constantValue := 0 }, { name := "T_BYTE", type := .int, accessFlags := 25, slot := 15, constantValue := 0 }, { name := "T_SHORT", type := .int, accessFlags := 25, slot := 16, constantValue := 0 }, { name := "T_INT", type := .int, accessFlags := 25, slot := 17, constantValue := 0 }, { name := "T_LONG", type := .int, accessFlags := 25, slot := 18, constantValue := 0 }, { name := "JLA", type := (.object "jdk/internal/access/JavaLangAccess"), accessFlags := 26, slot := 19, constantValue := 0 }, { name := "SOFT_MAX_ARRAY_LENGTH", type := .int, accessFlags := 25, slot := 20, constantValue := 0 }]
  methods := #[k12m0]
  instanceTypes := #[]
  staticTypes := #[(.object "jdk/internal/misc/Unsafe"), .boolean, .int, .int, .int, .int, .int, .int, .int, .int, .int, .int, .int, .int, .int, .int, .int, .int, .int, (.object "jdk/internal/access/JavaLangAccess"), .int]
  resolved := Array.replicate 378 none
  statics := none }

def pool13 : Array CpInfo := pool [(1, u "java/lang/Cloneable"), (0, .class_ 1), (0, u "java/lang/Object"), (0, .class_ 3)] 3

/-- java/lang/Cloneable -/
def k13 : Class := { plain "java/lang/Cloneable" (some 0) with
  accessFlags := 1537
  interfaces := #[]
  cf := some (fileOf pool13 2 #[] #[] 1537 4 #[] #[])
  fields := #[]
  methods := #[]
  instanceTypes := #[]
  staticTypes := #[]
  resolved := Array.replicate 8 none
  statics := none }

/-- the primitive byte -/
def k14 : Class := { plain "byte" none with kind := .primitive 'B', accessFlags := 0x411 }
/-- [B -/
def k15 : Class := { plain "[B" (some 0) with kind := .array 14 .byte, interfaces := #[13, 2], accessFlags := 1041 }

/-- the primitive char -/
def k16 : Class := { plain "char" none with kind := .primitive 'C', accessFlags := 0x411 }
/-- [C -/
def k17 : Class := { plain "[C" (some 0) with kind := .array 16 .char, interfaces := #[13, 2], accessFlags := 1041 }

/-- the primitive int -/
def k18 : Class := { plain "int" none with kind := .primitive 'I', accessFlags := 0x411 }
/-- [I -/
def k19 : Class := { plain "[I" (some 0) with kind := .array 18 .int, interfaces := #[13, 2], accessFlags := 1041 }

def heap : Heap := #[{ cls := 7, slots := #[.long 0, .int 1, .null, .int 0, .null, .int 0, .int 0], vm := .statics 7 },
  { cls := 9, slots := #[.int 0, .int 8, .int 0, .int 1], vm := .statics 9 },
  { cls := 11, slots := #[.null, .null, .null], vm := .statics 11 }]
def classes : Array Class := #[k0, k1, k2, k3, k4, k5, k6, k7, k8, k9, k10, k11, k12, k13, k14, k15, k16, k17, k18, k19]
def interned : List (Array UInt16 × Addr) := []
def slotsUsed : Nat := 14
def theMethod : MethodId := ⟨1, 4⟩
def args0 : Array Value := #[.int 2, .int 65, .int 66, .int 1]
def aboutOver (below : List Frame) : State where
  vm := { classes := classes, interned := interned.toArray }
  heap := heap
  slotsUsed := slotsUsed
  threads := #[{ frames := .invoking theMethod args0 :: below }]
def below0 : List Frame := [.native { method := ⟨0, 0⟩, args := #[] }]
def about1 : State := aboutOver below0
def p0 : Program := .bare "" "" ""
def e0 : Env := launch0.env 0 0 0
theorem w_frames : about1.frames = Frame.invoking theMethod args0 :: below0 := rfl
set_option maxRecDepth 65536 in
theorem w_args : argsFit about1.vm theMethod args0 = true := by decide +kernel
set_option maxRecDepth 65536 in
theorem w_heap : heapFits about1 = true := by decide +kernel
set_option maxRecDepth 65536 in
theorem w_runnable : about1.curStatus? = some .runnable := by decide +kernel
set_option maxRecDepth 65536 in
theorem w_alone : about1.alone = true := by decide +kernel
set_option maxRecDepth 65536 in
theorem w_named : about1.methodNamed? x = some theMethod := by decide +kernel
set_option maxRecDepth 65536 in
theorem w_hears : about1.hears theMethod below0 = true := by decide +kernel
set_option maxRecDepth 65536 in
theorem w_ripe : about1.ripe theMethod args0 below0 = true := by decide +kernel
theorem w_running : about1.status = .running := rfl
set_option maxRecDepth 65536 in
theorem w_room : about1.hasRoom e0.platform room_1 = true :=
  launch0.hasRoom_least _ room_1 (by decide +kernel) (by decide +kernel) (by decide +kernel) (by decide +kernel) (by decide +kernel) (by decide +kernel)
theorem allAtoms_all (ts : List Jvm.Cond) (a : Array Jvm.Value) (st : Jvm.State) : (allAtoms ts).before a st = ts.all (fun c => c.before a st) := by
  induction ts with
  | nil => rfl
  | cons c t ih =>
    show (Jvm.Cond.and c (allAtoms t)).before a st = _
    rw [Jvm.Cond.before_and, ih, List.all_cons]
def words1 : List Jvm.Cond := Jvm.Cond.code x code maxLocals ret :: tables_1
/-- a 'code' word, met by the world's own term for the bytes: nothing is compared byte by byte -/
theorem code_word {y : MethodName} {bytes : ByteArray} {mx : Nat} {rt : Option FieldType} {a : Array Value} {s : State} {m : MethodId} {meth : Method} {c : Code} (h1 : s.methodNamed? y = some m) (h2 : s.vm.method? m = some meth) (h3 : meth.code = some c) (h4 : c.code = bytes)
    (h5 : (c.maxLocals == mx && c.exceptionTable.isEmpty && decide (c.maxStack ≤ mostOperands) && decide (meth.sig.returnType = rt) && !meth.locks && decide (parseMethodDescriptor y.desc = some meth.sig)) = true) : (Jvm.Cond.code y bytes mx rt).before a s = true := by
  simp only [Bool.and_eq_true, beq_iff_eq, Bool.not_eq_true', decide_eq_true_eq] at h5
  obtain ⟨⟨⟨⟨⟨g1, g2⟩, g3⟩, g4⟩, g5⟩, g6⟩ := h5
  simp [Cond.before, Cond.holds, Cond.value, h1, h2, h3, h4, g1, g2, g3, g4, g5, g6]
def isCode : Jvm.Cond → Bool
  | .code _ _ _ _ => true
  | _ => false
theorem all_split {L : List Jvm.Cond} {P : Jvm.Cond → Bool} (h1 : L.all (fun c => isCode c || P c) = true) (h2 : ∀ c ∈ L.filter isCode, P c = true) : L.all P = true := by
  refine List.all_eq_true.mpr fun c hc => ?_
  have h := List.all_eq_true.mp h1 c hc
  rcases Bool.eq_false_or_eq_true (isCode c) with hi | hi
  · exact h2 c (List.mem_filter.mpr ⟨hc, hi⟩)
  · simpa [hi] using h
set_option maxRecDepth 65536 in
theorem w_c0 : (Jvm.Cond.code x code maxLocals ret).before args0 about1 = true := code_word (m := ⟨1, 4⟩) (meth := k1m4) (c := k1c4) (by decide +kernel) rfl rfl rfl (by decide +kernel)
set_option maxRecDepth 65536 in
theorem w_c1 : (Jvm.Cond.code ({ cls := "com/example/restate/restate/plan/SpacesBlankPinLaw", name := "draw", desc := "(I)C" } : Jvm.MethodName) method_3_code (2 : Nat) (Option.some Jvm.ClassFile.FieldType.char)).before args0 about1 = true := code_word (m := ⟨1, 2⟩) (meth := k1m2) (c := k1c2) (by decide +kernel) rfl rfl rfl (by decide +kernel)
set_option maxRecDepth 65536 in
theorem w_c2 : (Jvm.Cond.code ({ cls := "com/example/restate/restate/plan/SpacesBlankPinLaw", name := "make", desc := "(ICCC)Ljava/lang/String;" } : Jvm.MethodName) method_4_code (4 : Nat) (Option.some (Jvm.ClassFile.FieldType.object "java/lang/String"))).before args0 about1 = true := code_word (m := ⟨1, 3⟩) (meth := k1m3) (c := k1c3) (by decide +kernel) rfl rfl rfl (by decide +kernel)
set_option maxRecDepth 65536 in
theorem w_c3 : (Jvm.Cond.code ({ cls := "java/lang/String", name := "<init>", desc := "([C)V" } : Jvm.MethodName) jdk_42_method_3_code (2 : Nat) (Option.none : Option Jvm.ClassFile.FieldType)).before args0 about1 = true := code_word (m := ⟨7, 1⟩) (meth := k7m1) (c := k7c1) (by decide +kernel) rfl rfl rfl (by decide +kernel)
set_option maxRecDepth 65536 in
theorem w_c4 : (Jvm.Cond.code ({ cls := "java/lang/String", name := "<init>", desc := "([CIILjava/lang/Void;)V" } : Jvm.MethodName) jdk_42_method_149_code (6 : Nat) (Option.none : Option Jvm.ClassFile.FieldType)).before args0 about1 = true := code_word (m := ⟨7, 4⟩) (meth := k7m4) (c := k7c4) (by decide +kernel) rfl rfl rfl (by decide +kernel)
set_option maxRecDepth 65536 in
theorem w_c5 : (Jvm.Cond.code ({ cls := "java/lang/Object", name := "<init>", desc := "()V" } : Jvm.MethodName) object_method_1_code (1 : Nat) (Option.none : Option Jvm.ClassFile.FieldType)).before args0 about1 = true := code_word (m := ⟨0, 0⟩) (meth := k0m0) (c := k0c0) (by decide +kernel) rfl rfl rfl (by decide +kernel)
set_option maxRecDepth 65536 in
theorem w_c6 : (Jvm.Cond.code ({ cls := "com/example/restate/restate/plan/Spaces", name := "blank", desc := "(Ljava/lang/CharSequence;)Z" } : Jvm.MethodName) prog_34_method_3_code (2 : Nat) (Option.some Jvm.ClassFile.FieldType.boolean)).before args0 about1 = true := code_word (m := ⟨8, 2⟩) (meth := k8m2) (c := k8c2) (by decide +kernel) rfl rfl rfl (by decide +kernel)
set_option maxRecDepth 65536 in
theorem w_c7 : (Jvm.Cond.code ({ cls := "java/lang/String", name := "length", desc := "()I" } : Jvm.MethodName) jdk_42_method_54_code (1 : Nat) (Option.some Jvm.ClassFile.FieldType.int)).before args0 about1 = true := code_word (m := ⟨7, 2⟩) (meth := k7m2) (c := k7c2) (by decide +kernel) rfl rfl rfl (by decide +kernel)
set_option maxRecDepth 65536 in
theorem w_c8 : (Jvm.Cond.code ({ cls := "java/lang/String", name := "coder", desc := "()B" } : Jvm.MethodName) jdk_42_method_152_code (1 : Nat) (Option.some Jvm.ClassFile.FieldType.byte)).before args0 about1 = true := code_word (m := ⟨7, 5⟩) (meth := k7m5) (c := k7c5) (by decide +kernel) rfl rfl rfl (by decide +kernel)
set_option maxRecDepth 65536 in
theorem w_c9 : (Jvm.Cond.code ({ cls := "java/lang/StringUTF16", name := "compress", desc := "([CII)[B" } : Jvm.MethodName) jdk_52_method_16_code (6 : Nat) (Option.some (Jvm.ClassFile.FieldType.array Jvm.ClassFile.FieldType.byte))).before args0 about1 = true := code_word (m := ⟨9, 8⟩) (meth := k9m8) (c := k9c8) (by decide +kernel) rfl rfl rfl (by decide +kernel)
set_option maxRecDepth 65536 in
theorem w_c10 : (Jvm.Cond.code ({ cls := "java/lang/StringUTF16", name := "compress", desc := "([CI[BII)I" } : Jvm.MethodName) jdk_52_method_21_code (7 : Nat) (Option.some Jvm.ClassFile.FieldType.int)).before args0 about1 = true := code_word (m := ⟨9, 9⟩) (meth := k9m9) (c := k9c9) (by decide +kernel) rfl rfl rfl (by decide +kernel)
set_option maxRecDepth 65536 in
theorem w_c11 : (Jvm.Cond.code ({ cls := "java/lang/StringUTF16", name := "coderFromArrayLen", desc := "([BI)B" } : Jvm.MethodName) jdk_52_method_15_code (2 : Nat) (Option.some Jvm.ClassFile.FieldType.byte)).before args0 about1 = true := code_word (m := ⟨9, 7⟩) (meth := k9m7) (c := k9c7) (by decide +kernel) rfl rfl rfl (by decide +kernel)
set_option maxRecDepth 65536 in
theorem w_c12 : (Jvm.Cond.code ({ cls := "com/example/restate/restate/plan/SpacesBlankPinLaw", name := "isH", desc := "(C)Z" } : Jvm.MethodName) method_2_code (1 : Nat) (Option.some Jvm.ClassFile.FieldType.boolean)).before args0 about1 = true := code_word (m := ⟨1, 1⟩) (meth := k1m1) (c := k1c1) (by decide +kernel) rfl rfl rfl (by decide +kernel)
set_option maxRecDepth 65536 in
theorem w_c13 : (Jvm.Cond.code ({ cls := "java/lang/String", name := "charAt", desc := "(I)C" } : Jvm.MethodName) jdk_42_method_56_code (2 : Nat) (Option.some Jvm.ClassFile.FieldType.char)).before args0 about1 = true := code_word (m := ⟨7, 3⟩) (meth := k7m3) (c := k7c3) (by decide +kernel) rfl rfl rfl (by decide +kernel)
set_option maxRecDepth 65536 in
theorem w_c14 : (Jvm.Cond.code ({ cls := "java/lang/String", name := "isLatin1", desc := "()Z" } : Jvm.MethodName) jdk_42_method_154_code (1 : Nat) (Option.some Jvm.ClassFile.FieldType.boolean)).before args0 about1 = true := code_word (m := ⟨7, 6⟩) (meth := k7m6) (c := k7c6) (by decide +kernel) rfl rfl rfl (by decide +kernel)
set_option maxRecDepth 65536 in
theorem w_c15 : (Jvm.Cond.code ({ cls := "java/lang/StringLatin1", name := "charAt", desc := "([BI)C" } : Jvm.MethodName) jdk_43_method_2_code (2 : Nat) (Option.some Jvm.ClassFile.FieldType.char)).before args0 about1 = true := code_word (m := ⟨10, 1⟩) (meth := k10m1) (c := k10c1) (by decide +kernel) rfl rfl rfl (by decide +kernel)
set_option maxRecDepth 65536 in
theorem w_c16 : (Jvm.Cond.code ({ cls := "java/lang/String", name := "checkIndex", desc := "(II)V" } : Jvm.MethodName) jdk_42_method_155_code (2 : Nat) (Option.none : Option Jvm.ClassFile.FieldType)).before args0 about1 = true := code_word (m := ⟨7, 7⟩) (meth := k7m7) (c := k7c7) (by decide +kernel) rfl rfl rfl (by decide +kernel)
set_option maxRecDepth 65536 in
theorem w_c17 : (Jvm.Cond.code ({ cls := "jdk/internal/util/Preconditions", name := "checkIndex", desc := "(IILjava/util/function/BiFunction;)I" } : Jvm.MethodName) jdk_41_method_11_code (3 : Nat) (Option.some Jvm.ClassFile.FieldType.int)).before args0 about1 = true := code_word (m := ⟨11, 1⟩) (meth := k11m1) (c := k11c1) (by decide +kernel) rfl rfl rfl (by decide +kernel)
set_option maxRecDepth 65536 in
theorem w_c18 : (Jvm.Cond.code ({ cls := "com/example/restate/restate/plan/Spaces", name := "space", desc := "(C)Z" } : Jvm.MethodName) prog_34_method_2_code (1 : Nat) (Option.some Jvm.ClassFile.FieldType.boolean)).before args0 about1 = true := code_word (m := ⟨8, 1⟩) (meth := k8m1) (c := k8c1) (by decide +kernel) rfl rfl rfl (by decide +kernel)
set_option maxRecDepth 65536 in
theorem w_c19 : (Jvm.Cond.code ({ cls := "java/lang/StringUTF16", name := "toBytes", desc := "([CII)[B" } : Jvm.MethodName) jdk_52_method_14_code (5 : Nat) (Option.some (Jvm.ClassFile.FieldType.array Jvm.ClassFile.FieldType.byte))).before args0 about1 = true := code_word (m := ⟨9, 6⟩) (meth := k9m6) (c := k9c6) (by decide +kernel) rfl rfl rfl (by decide +kernel)
set_option maxRecDepth 65536 in
theorem w_c20 : (Jvm.Cond.code ({ cls := "java/lang/StringUTF16", name := "newBytesFor", desc := "(I)[B" } : Jvm.MethodName) jdk_52_method_2_code (1 : Nat) (Option.some (Jvm.ClassFile.FieldType.array Jvm.ClassFile.FieldType.byte))).before args0 about1 = true := code_word (m := ⟨9, 1⟩) (meth := k9m1) (c := k9c1) (by decide +kernel) rfl rfl rfl (by decide +kernel)
set_option maxRecDepth 65536 in
theorem w_c21 : (Jvm.Cond.code ({ cls := "java/lang/StringUTF16", name := "newBytesLength", desc := "(I)I" } : Jvm.MethodName) jdk_52_method_3_code (1 : Nat) (Option.some Jvm.ClassFile.FieldType.int)).before args0 about1 = true := code_word (m := ⟨9, 2⟩) (meth := k9m2) (c := k9c2) (by decide +kernel) rfl rfl rfl (by decide +kernel)
set_option maxRecDepth 65536 in
theorem w_c22 : (Jvm.Cond.code ({ cls := "java/lang/StringUTF16", name := "putChar", desc := "([BII)V" } : Jvm.MethodName) jdk_52_method_4_code (3 : Nat) (Option.none : Option Jvm.ClassFile.FieldType)).before args0 about1 = true := code_word (m := ⟨9, 3⟩) (meth := k9m3) (c := k9c3) (by decide +kernel) rfl rfl rfl (by decide +kernel)
set_option maxRecDepth 65536 in
theorem w_c23 : (Jvm.Cond.code ({ cls := "java/lang/StringUTF16", name := "getChar", desc := "([BI)C" } : Jvm.MethodName) jdk_52_method_5_code (2 : Nat) (Option.some Jvm.ClassFile.FieldType.char)).before args0 about1 = true := code_word (m := ⟨9, 4⟩) (meth := k9m4) (c := k9c4) (by decide +kernel) rfl rfl rfl (by decide +kernel)
set_option maxRecDepth 65536 in
theorem w_c24 : (Jvm.Cond.code ({ cls := "java/lang/StringUTF16", name := "charAt", desc := "([BI)C" } : Jvm.MethodName) jdk_52_method_83_code (2 : Nat) (Option.some Jvm.ClassFile.FieldType.char)).before args0 about1 = true := code_word (m := ⟨9, 10⟩) (meth := k9m10) (c := k9c10) (by decide +kernel) rfl rfl rfl (by decide +kernel)
set_option maxRecDepth 65536 in
theorem w_c25 : (Jvm.Cond.code ({ cls := "java/lang/StringUTF16", name := "checkIndex", desc := "(I[B)V" } : Jvm.MethodName) jdk_52_method_91_code (2 : Nat) (Option.none : Option Jvm.ClassFile.FieldType)).before args0 about1 = true := code_word (m := ⟨9, 11⟩) (meth := k9m11) (c := k9c11) (by decide +kernel) rfl rfl rfl (by decide +kernel)
set_option maxRecDepth 65536 in
theorem w_c26 : (Jvm.Cond.code ({ cls := "java/lang/StringUTF16", name := "length", desc := "([B)I" } : Jvm.MethodName) jdk_52_method_6_code (1 : Nat) (Option.some Jvm.ClassFile.FieldType.int)).before args0 about1 = true := code_word (m := ⟨9, 5⟩) (meth := k9m5) (c := k9c5) (by decide +kernel) rfl rfl rfl (by decide +kernel)
def codes1 : List Jvm.Cond := [Jvm.Cond.code x code maxLocals ret, Jvm.Cond.code ({ cls := "com/example/restate/restate/plan/SpacesBlankPinLaw", name := "draw", desc := "(I)C" } : Jvm.MethodName) method_3_code (2 : Nat) (Option.some Jvm.ClassFile.FieldType.char), Jvm.Cond.code ({ cls := "com/example/restate/restate/plan/SpacesBlankPinLaw", name := "make", desc := "(ICCC)Ljava/lang/String;" } : Jvm.MethodName) method_4_code (4 : Nat) (Option.some (Jvm.ClassFile.FieldType.object "java/lang/String")), Jvm.Cond.code ({ cls := "java/lang/String", name := "<init>", desc := "([C)V" } : Jvm.MethodName) jdk_42_method_3_code (2 : Nat) (Option.none : Option Jvm.ClassFile.FieldType), Jvm.Cond.code ({ cls := "java/lang/String", name := "<init>", desc := "([CIILjava/lang/Void;)V" } : Jvm.MethodName) jdk_42_method_149_code (6 : Nat) (Option.none : Option Jvm.ClassFile.FieldType), Jvm.Cond.code ({ cls := "java/lang/Object", name := "<init>", desc := "()V" } : Jvm.MethodName) object_method_1_code (1 : Nat) (Option.none : Option Jvm.ClassFile.FieldType), Jvm.Cond.code ({ cls := "com/example/restate/restate/plan/Spaces", name := "blank", desc := "(Ljava/lang/CharSequence;)Z" } : Jvm.MethodName) prog_34_method_3_code (2 : Nat) (Option.some Jvm.ClassFile.FieldType.boolean), Jvm.Cond.code ({ cls := "java/lang/String", name := "length", desc := "()I" } : Jvm.MethodName) jdk_42_method_54_code (1 : Nat) (Option.some Jvm.ClassFile.FieldType.int), Jvm.Cond.code ({ cls := "java/lang/String", name := "coder", desc := "()B" } : Jvm.MethodName) jdk_42_method_152_code (1 : Nat) (Option.some Jvm.ClassFile.FieldType.byte), Jvm.Cond.code ({ cls := "java/lang/StringUTF16", name := "compress", desc := "([CII)[B" } : Jvm.MethodName) jdk_52_method_16_code (6 : Nat) (Option.some (Jvm.ClassFile.FieldType.array Jvm.ClassFile.FieldType.byte)), Jvm.Cond.code ({ cls := "java/lang/StringUTF16", name := "compress", desc := "([CI[BII)I" } : Jvm.MethodName) jdk_52_method_21_code (7 : Nat) (Option.some Jvm.ClassFile.FieldType.int), Jvm.Cond.code ({ cls := "java/lang/StringUTF16", name := "coderFromArrayLen", desc := "([BI)B" } : Jvm.MethodName) jdk_52_method_15_code (2 : Nat) (Option.some Jvm.ClassFile.FieldType.byte), Jvm.Cond.code ({ cls := "com/example/restate/restate/plan/SpacesBlankPinLaw", name := "isH", desc := "(C)Z" } : Jvm.MethodName) method_2_code (1 : Nat) (Option.some Jvm.ClassFile.FieldType.boolean), Jvm.Cond.code ({ cls := "java/lang/String", name := "charAt", desc := "(I)C" } : Jvm.MethodName) jdk_42_method_56_code (2 : Nat) (Option.some Jvm.ClassFile.FieldType.char), Jvm.Cond.code ({ cls := "java/lang/String", name := "isLatin1", desc := "()Z" } : Jvm.MethodName) jdk_42_method_154_code (1 : Nat) (Option.some Jvm.ClassFile.FieldType.boolean), Jvm.Cond.code ({ cls := "java/lang/StringLatin1", name := "charAt", desc := "([BI)C" } : Jvm.MethodName) jdk_43_method_2_code (2 : Nat) (Option.some Jvm.ClassFile.FieldType.char), Jvm.Cond.code ({ cls := "java/lang/String", name := "checkIndex", desc := "(II)V" } : Jvm.MethodName) jdk_42_method_155_code (2 : Nat) (Option.none : Option Jvm.ClassFile.FieldType), Jvm.Cond.code ({ cls := "jdk/internal/util/Preconditions", name := "checkIndex", desc := "(IILjava/util/function/BiFunction;)I" } : Jvm.MethodName) jdk_41_method_11_code (3 : Nat) (Option.some Jvm.ClassFile.FieldType.int), Jvm.Cond.code ({ cls := "com/example/restate/restate/plan/Spaces", name := "space", desc := "(C)Z" } : Jvm.MethodName) prog_34_method_2_code (1 : Nat) (Option.some Jvm.ClassFile.FieldType.boolean), Jvm.Cond.code ({ cls := "java/lang/StringUTF16", name := "toBytes", desc := "([CII)[B" } : Jvm.MethodName) jdk_52_method_14_code (5 : Nat) (Option.some (Jvm.ClassFile.FieldType.array Jvm.ClassFile.FieldType.byte)), Jvm.Cond.code ({ cls := "java/lang/StringUTF16", name := "newBytesFor", desc := "(I)[B" } : Jvm.MethodName) jdk_52_method_2_code (1 : Nat) (Option.some (Jvm.ClassFile.FieldType.array Jvm.ClassFile.FieldType.byte)), Jvm.Cond.code ({ cls := "java/lang/StringUTF16", name := "newBytesLength", desc := "(I)I" } : Jvm.MethodName) jdk_52_method_3_code (1 : Nat) (Option.some Jvm.ClassFile.FieldType.int), Jvm.Cond.code ({ cls := "java/lang/StringUTF16", name := "putChar", desc := "([BII)V" } : Jvm.MethodName) jdk_52_method_4_code (3 : Nat) (Option.none : Option Jvm.ClassFile.FieldType), Jvm.Cond.code ({ cls := "java/lang/StringUTF16", name := "getChar", desc := "([BI)C" } : Jvm.MethodName) jdk_52_method_5_code (2 : Nat) (Option.some Jvm.ClassFile.FieldType.char), Jvm.Cond.code ({ cls := "java/lang/StringUTF16", name := "charAt", desc := "([BI)C" } : Jvm.MethodName) jdk_52_method_83_code (2 : Nat) (Option.some Jvm.ClassFile.FieldType.char), Jvm.Cond.code ({ cls := "java/lang/StringUTF16", name := "checkIndex", desc := "(I[B)V" } : Jvm.MethodName) jdk_52_method_91_code (2 : Nat) (Option.none : Option Jvm.ClassFile.FieldType), Jvm.Cond.code ({ cls := "java/lang/StringUTF16", name := "length", desc := "([B)I" } : Jvm.MethodName) jdk_52_method_6_code (1 : Nat) (Option.some Jvm.ClassFile.FieldType.int)]
set_option maxRecDepth 65536 in
theorem codes_eq : words1.filter isCode = codes1 := rfl
theorem w_codes : ∀ c ∈ words1.filter isCode, c.before args0 about1 = true := by
  rw [codes_eq]
  intro c hc
  simp only [codes1, List.mem_cons, List.not_mem_nil, or_false] at hc
  rcases hc with rfl | rfl | rfl | rfl | rfl | rfl | rfl | rfl | rfl | rfl | rfl | rfl | rfl | rfl | rfl | rfl | rfl | rfl | rfl | rfl | rfl | rfl | rfl | rfl | rfl | rfl | rfl
  · exact w_c0
  · exact w_c1
  · exact w_c2
  · exact w_c3
  · exact w_c4
  · exact w_c5
  · exact w_c6
  · exact w_c7
  · exact w_c8
  · exact w_c9
  · exact w_c10
  · exact w_c11
  · exact w_c12
  · exact w_c13
  · exact w_c14
  · exact w_c15
  · exact w_c16
  · exact w_c17
  · exact w_c18
  · exact w_c19
  · exact w_c20
  · exact w_c21
  · exact w_c22
  · exact w_c23
  · exact w_c24
  · exact w_c25
  · exact w_c26
set_option maxRecDepth 65536 in
theorem w_t1 : (words1.take 24).all (fun c => isCode c || c.before args0 about1) = true := by decide +kernel
set_option maxRecDepth 65536 in
theorem w_t2 : ((words1.drop 24).take 24).all (fun c => isCode c || c.before args0 about1) = true := by decide +kernel
set_option maxRecDepth 65536 in
theorem w_t3 : (((words1.drop 24).drop 24).take 24).all (fun c => isCode c || c.before args0 about1) = true := by decide +kernel
set_option maxRecDepth 65536 in
theorem w_t4 : ((((words1.drop 24).drop 24).drop 24).take 24).all (fun c => isCode c || c.before args0 about1) = true := by decide +kernel
set_option maxRecDepth 65536 in
theorem w_t5 : ((((words1.drop 24).drop 24).drop 24).drop 24).all (fun c => isCode c || c.before args0 about1) = true := by decide +kernel
theorem w_tables : (allAtoms (Jvm.Cond.code x code maxLocals ret :: tables_1)).before args0 about1 = true := by
  rw [allAtoms_all]
  show words1.all (fun c => c.before args0 about1) = true
  refine all_split ?_ w_codes
  rw [← List.take_append_drop 24 words1, List.all_append, w_t1, ← List.take_append_drop 24 (words1.drop 24), List.all_append, w_t2, ← List.take_append_drop 24 ((words1.drop 24).drop 24), List.all_append, w_t3, ← List.take_append_drop 24 (((words1.drop 24).drop 24).drop 24), List.all_append, w_t4, w_t5]
  rfl
set_option maxRecDepth 65536 in
theorem w_rest : rest_1_c.before args0 about1 = true := by decide +kernel
set_option maxRecDepth 65536 in
theorem w_case : (Jvm.Cond.and given_1 narrow_1).before args0 about1 = true := by decide +kernel
set_option maxRecDepth 65536 in
theorem w_consts : constsHeld consts_1 about1 := Jvm.Lit.constsHeldB_iff.mp (by decide +kernel)
theorem w_applies : (headSpec (Jvm.Cond.code x code maxLocals ret :: tables_1) room_1).applies x e0.platform about1 = true :=
  (Spec.applies_iff w_frames).mpr ⟨w_running, w_runnable, w_alone, w_named, w_hears, w_ripe, w_room, w_tables⟩
theorem atStart : AtStart classFile x code maxLocals ret World_1 tables_1 room_1 Calls_1 rest_1 Pre_1 launch0 p0 e0 about1 theMethod args0 below0 :=
  ⟨lists_1, trivial, launch0.admits_env _ _ _, launch0.least_env, fairChoices_fair.cas, fairChoices_fair.clock, w_frames, w_args, w_heap, w_applies, ⟨w_consts, trivial⟩, w_rest, w_case⟩
end start1
theorem witness_1 : WitnessClaimed_1 := ⟨start1.p0, start1.e0, start1.about1, start1.theMethod, start1.args0, start1.below0, start1.atStart⟩
end Jvm.Pilot.@@N@@
