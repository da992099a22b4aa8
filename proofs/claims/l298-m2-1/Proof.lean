import JvmDerived
import JvmDerived.Pilot.@@N@@Statement
import JvmDerived.Pilot.@@N@@Code
set_option linter.unusedVariables false
set_option linter.unusedSimpArgs false
namespace Jvm.RoadKit
open Sem ClassFile Op Lib Jvm.Stand Jvm.Free Jvm.LawKit
section New
variable {p : Program} {l : Launch} {e : Env} {R : Room} {s : State} {m : MethodId} {args : Array Value} {below : List Frame} {meth : Method} {c : Code} {T : State} {locs : List Loc} {cells slots : Nat}
theorem retI (X : Stand p l e R s m args below meth c T locs cells slots) (hx : p.tables.exec = Jvm.exec) {pc : Nat} {Ls : Array Slot} {z : Int32} {rest : List Value} (hret : meth.sig.returnType = some .int) (hd : decode c.code pc = .ok (.ireturn, 1)) {fs : List Frame}
    (hl : ∀ (f : JFrame) (acts : List Action), f.method = m → f.locked = none → f.entered = [] → (doReturn e (T.setTop f) acts (some (.int z))).1 = T.setFrames fs) : Steps p.tables e below (T.setTop (mkF m pc Ls (.int z :: rest))) (T.setFrames fs) := by
  have hm' : T.vm.method? m = some meth := X.method'
  have hn : narrow .int (.int z) = .int z := rfl
  show Steps p.tables e below (T.setTop { method := m, pc := pc, locals := Ls, stack := _ :: rest, locked := none }) _
  jvm_step X.here [X.here.top, hx, hd, hm', hret, hn]
  first | (intro acts; rw [hl _ acts rfl rfl rfl]) | rw [hl _ _ rfl rfl rfl]
  exact Steps.refl _
end New
end Jvm.RoadKit
namespace Jvm.Pilot.@@N@@
open Jvm Jvm.ClassFile Sem Op Lib Jvm.Free Jvm.Stand Jvm.LawKit Jvm.RoadKit Bundle Jvm.Pilot.@@N@@.Jvm.D
theorem wq {a0 : Array Value} {Z : State} (hw : ∀ d ∈ tables_1, d.before a0 Z = true) (i : Nat) {d : Jvm.Cond} (h : tables_1[i]? = some d) : d.before a0 Z = true := hw d (List.mem_of_getElem? h)
/-- from U the run comes back to its caller; what it returns, the heap and the places written meet Q -/
def Goes (p : Program) (e : Env) (below : List Frame) (s : State) (Q : Option Value → Heap → List Loc → Prop) (C S : Nat) (U : State) : Prop :=
  ∃ s₂ o, Steps p.tables e below U s₂ ∧ s₂.status = .running ∧ Ended s₂ below o ∧ ∃ v L, o = .returned v ∧ Q v s₂.heap L ∧ FrameEnd s o s₂ L C S
section Own
variable {p : Program} {l : Launch} {e : Env} {R : Room} {s : State} {m : MethodId} {args : Array Value} {below : List Frame} {meth : Method} {c : Code} {T : State} {locs : List Loc} {cells slots : Nat} {Q : Option Value → Heap → List Loc → Prop} {C S : Nat} {U U' : State}
theorem Goes.pre (f : ∀ t, Steps p.tables e below U' t → Steps p.tables e below U t) (g : Goes p e below s Q C S U') : Goes p e below s Q C S U := by
  obtain ⟨s₂, o, h1, r⟩ := g
  exact ⟨s₂, o, f _ h1, r⟩
theorem Goes.enter {g g' : JFrame} (q : g = g') (h : Goes p e below s Q C S (U.setTop g')) : Goes p e below s Q C S (U.setTop g) := q ▸ h
theorem Goes.ret (X : Stand p l e R s m args below meth c T locs cells slots) {v : Option Value} (hv : meth.sig.returnType = none → v = none) (hlocks : meth.locks = false) (hc : cells ≤ C) (hs : slots ≤ S) {h : Heap} (eT : T.heap = h)
    (step : ∀ fs, (∀ (f : JFrame) (acts : List Action), f.method = m → f.locked = none → f.entered = [] → (doReturn e (T.setTop f) acts v).1 = T.setFrames fs) → Steps p.tables e below U (T.setFrames fs)) (q : Q v h locs) : Goes p e below s Q C S U := by
  obtain ⟨fs, hr, hrun, hended, hW, hsame⟩ := X.leave hv hlocks
  refine ⟨_, _, step fs hr, hrun, hended, _, _, rfl, ?_, ⟨_, rfl⟩, hW, hsame.mono hc hs⟩
  show Q v T.heap locs
  rw [eT]
  exact q
end Own
abbrev Rm (f c s l : Nat) : Room := { frames := f, cells := c, slots := s, locals := l }
/-- the contract of a body: called with these values at the heap h0, it comes back and Q holds of what it leaves -/
abbrev Met (l : Launch) (Z : State) (y : MethodName) (bytes : ByteArray) (maxL : Nat) (ret : Option FieldType) (ws : List Jvm.Cond) (rm : Room) (as' : Array Value) (h0 : Heap) (Q : Option Value → Heap → List Loc → Prop) : Prop :=
  MetFree l y (head1 (Jvm.Cond.code y bytes maxL ret :: ws) rm) (fun argv U => argv = as' ∧ Z.Warmed39 U.vm ∧ U.heap = h0) (fun _ _ _ _ _ => True) (fun _ U o U' => ∃ v L, o = .returned v ∧ Q v U'.heap L ∧ FrameEnd U o U' L rm.cells rm.slots)
theorem met_of {l : Launch} {Z : State} {y : MethodName} {bytes : ByteArray} {maxL : Nat} {ret : Option FieldType} {ws : List Jvm.Cond} {rm : Room} {as' : Array Value} {h0 : Heap} {Q : Option Value → Heap → List Loc → Prop} {L0 : Array Slot} {own : String}
    (hp : plainFor y = true) (ho : y.cls = own) (ef : ∀ m, entryFrame m as' maxL = mkF m 0 L0 [])
    (body : ∀ (p : Program) (e : Env) (s : State) (m : MethodId) (below : List Frame) (meth : Method) (c : Code) (s₁ : State), p.tables.exec = Jvm.exec → c.code = bytes → c.maxLocals = maxL → s.vm.findClass own = some m.cls → meth.name = y.name → Z.Warmed39 s.vm → Stand p l e rm s m as' below meth c s₁ [] 0 0 → s₁.heap = h0 → meth.sig.returnType = ret → meth.locks = false → Goes p e below s Q rm.cells rm.slots (s₁.setTop (mkF m 0 L0 []))) :
    Met l Z y bytes maxL ret ws rm as' h0 Q := by
  refine MetFree.of_bodySF hp hisR ?_
  intro p e s m args below meth c s₁ Bd hml0 hP hK
  obtain ⟨rfl, hZ, hh⟩ := hP
  refine Goes.enter (ef m) (body p e s m below meth c s₁ Bd.exec Bd.bytes hml0 (ho ▸ findClass_of_methodNamed Bd.named) (name_of_methodNamed Bd.named Bd.method).1 hZ (Stand.of_body Bd) (by rw [← hh, Bd.state]; rfl) Bd.returns Bd.notSynchronized)
theorem own_lsw {tb : Tables} [Ours tb] {e : Env} {below : List Frame} {T target : State} {m : MethodId} {c : Code} {g : JFrame} (h : At T m c below) (hx : tb.exec = Jvm.exec) (hg : g.method = m) {dflt : Int} {prs : Array (Int × Int)} {len : Nat} {o : Int} {pc0 pc' : Nat} (hpc : g.pc = pc0) (hd : decode c.code g.pc = .ok (.lookupswitch dflt prs, len)) {i : Int32} {rest : List Value} (hs : g.stack = .int i :: rest)
    (hso : ∀ (a b a_1 b_1 : Int), ((a, b), a_1, b_1) ∈ prs.toList.zip prs.toList.tail → a < a_1) (hoff : lookupswitch.offset prs.toList dflt i.toInt = o) (ho : 0 ≤ (pc0 : Int) + o) (hp : ((pc0 : Int) + o).toNat = pc')
    (hr : Steps tb e below (T.setTop { g with pc := pc', stack := rest }) target) : Steps tb e below (T.setTop g) target := by
  subst hg hpc hp
  jvm_step h [h.top, hx, hd, hs, lookupswitch.wp_chain, hoff, ho]
  exact ⟨hso, hr⟩
/-- as Goes, for a walk that may load String constants cold: the end is the wide one, and the constants' book goes on -/
def GoesW (p : Program) (e : Env) (below : List Frame) (s Z : State) (EL : List (String × Nat)) (Q : Option Value → Heap → List Loc → Prop) (C S : Nat) (U : State) : Prop :=
  ∃ s₂ o, Steps p.tables e below U s₂ ∧ s₂.status = .running ∧ Ended s₂ below o ∧ ∃ v L, o = .returned v ∧ Q v s₂.heap L ∧ CHr Z EL s.vm s.heap s₂.vm s₂.heap ∧ ReturnedEndW s o s₂ L C S
section OwnW
variable {p : Program} {l : Launch} {e : Env} {R : Room} {s Z : State} {m : MethodId} {args a0 : Array Value} {below : List Frame} {meth : Method} {c : Code} {T : State} {locs : List Loc} {cells slots : Nat} {Q : Option Value → Heap → List Loc → Prop} {C S : Nat} {U U' : State} {EL : List (String × Nat)} {vm0 : Vm} {h : Heap}
theorem GoesW.pre (f : ∀ t, Steps p.tables e below U' t → Steps p.tables e below U t) (g : GoesW p e below s Z EL Q C S U') : GoesW p e below s Z EL Q C S U := by
  obtain ⟨s₂, o, h1, r⟩ := g
  exact ⟨s₂, o, f _ h1, r⟩
theorem GoesW.enter {g g' : JFrame} (q : g = g') (h : GoesW p e below s Z EL Q C S (U.setTop g')) : GoesW p e below s Z EL Q C S (U.setTop g) := q ▸ h
theorem GoesW.ret (X : Stand p l e R (s.setVm vm0) m args below meth c T locs cells slots) {k0 : Nat} (hZ : Z.Warmed39 (s.setVm vm0).vm) (hEL : EW Z a0 EL) (hS : s.Since vm0 k0) (hk : k0 ≤ h.size) (H : CHv Z EL vm0 h) (CR : CHr Z EL s.vm s.heap vm0 h) {v : Option Value} (hv : meth.sig.returnType = none → v = none) (hlocks : meth.locks = false) (hc : cells ≤ C) (hs : slots ≤ S) (eT : T.heap = h)
    (step : ∀ fs, (∀ (f : JFrame) (acts : List Action), f.method = m → f.locked = none → f.entered = [] → (doReturn e (T.setTop f) acts v).1 = T.setFrames fs) → Steps p.tables e below U (T.setFrames fs)) (q : Q v h locs) : GoesW p e below s Z EL Q C S U := by
  obtain ⟨fs, hr, hrun, hended, hW⟩ := X.leaveW hS (by rw [eT]; exact hk) hv hlocks
  refine ⟨_, _, step fs hr, hrun, hended, _, _, rfl, ?_, ?_, hW.1, hW.2.1, hW.2.2.1, hW.2.2.2.mono hc hs⟩
  · show Q v T.heap locs
    rw [eT]
    exact q
  · show CHr Z EL s.vm s.heap T.vm T.heap
    rw [eT]
    exact CR.trans (CHv.at X hZ hEL H)
abbrev MetW (l : Launch) (Z : State) (EL : List (String × Nat)) (y : MethodName) (bytes : ByteArray) (maxL : Nat) (ret : Option FieldType) (ws : List Jvm.Cond) (rm : Room) (as' : Array Value) (sf : List Addr) (h0 : Heap) (Q : Option Value → Heap → List Loc → Prop) : Prop :=
  MetFree l y (head1 (Jvm.Cond.code y bytes maxL ret :: ws) rm) (fun argv U => argv = as' ∧ Z.Warmed39 U.vm ∧ U.heap = h0 ∧ CHv Z EL U.vm h0 ∧ ∀ x ∈ sf, Safe Z EL U.vm h0 x) (fun _ _ _ _ _ => True) (fun _ U o U' => ∃ v L, o = .returned v ∧ Q v U'.heap L ∧ CHr Z EL U.vm U.heap U'.vm U'.heap ∧ ReturnedEndW U o U' L rm.cells rm.slots)
theorem metW_of {y : MethodName} {bytes : ByteArray} {maxL : Nat} {ret : Option FieldType} {ws : List Jvm.Cond} {rm : Room} {as' : Array Value} {sf : List Addr} {h0 : Heap} {L0 : Array Slot} {own : String}
    (hp : plainFor y = true) (ho : y.cls = own) (ef : ∀ m, entryFrame m as' maxL = mkF m 0 L0 [])
    (body : ∀ (p : Program) (e : Env) (s : State) (m : MethodId) (below : List Frame) (meth : Method) (c : Code) (s₁ : State), p.tables.exec = Jvm.exec → c.code = bytes → c.maxLocals = maxL → (s.setVm s.vm).vm.findClass own = some m.cls → meth.name = y.name → Z.Warmed39 (s.setVm s.vm).vm → Stand p l e rm (s.setVm s.vm) m as' below meth c s₁ [] 0 0 → s₁.heap = h0 → meth.sig.returnType = ret → meth.locks = false → CHv Z EL s.vm h0 → (∀ x ∈ sf, Safe Z EL s.vm h0 x) → CHr Z EL s.vm s.heap s.vm h0 → s.Since s.vm h0.size → GoesW p e below s Z EL Q rm.cells rm.slots (s₁.setTop (mkF m 0 L0 []))) :
    MetW l Z EL y bytes maxL ret ws rm as' sf h0 Q := by
  refine MetFree.of_bodySF hp hisR ?_
  intro p e s m args below meth c s₁ Bd hml0 hP hK
  obtain ⟨rfl, hZ, hh, H, hSf⟩ := hP
  refine GoesW.enter (ef m) (body p e s m below meth c s₁ Bd.exec Bd.bytes hml0 (ho ▸ findClass_of_methodNamed Bd.named) (name_of_methodNamed Bd.named Bd.method).1 hZ (Stand.of_body Bd) (by rw [← hh, Bd.state]; rfl) Bd.returns Bd.notSynchronized H hSf (by rw [hh]; exact CHr.refl H) ((State.WarmedH.refl s).since _))
theorem own_backSH {y : MethodName} {bytes : ByteArray} {maxL : Nat} {ret : Option FieldType} {rm : Room} {len W : Nat} {as' : Array Value} {sf : List Addr}
    (hM : MetFree l y (head1 [Cond.code y bytes maxL ret] rm) (fun argv U => argv = as' ∧ Z.Warmed39 U.vm ∧ U.heap = h ∧ CHv Z EL U.vm h ∧ ∀ x ∈ sf, Safe Z EL U.vm h x) (fun _ _ _ _ _ => True) (fun _ U o U' => ∃ v L, o = .returned v ∧ Q v U'.heap L ∧ CHr Z EL U.vm U.heap U'.vm U'.heap ∧ ReturnedEndW U o U' L rm.cells rm.slots))
    (hZ : Z.Warmed39 (s.setVm vm0).vm) (wc : (Cond.code y bytes maxL ret).before a0 Z = true) (wz : (Cond.initialized y.cls).before a0 Z = true) (hf : rm.frames + 1 ≤ R.frames) (hl : W + (maxL + 11) + rm.locals ≤ R.locals) (hEL : EW Z a0 EL) (H : CHv Z EL vm0 h) (hs : ∀ x ∈ sf, Safe Z EL vm0 h x ∧ x < h.size) :
    BackS l R p e below (s.setVm vm0) args y len W (fun A a => a = as' ∧ A.U.heap = h ∧ A.cells + rm.cells ≤ R.cells ∧ A.slots + rm.slots ≤ R.slots)
      (fun A _ v B => ∃ L, Q v B.U.heap L ∧ B.locs = A.locs ++ L ∧ B.cells = A.cells + rm.cells ∧ B.slots = A.slots + rm.slots ∧ CHr Z EL vm0 h B.U.vm B.U.heap) := by
  refine BackS.of_freeW (bytes := bytes) (maxL := maxL) (ret := ret) (E := fun _ first o t L k n => k = rm.cells ∧ n = rm.slots ∧ (∃ v, o = .returned v ∧ Q v t.heap L) ∧ CHr Z EL first.vm first.heap t.vm t.heap) hM hf hl ?_ ?_ (fun _ _ _ _ _ _ _ _ _ => trivial) ?_ ?_
  · intro m meth c A a Y hp
    have hU : Z.Warmed39 A.U.vm := wtrans (s := s.setVm vm0) hZ Y.warmed
    exact ⟨by show (Cond.and _ .tt).before a A.U = true; rw [Cond.before_and, mv hU wc]; rfl, mv hU wc, mv hU wz, hp.2.2.1, hp.2.2.2⟩
  · intro m meth c A a g mk Y hp
    have q := CHv.at Y hZ hEL H
    exact ⟨hp.1, wtrans (s := s.setVm vm0) hZ Y.warmed, hp.2.1, q.1, fun x hx => q.safe (hs x hx).2 (hs x hx).1⟩
  · intro _ _ _ _ z
    obtain ⟨v, L, h1, h2, h3, h4⟩ := z
    exact ⟨L, _, _, h4, rfl, rfl, ⟨v, h1, h2⟩, h3⟩
  · intro m meth c A a g mk v t L k n Y hp _ _ z
    obtain ⟨e1, e2, ⟨v', e3, e4⟩, e5⟩ := z
    cases e3
    subst e1 e2
    refine ⟨L, e4, rfl, rfl, rfl, (CHv.at Y hZ hEL H).trans ?_⟩
    rw [← hp.2.1]
    exact e5
theorem own_since (s : State) (n : Nat) : s.Since s.vm n := (State.WarmedH.refl s).since n
theorem own_found {vm1 : Vm} {own : String} {k : ClassId} {n : Nat} (hS : (s.setVm vm0).Since vm1 n) (hown : (s.setVm vm0).vm.findClass own = some k) : (s.setVm vm1).vm.findClass own = some k := by
  show vm1.findClass own = some k
  rw [hS.1.alike.findClass]
  exact hown
end OwnW
abbrev own_EL : List (String × Nat) := [("java/lang/String", 7)]
theorem own_atoms {a0 : Array Value} {Z : State} (hw : ∀ d ∈ tables_1, d.before a0 Z = true) : ∀ a ∈ Bundle.stringAtoms, a.before a0 Z = true := by
  intro a ha
  simp only [Bundle.stringAtoms, Bundle.sN, List.mem_cons, List.not_mem_nil, or_false] at ha
  rcases ha with rfl | rfl | rfl | rfl | rfl | rfl | rfl
  · exact (wq hw 17 rfl)
  · exact (wq hw 16 rfl)
  · exact (wq hw 29 rfl)
  · exact (wq hw 30 rfl)
  · exact (wq hw 31 rfl)
  · exact (wq hw 32 rfl)
  · exact (wq hw 33 rfl)
theorem own_bb (x : Int32) : nar .byte x.toInt8.toInt32 = x.toInt8.toInt32 := by
  show x.toInt8.toInt32.toInt8.toInt32 = x.toInt8.toInt32
  rw [Int8.toInt8_toInt32]
def OwnCh (c : Int32) : Prop := 0 ≤ c.toInt ∧ c.toInt < 65536
def OwnStr (Z : State) (h : Heap) (r b : Addr) (kb : ClassId) (cs : List Int32) : Prop :=
  Exa Z h r "java/lang/String" ∧ Fld Z h r "java/lang/String" "value" "[B" (.ref b) ∧ (∀ c ∈ cs, OwnCh c) ∧
  ((Fld Z h r "java/lang/String" "coder" "B" (.int (0 : Int32)) ∧ Arv Z h b kb .byte (Int32.ofNat cs.length) (cs.map fun c => .int c.toInt8.toInt32) (.int (0 : Int32)) ∧ ∀ c ∈ cs, ¬ ((255 : Int32) < c)) ∨
   (Fld Z h r "java/lang/String" "coder" "B" (.int (1 : Int32)) ∧ Arv Z h b kb .byte (Int32.ofNat (2 * cs.length)) (cs.flatMap fun c => [.int (c >>> ((0 : Int32) &&& 31)).toInt8.toInt32, .int (c >>> ((8 : Int32) &&& 31)).toInt8.toInt32]) (.int (0 : Int32)) ∧ ∃ c ∈ cs, (255 : Int32) < c))
theorem OwnStr.ext {Z : State} {h h' : Heap} {r b : Addr} {kb : ClassId} {cs : List Int32} (F : OwnStr Z h r b kb cs) (E : Ext h h') : OwnStr Z h' r b kb cs := by
  obtain ⟨e1, f1, g, q⟩ := F
  refine ⟨e1.ext E, f1.ext E, g, ?_⟩
  rcases q with ⟨q1, q2, q3⟩ | ⟨q1, q2, q3⟩
  · exact Or.inl ⟨q1.ext E, q2.ext E, q3⟩
  · exact Or.inr ⟨q1.ext E, q2.ext E, q3⟩
theorem OwnStr.keep {Z : State} {h h' : Heap} {r b : Addr} {kb : ClassId} {cs : List Int32} {ws : List Addr} (F : OwnStr Z h r b kb cs) (K : Keep h h' ws) (n1 : r ∉ ws) (n2 : b ∉ ws) : OwnStr Z h' r b kb cs := by
  obtain ⟨e1, f1, g, q⟩ := F
  refine ⟨e1.keep K, f1.keep K n1, g, ?_⟩
  rcases q with ⟨q1, q2, q3⟩ | ⟨q1, q2, q3⟩
  · exact Or.inl ⟨q1.keep K n1, q2.keep K n2, q3⟩
  · exact Or.inr ⟨q1.keep K n1, q2.keep K n2, q3⟩
theorem OwnStr.lt {Z : State} {h : Heap} {r b : Addr} {kb : ClassId} {cs : List Int32} (F : OwnStr Z h r b kb cs) : r < h.size := F.1.lt
theorem OwnStr.ltb {Z : State} {h : Heap} {r b : Addr} {kb : ClassId} {cs : List Int32} (F : OwnStr Z h r b kb cs) : b < h.size := by
  obtain ⟨e1, f1, g, q⟩ := F
  rcases q with ⟨q1, q2, q3⟩ | ⟨q1, q2, q3⟩ <;> exact q2.lt
theorem own_l1 (c : Int32) (h0 : OwnCh c) (h1 : ¬ ((255 : Int32) < c)) : nar .char (c.toInt8.toInt32 &&& (255 : Int32)).toUInt32.toUInt16.toUInt32.toInt32 = c := by
  have k : (255 : Int32).toInt = 255 := by decide
  rw [Int32.lt_iff_toInt_lt, k] at h1
  obtain ⟨h0, -⟩ := h0
  have a1 := c_i2b c
  have a2 := c_mask c.toInt8.toInt32 255 8 (by decide) (by decide)
  have a3 := c_i2c (c.toInt8.toInt32 &&& 255)
  have a4 := c_i2c (c.toInt8.toInt32 &&& (255 : Int32)).toUInt32.toUInt16.toUInt32.toInt32
  apply Int32.toInt_inj.mp
  show ((c.toInt8.toInt32 &&& (255 : Int32)).toUInt32.toUInt16.toUInt32.toInt32.toUInt32.toUInt16.toUInt32.toInt32).toInt = c.toInt
  omega
theorem own_u16 (c : Int32) (h0 : OwnCh c) : nar .char ((((c >>> ((0 : Int32) &&& 31)).toInt8.toInt32 &&& (255 : Int32)) <<< ((0 : Int32) &&& 31)) ||| (((c >>> ((8 : Int32) &&& 31)).toInt8.toInt32 &&& (255 : Int32)) <<< ((8 : Int32) &&& 31))).toUInt32.toUInt16.toUInt32.toInt32 = c := by
  obtain ⟨h0, h1⟩ := h0
  have s0 := c_ishr c 0 0 (by decide)
  have s8 := c_ishr c 8 8 (by decide)
  generalize c >>> ((0 : Int32) &&& 31) = x at *
  generalize c >>> ((8 : Int32) &&& 31) = y at *
  have a1 := c_i2b x
  have b1 := c_i2b y
  have a2 := c_mask x.toInt8.toInt32 255 8 (by decide) (by decide)
  have b2 := c_mask y.toInt8.toInt32 255 8 (by decide) (by decide)
  generalize x.toInt8.toInt32 &&& (255 : Int32) = u at *
  generalize y.toInt8.toInt32 &&& (255 : Int32) = v at *
  have a3 := c_ishl u 0 0 (by decide)
  have b3 := c_ishl v 8 8 (by decide)
  have r1 := rng32 (u <<< ((0 : Int32) &&& 31))
  have r2 := rng32 (v <<< ((8 : Int32) &&& 31))
  generalize u <<< ((0 : Int32) &&& 31) = u' at *
  generalize v <<< ((8 : Int32) &&& 31) = v' at *
  have o := c_or' u' v' 8 (by decide) 256 (by decide) (by omega) (by omega) (by omega)
  have r3 := rng32 (u' ||| v')
  generalize u' ||| v' = t at *
  have a5 := c_i2c t
  have a6 := c_i2c t.toUInt32.toUInt16.toUInt32.toInt32
  apply Int32.toInt_inj.mp
  show (t.toUInt32.toUInt16.toUInt32.toInt32.toUInt32.toUInt16.toUInt32.toInt32).toInt = c.toInt
  omega
theorem own_chr (x : Int32) : nar .char x.toUInt32.toUInt16.toUInt32.toInt32 = x.toUInt32.toUInt16.toUInt32.toInt32 := by
  have a5 := c_i2c x
  have a6 := c_i2c x.toUInt32.toUInt16.toUInt32.toInt32
  apply Int32.toInt_inj.mp
  show (x.toUInt32.toUInt16.toUInt32.toInt32.toUInt32.toUInt16.toUInt32.toInt32).toInt = _
  omega
theorem own_nch (c : Int32) (h : OwnCh c) : nar .char c = c := by
  obtain ⟨h0, h1⟩ := h
  have a5 := c_i2c c
  apply Int32.toInt_inj.mp
  show (c.toUInt32.toUInt16.toUInt32.toInt32).toInt = c.toInt
  omega
theorem own_nat (i : Int32) (h : ¬ (i < (0 : Int32))) : (i.toNatClampNeg : Int) = i.toInt := (nat_of h).symm
theorem own_ofn (n : Nat) (h : n ≤ 8192) : (Int32.ofNat n).toInt = n := len_toInt (by omega)
theorem own_lt (cl : List Int32) (i : Int32) (h1 : ¬ (i < (0 : Int32))) (h2 : i < Int32.ofNat cl.length) (hl : cl.length ≤ 4096) : i.toNatClampNeg < cl.length := by
  have a := own_nat i h1
  have b := own_ofn cl.length (by omega)
  rw [Int32.lt_iff_toInt_lt] at h2
  omega
theorem own_len0 (cl : List Int32) (h : cl.length ≤ 4096) : Int32.ofNat cl.length = (Int32.ofNat cl.length) >>> ((0 : Int32) &&& 31) := by
  have a := c_ishr (Int32.ofNat cl.length) 0 0 (by decide)
  apply Int32.toInt_inj.mp
  omega
theorem own_len1 (cl : List Int32) (h : cl.length ≤ 4096) : Int32.ofNat cl.length = (Int32.ofNat (2 * cl.length)) >>> ((1 : Int32) &&& 31) := by
  have a := c_ishr (Int32.ofNat (2 * cl.length)) 1 1 (by decide)
  have b := own_ofn (2 * cl.length) (by omega)
  have d := own_ofn cl.length (by omega)
  apply Int32.toInt_inj.mp
  omega
theorem own_gD (cl : List Int32) (i : Int32) (h1 : ¬ (i < (0 : Int32))) (h2 : i < Int32.ofNat cl.length) (hl : cl.length ≤ 4096) : cl.getD i.toNatClampNeg 0 ∈ cl := by
  have a := own_lt cl i h1 h2 hl
  rw [List.getD_eq_getElem?_getD, List.getElem?_eq_getElem a]
  exact List.getElem_mem a
theorem own_gch (cl : List Int32) (i : Int32) (h1 : ¬ (i < (0 : Int32))) (h2 : i < Int32.ofNat cl.length) (hl : cl.length ≤ 4096) (hc : ∀ c ∈ cl, OwnCh c) : OwnCh (cl.getD i.toNatClampNeg 0) := hc _ (own_gD cl i h1 h2 hl)
theorem own_gle (cl : List Int32) (i : Int32) (h1 : ¬ (i < (0 : Int32))) (h2 : i < Int32.ofNat cl.length) (hl : cl.length ≤ 4096) (hc : ∀ c ∈ cl, ¬ ((255 : Int32) < c)) : ¬ ((255 : Int32) < cl.getD i.toNatClampNeg 0) := hc _ (own_gD cl i h1 h2 hl)
theorem own_atL (cl : List Int32) (i : Int32) (h1 : ¬ (i < (0 : Int32))) (h2 : i < Int32.ofNat cl.length) (hl : cl.length ≤ 4096) : (cl.map fun c => Value.int c.toInt8.toInt32).getD i.toNatClampNeg (.int (0 : Int32)) = .int (cl.getD i.toNatClampNeg 0).toInt8.toInt32 := by
  have a := own_lt cl i h1 h2 hl
  simp [List.getD_eq_getElem?_getD, a]
theorem own_fm (f g : Int32 → Value) (d : Value) : ∀ (cl : List Int32) (k : Nat), k < cl.length → (cl.flatMap fun c => [f c, g c]).getD (2 * k) d = f (cl.getD k 0) ∧ (cl.flatMap fun c => [f c, g c]).getD (2 * k + 1) d = g (cl.getD k 0)
  | [], k, h => absurd h (Nat.not_lt_zero k)
  | c :: r, 0, _ => ⟨rfl, rfl⟩
  | c :: r, k + 1, h => by
    have q := own_fm f g d r k (Nat.lt_of_succ_lt_succ h)
    have e1 : 2 * (k + 1) = (2 * k + 1) + 1 := by omega
    simp only [List.flatMap_cons, List.cons_append, List.nil_append, e1, List.getD_cons_succ]
    exact q
theorem own_sh2 (i : Int32) (n : Nat) (h1 : ¬ (i < (0 : Int32))) (h2 : i.toInt < n) (hn : n ≤ 4096) : (i <<< ((1 : Int32) &&& 31)).toInt = 2 * i.toInt ∧ ((i <<< ((1 : Int32) &&& 31)) + (1 : Int32)).toInt = 2 * i.toInt + 1 := by
  have a := own_nat i h1
  have b := c_ishl i 1 1 (by decide)
  have r := rng32 (i <<< ((1 : Int32) &&& 31))
  have d := c_iadd (i <<< ((1 : Int32) &&& 31)) 1
  have r2 := rng32 ((i <<< ((1 : Int32) &&& 31)) + (1 : Int32))
  have k : (1 : Int32).toInt = 1 := by decide
  omega
theorem own_in0 (cl : List Int32) (i : Int32) (h1 : ¬ (i < (0 : Int32))) (h2 : i < Int32.ofNat cl.length) (hl : cl.length ≤ 4096) : ¬ ((i <<< ((1 : Int32) &&& 31)) < 0) ∧ (i <<< ((1 : Int32) &&& 31)) < Int32.ofNat (2 * cl.length) := by
  have b := own_ofn cl.length (by omega)
  have b2 := own_ofn (2 * cl.length) (by omega)
  have a := own_nat i h1
  rw [Int32.lt_iff_toInt_lt] at h2
  have q := own_sh2 i cl.length h1 (by omega) hl
  have k0 : (0 : Int32).toInt = 0 := by decide
  rw [Int32.lt_iff_toInt_lt, Int32.lt_iff_toInt_lt]
  omega
theorem own_in1 (cl : List Int32) (i : Int32) (h1 : ¬ (i < (0 : Int32))) (h2 : i < Int32.ofNat cl.length) (hl : cl.length ≤ 4096) : ¬ (((i <<< ((1 : Int32) &&& 31)) + (1 : Int32)) < 0) ∧ ((i <<< ((1 : Int32) &&& 31)) + (1 : Int32)) < Int32.ofNat (2 * cl.length) := by
  have b := own_ofn cl.length (by omega)
  have b2 := own_ofn (2 * cl.length) (by omega)
  have a := own_nat i h1
  rw [Int32.lt_iff_toInt_lt] at h2
  have q := own_sh2 i cl.length h1 (by omega) hl
  have k0 : (0 : Int32).toInt = 0 := by decide
  rw [Int32.lt_iff_toInt_lt, Int32.lt_iff_toInt_lt]
  omega
theorem own_at0 (cl : List Int32) (i : Int32) (h1 : ¬ (i < (0 : Int32))) (h2 : i < Int32.ofNat cl.length) (hl : cl.length ≤ 4096) : (cl.flatMap fun c => [Value.int (c >>> ((0 : Int32) &&& 31)).toInt8.toInt32, Value.int (c >>> ((8 : Int32) &&& 31)).toInt8.toInt32]).getD (i <<< ((1 : Int32) &&& 31)).toNatClampNeg (.int (0 : Int32)) = .int ((cl.getD i.toNatClampNeg 0) >>> ((0 : Int32) &&& 31)).toInt8.toInt32 := by
  have w := own_lt cl i h1 h2 hl
  have q := own_in0 cl i h1 h2 hl
  have b := own_ofn cl.length (by omega)
  have h3 := h2
  rw [Int32.lt_iff_toInt_lt] at h3
  have q2 := own_sh2 i cl.length h1 (by omega) hl
  have e1 := own_nat _ q.1
  have e2 := own_nat i h1
  have e : (i <<< ((1 : Int32) &&& 31)).toNatClampNeg = 2 * i.toNatClampNeg := by omega
  rw [e]
  exact (own_fm (fun c => Value.int (c >>> ((0 : Int32) &&& 31)).toInt8.toInt32) (fun c => Value.int (c >>> ((8 : Int32) &&& 31)).toInt8.toInt32) _ cl _ w).1
theorem own_at1 (cl : List Int32) (i : Int32) (h1 : ¬ (i < (0 : Int32))) (h2 : i < Int32.ofNat cl.length) (hl : cl.length ≤ 4096) : (cl.flatMap fun c => [Value.int (c >>> ((0 : Int32) &&& 31)).toInt8.toInt32, Value.int (c >>> ((8 : Int32) &&& 31)).toInt8.toInt32]).getD ((i <<< ((1 : Int32) &&& 31)) + (1 : Int32)).toNatClampNeg (.int (0 : Int32)) = .int ((cl.getD i.toNatClampNeg 0) >>> ((8 : Int32) &&& 31)).toInt8.toInt32 := by
  have w := own_lt cl i h1 h2 hl
  have q := own_in1 cl i h1 h2 hl
  have b := own_ofn cl.length (by omega)
  have h3 := h2
  rw [Int32.lt_iff_toInt_lt] at h3
  have q2 := own_sh2 i cl.length h1 (by omega) hl
  have e1 := own_nat _ q.1
  have e2 := own_nat i h1
  have e : ((i <<< ((1 : Int32) &&& 31)) + (1 : Int32)).toNatClampNeg = 2 * i.toNatClampNeg + 1 := by omega
  rw [e]
  exact (own_fm (fun c => Value.int (c >>> ((0 : Int32) &&& 31)).toInt8.toInt32) (fun c => Value.int (c >>> ((8 : Int32) &&& 31)).toInt8.toInt32) _ cl _ w).2
theorem own_isch (x : Int32) : OwnCh x.toUInt32.toUInt16.toUInt32.toInt32 := (c_i2c x).2
theorem ef_rm_pcIdx (m : MethodId) (x0 : Int32) (x1 : Int32) (x2 : Value) (hx2 : x2.isRef = true) : entryFrame m #[(.int x0), (.int x1), x2] 3 = mkF m 0 #[.val (.int x0), .val (.int x1), .val x2] [] := by rcases ref_cases hx2 with rfl | ⟨_, rfl⟩ <;> first | (simp [entryFrame, mkF, argsToLocals, Value.category]; done) | rfl
theorem pn_jdk_internal_util_Preconditions : plainName "jdk/internal/util/Preconditions" = true := by first | (simp [plainName, overriddenIn]; done) | decide +kernel
abbrev M26 : MethodName := ⟨"jdk/internal/util/Preconditions", "checkIndex", "(IILjava/util/function/BiFunction;)I"⟩
theorem d26_0 : decode jdk_41_method_11_code 0 = .ok (.iload_n 0, 1) := by decide +kernel
theorem d26_1 : decode jdk_41_method_11_code 1 = .ok (.ifCond .lt 8, 3) := by decide +kernel
theorem d26_4 : decode jdk_41_method_11_code 4 = .ok (.iload_n 0, 1) := by decide +kernel
theorem d26_5 : decode jdk_41_method_11_code 5 = .ok (.iload_n 1, 1) := by decide +kernel
theorem d26_6 : decode jdk_41_method_11_code 6 = .ok (.if_icmp .lt 10, 3) := by decide +kernel
theorem d26_16 : decode jdk_41_method_11_code 16 = .ok (.iload_n 0, 1) := by decide +kernel
theorem d26_17 : decode jdk_41_method_11_code 17 = .ok (.ireturn, 1) := by decide +kernel
def Q_rm_pcIdx (Z : State) (i : Int32) (n : Int32) (sf : Value) (h0 : Heap) (n0 : Nat) (v : Option Value) (h : Heap) (L : List Loc) : Prop := v = some (.int i) ∧ Fr n0 L ∧ h = h0
set_option maxRecDepth 65536 in
set_option maxHeartbeats 40000000 in
theorem rm_pcIdx (l : Launch) (Z : State) (a0 : Array Value) (hw : ∀ d ∈ tables_1, d.before a0 Z = true) (ws : List Jvm.Cond) (i : Int32) (n : Int32) (sf : Value) (h0 : Heap) (n0 : Nat) (Z0 : n0 ≤ h0.size)  (h1 : ¬ (i < (0 : Int32))) (h2 : i < n) (hsf : sf.isRef = true) :
    Met l Z M26 jdk_41_method_11_code 3 (some .int) ws (Rm 0 0 0 0) #[(.int i), (.int n), sf] h0 (Q_rm_pcIdx Z i n sf h0 n0) := by
  refine met_of (plainFor_of_name pn_jdk_internal_util_Preconditions) (own := "jdk/internal/util/Preconditions") rfl (fun m => ef_rm_pcIdx m i n sf hsf) ?_
  intro p e s m below meth c s₁ hx hby hml hown hnm hZ X0 e0 hret hlk
  have N0 := Fr.nil n0
  show Goes p e below s _ _ _ (s₁.setTop (mkF m 0 #[.val (.int i), .val (.int n), .val sf] []))
  refine Goes.pre (U' := s₁.setTop (mkF m 1 #[.val (.int i), .val (.int n), .val sf] [(.int i)])) (fun t k => XS.iloadN X0.here hx rfl (hb hby d26_0) rfl k) ?_
  have hc1 : ¬ (i < (0 : Int32)) := h1
  refine Goes.pre (U' := s₁.setTop (mkF m 6 #[.val (.int i), .val (.int n), .val sf] [(.int n), (.int i)])) (fun t k => XS.ifNo X0.here hx rfl (hb hby d26_1) rfl ((if0 _ _).trans (flt hc1).1) (XS.iloadN X0.here hx rfl (hb hby d26_4) rfl (XS.iloadN X0.here hx rfl (hb hby d26_5) rfl k))) ?_
  have hc6 : i < n := h2
  refine Goes.pre (U' := s₁.setTop (mkF m 17 #[.val (.int i), .val (.int n), .val sf] [(.int i)])) (fun t k => XS.icmpYes X0.here hx rfl (pc0 := 6) (pc' := 16) rfl (hb hby d26_6) rfl (tlt hc6).1 (by decide) (by decide) (XS.iloadN X0.here hx rfl (hb hby d26_16) rfl k)) ?_
  refine Goes.ret X0 (v := (some (.int i))) (fun h => by rw [hret] at h; cases h) hlk (by decide) (by decide) e0 (fun fs hr => retI X0 hx hret (hb hby d26_17) hr) ?_
  exact ⟨rfl, N0, rfl⟩
theorem ef_rm_sIdx (m : MethodId) (x0 : Int32) (x1 : Int32) : entryFrame m #[(.int x0), (.int x1)] 2 = mkF m 0 #[.val (.int x0), .val (.int x1)] [] := by first | (simp [entryFrame, mkF, argsToLocals, Value.category]; done) | rfl
theorem pn_java_lang_String : plainName "java/lang/String" = true := by first | (simp [plainName, overriddenIn]; done) | decide +kernel
abbrev M25 : MethodName := ⟨"java/lang/String", "checkIndex", "(II)V"⟩
theorem d25_0 : decode jdk_42_method_155_code 0 = .ok (.iload_n 0, 1) := by decide +kernel
theorem d25_1 : decode jdk_42_method_155_code 1 = .ok (.iload_n 1, 1) := by decide +kernel
theorem d25_2 : decode jdk_42_method_155_code 2 = .ok (.getstatic 1053, 3) := by decide +kernel
theorem d25_5 : decode jdk_42_method_155_code 5 = .ok (.invokestatic 1059, 3) := by decide +kernel
theorem pd__28IILjava_2futil_2ffunction_2fBiFunction_3b_29I : parseMethodDescriptor "(IILjava/util/function/BiFunction;)I" = some ⟨[.int, .int, (.object "java/util/function/BiFunction")], some .int⟩ := by decide +kernel
theorem d25_8 : decode jdk_42_method_155_code 8 = .ok (.pop, 1) := by decide +kernel
theorem d25_9 : decode jdk_42_method_155_code 9 = .ok (.return_, 1) := by decide +kernel
def Q_rm_sIdx (Z : State) (i : Int32) (n : Int32) (sf : Value) (h0 : Heap) (n0 : Nat) (v : Option Value) (h : Heap) (L : List Loc) : Prop := v = none ∧ Fr n0 L ∧ h = h0
set_option maxRecDepth 65536 in
set_option maxHeartbeats 40000000 in
theorem rm_sIdx (l : Launch) (Z : State) (a0 : Array Value) (hw : ∀ d ∈ tables_1, d.before a0 Z = true) (ws : List Jvm.Cond) (i : Int32) (n : Int32) (sf : Value) (h0 : Heap) (n0 : Nat) (Z0 : n0 ≤ h0.size) (S_SIOOBE_FORMATTER : Sta Z Z.heap "jdk/internal/util/Preconditions" "SIOOBE_FORMATTER" "Ljava/util/function/BiFunction;" sf) (h1 : ¬ (i < (0 : Int32))) (h2 : i < n) (hsf : sf.isRef = true) (O : Old Z n0 h0) :
    Met l Z M25 jdk_42_method_155_code 2 none ws (Rm 1 0 0 14) #[(.int i), (.int n)] h0 (Q_rm_sIdx Z i n sf h0 n0) := by
  refine met_of (plainFor_of_name pn_java_lang_String) (own := "java/lang/String") rfl (fun m => ef_rm_sIdx m i n) ?_
  intro p e s m below meth c s₁ hx hby hml hown hnm hZ X0 e0 hret hlk
  have N0 := Fr.nil n0
  show Goes p e below s _ _ _ (s₁.setTop (mkF m 0 #[.val (.int i), .val (.int n)] []))
  refine Goes.pre (U' := s₁.setTop (mkF m 2 #[.val (.int i), .val (.int n)] [(.int n), (.int i)])) (fun t k => XS.iloadN X0.here hx rfl (hb hby d25_0) rfl (XS.iloadN X0.here hx rfl (hb hby d25_1) rfl k)) ?_
  obtain ⟨T1, X1, e1, st1⟩ := getS2 X0 hx hZ hown (host := "") (Or.inl (wq hw 111 rfl)) Via.refl e0 (S_SIOOBE_FORMATTER.ext O.2) (g := (mkF m 2 #[.val (.int i), .val (.int n)] [(.int n), (.int i)])) rfl (hb hby d25_2)
  refine Goes.pre (U' := T1.setTop (mkF m 5 #[.val (.int i), .val (.int n)] [sf, (.int n), (.int i)])) (fun t k => st1 t k) ?_
  obtain ⟨_, _, ⟨T2, L2, k2, n2⟩, -, X2, ⟨Lc2, hQ2, l2, y2, z2⟩, st2⟩ := Jvm.LawKit.callS X1 hx (y := (⟨"jdk/internal/util/Preconditions", "checkIndex", "(IILjava/util/function/BiFunction;)I"⟩ : MethodName)) hown (mvT hZ (wq hw 113 rfl)) (mvT hZ (wq hw 114 rfl)) (mvT hZ (wq hw 112 rfl)) (mvT hZ (wq hw 115 rfl)) (by decide) (backOf (W := 0) (rm_pcIdx l Z a0 hw [] i n sf h0 n0 Z0  h1 h2 hsf) hZ (wq hw 115 rfl) (wq hw 112 rfl) (by decide) (by decide)) (g := (mkF m 5 #[.val (.int i), .val (.int n)] [sf, (.int n), (.int i)])) rfl (by rw [hml]; rfl) (argsL := [(.int i), (.int n), sf]) (rest := []) (lenOf pd__28IILjava_2futil_2ffunction_2fBiFunction_3b_29I rfl) rfl (by show 2 * 0 + _ ≤ _; exact Nat.le_of_eq rfl) (hb hby d25_5) (fun _ _ => ⟨rfl, e1, (by decide : 0 + 0 ≤ _), (by decide : 0 + 0 ≤ _)⟩)
  dsimp only [Pt.U, Pt.locs, Pt.cells, Pt.slots] at X2 l2 y2 z2 st2 hQ2
  subst l2 y2 z2
  obtain ⟨rfl, N2q, HQ2⟩ := hQ2
  have N2 := Fr.app N0 N2q
  refine Goes.pre (U' := T2.setTop (mkF m 9 #[.val (.int i), .val (.int n)] [])) (fun t k => st2 t (XS.pop X2.here hx rfl (hb hby d25_8) rfl rfl k)) ?_
  refine Goes.ret X2 (v := none) (fun _ => rfl) hlk (by decide) (by decide) HQ2 (fun fs hr => X2.returnOut hx hret (hb hby d25_9) hr) ?_
  exact ⟨rfl, N2, rfl⟩
theorem ef_rm_coder0 (m : MethodId) (x0 : Addr) : entryFrame m #[(.ref x0)] 1 = mkF m 0 #[.val (.ref x0)] [] := by first | (simp [entryFrame, mkF, argsToLocals, Value.category]; done) | rfl
abbrev M10 : MethodName := ⟨"java/lang/String", "coder", "()B"⟩
theorem d10_0 : decode jdk_42_method_152_code 0 = .ok (.getstatic 38, 3) := by decide +kernel
theorem d10_3 : decode jdk_42_method_152_code 3 = .ok (.ifCond .eq 10, 3) := by decide +kernel
theorem d10_6 : decode jdk_42_method_152_code 6 = .ok (.aload_n 0, 1) := by decide +kernel
theorem d10_7 : decode jdk_42_method_152_code 7 = .ok (.getfield 15, 3) := by decide +kernel
theorem d10_10 : decode jdk_42_method_152_code 10 = .ok (.goto 4, 3) := by decide +kernel
theorem d10_14 : decode jdk_42_method_152_code 14 = .ok (.ireturn, 1) := by decide +kernel
def Q_rm_coder0 (Z : State) (a : Addr) (cs : Int32) (h0 : Heap) (n0 : Nat) (v : Option Value) (h : Heap) (L : List Loc) : Prop := v = some (.int (0 : Int32)) ∧ Fr n0 L ∧ h = h0
set_option maxRecDepth 65536 in
set_option maxHeartbeats 40000000 in
theorem rm_coder0 (l : Launch) (Z : State) (a0 : Array Value) (hw : ∀ d ∈ tables_1, d.before a0 Z = true) (ws : List Jvm.Cond) (a : Addr) (cs : Int32) (h0 : Heap) (n0 : Nat) (Z0 : n0 ≤ h0.size) (S_COMPACT_STRINGS : Sta Z Z.heap "java/lang/String" "COMPACT_STRINGS" "Z" (.int cs)) (F_coder_a : Fld Z h0 a "java/lang/String" "coder" "B" (.int (0 : Int32))) (hcs : ¬ (cs = (0 : Int32))) (O : Old Z n0 h0) :
    Met l Z M10 jdk_42_method_152_code 1 (some .byte) ws (Rm 0 0 0 0) #[(.ref a)] h0 (Q_rm_coder0 Z a cs h0 n0) := by
  refine met_of (plainFor_of_name pn_java_lang_String) (own := "java/lang/String") rfl (fun m => ef_rm_coder0 m a) ?_
  intro p e s m below meth c s₁ hx hby hml hown hnm hZ X0 e0 hret hlk
  have N0 := Fr.nil n0
  show Goes p e below s _ _ _ (s₁.setTop (mkF m 0 #[.val (.ref a)] []))
  obtain ⟨T1, X1, e1, st1⟩ := getS2 X0 hx hZ hown (host := "") (Or.inl (wq hw 53 rfl)) Via.refl e0 (S_COMPACT_STRINGS.ext O.2) (g := (mkF m 0 #[.val (.ref a)] [])) rfl (hb hby d10_0)
  refine Goes.pre (U' := T1.setTop (mkF m 3 #[.val (.ref a)] [(.int cs)])) (fun t k => st1 t k) ?_
  have hc3 : ¬ (cs = (0 : Int32)) := hcs
  refine Goes.pre (U' := T1.setTop (mkF m 7 #[.val (.ref a)] [(.ref a)])) (fun t k => XS.ifNo X1.here hx rfl (hb hby d10_3) rfl ((if0 _ _).trans (feq hc3).1) (XS.aloadN X1.here hx rfl (hb hby d10_6) rfl rfl k)) ?_
  obtain ⟨T2, X2, e2, st2⟩ := getF X1 hx hZ hown (host := "") (Or.inl (wq hw 35 rfl)) Via.refl e1 F_coder_a (g := (mkF m 7 #[.val (.ref a)] [(.ref a)])) rfl rfl (hb hby d10_7)
  refine Goes.pre (U' := T2.setTop (mkF m 14 #[.val (.ref a)] [(.int (0 : Int32))])) (fun t k => st2 t (XS.goto X2.here hx rfl (pc0 := 10) (pc' := 14) rfl (hb hby d10_10) (by decide) (by decide) k)) ?_
  refine Goes.ret X2 (v := (some (.int (0 : Int32)))) (fun h => by rw [hret] at h; cases h) hlk (by decide) (by decide) e2 (fun fs hr => retN X2 hx (t := .byte) hret (by simp) (hb hby d10_14) hr) ?_
  exact ⟨rfl, N0, rfl⟩
theorem ef_rm_isL0 (m : MethodId) (x0 : Addr) : entryFrame m #[(.ref x0)] 1 = mkF m 0 #[.val (.ref x0)] [] := by first | (simp [entryFrame, mkF, argsToLocals, Value.category]; done) | rfl
abbrev M23 : MethodName := ⟨"java/lang/String", "isLatin1", "()Z"⟩
theorem d23_0 : decode jdk_42_method_154_code 0 = .ok (.getstatic 38, 3) := by decide +kernel
theorem d23_3 : decode jdk_42_method_154_code 3 = .ok (.ifCond .eq 14, 3) := by decide +kernel
theorem d23_6 : decode jdk_42_method_154_code 6 = .ok (.aload_n 0, 1) := by decide +kernel
theorem d23_7 : decode jdk_42_method_154_code 7 = .ok (.getfield 15, 3) := by decide +kernel
theorem d23_10 : decode jdk_42_method_154_code 10 = .ok (.ifCond .ne 7, 3) := by decide +kernel
theorem d23_13 : decode jdk_42_method_154_code 13 = .ok (.iconst 1, 1) := by decide +kernel
theorem d23_14 : decode jdk_42_method_154_code 14 = .ok (.goto 4, 3) := by decide +kernel
theorem d23_18 : decode jdk_42_method_154_code 18 = .ok (.ireturn, 1) := by decide +kernel
def Q_rm_isL0 (Z : State) (a : Addr) (cs : Int32) (h0 : Heap) (n0 : Nat) (v : Option Value) (h : Heap) (L : List Loc) : Prop := v = some (.int (1 : Int32)) ∧ Fr n0 L ∧ h = h0
set_option maxRecDepth 65536 in
set_option maxHeartbeats 40000000 in
theorem rm_isL0 (l : Launch) (Z : State) (a0 : Array Value) (hw : ∀ d ∈ tables_1, d.before a0 Z = true) (ws : List Jvm.Cond) (a : Addr) (cs : Int32) (h0 : Heap) (n0 : Nat) (Z0 : n0 ≤ h0.size) (S_COMPACT_STRINGS : Sta Z Z.heap "java/lang/String" "COMPACT_STRINGS" "Z" (.int cs)) (F_coder_a : Fld Z h0 a "java/lang/String" "coder" "B" (.int (0 : Int32))) (hcs : ¬ (cs = (0 : Int32))) (O : Old Z n0 h0) :
    Met l Z M23 jdk_42_method_154_code 1 (some .boolean) ws (Rm 0 0 0 0) #[(.ref a)] h0 (Q_rm_isL0 Z a cs h0 n0) := by
  refine met_of (plainFor_of_name pn_java_lang_String) (own := "java/lang/String") rfl (fun m => ef_rm_isL0 m a) ?_
  intro p e s m below meth c s₁ hx hby hml hown hnm hZ X0 e0 hret hlk
  have N0 := Fr.nil n0
  show Goes p e below s _ _ _ (s₁.setTop (mkF m 0 #[.val (.ref a)] []))
  obtain ⟨T1, X1, e1, st1⟩ := getS2 X0 hx hZ hown (host := "") (Or.inl (wq hw 53 rfl)) Via.refl e0 (S_COMPACT_STRINGS.ext O.2) (g := (mkF m 0 #[.val (.ref a)] [])) rfl (hb hby d23_0)
  refine Goes.pre (U' := T1.setTop (mkF m 3 #[.val (.ref a)] [(.int cs)])) (fun t k => st1 t k) ?_
  have hc3 : ¬ (cs = (0 : Int32)) := hcs
  refine Goes.pre (U' := T1.setTop (mkF m 7 #[.val (.ref a)] [(.ref a)])) (fun t k => XS.ifNo X1.here hx rfl (hb hby d23_3) rfl ((if0 _ _).trans (feq hc3).1) (XS.aloadN X1.here hx rfl (hb hby d23_6) rfl rfl k)) ?_
  obtain ⟨T2, X2, e2, st2⟩ := getF X1 hx hZ hown (host := "") (Or.inl (wq hw 35 rfl)) Via.refl e1 F_coder_a (g := (mkF m 7 #[.val (.ref a)] [(.ref a)])) rfl rfl (hb hby d23_7)
  refine Goes.pre (U' := T2.setTop (mkF m 10 #[.val (.ref a)] [(.int (0 : Int32))])) (fun t k => st2 t k) ?_
  have hc10 : (0 : Int32) = (0 : Int32) := rfl
  refine Goes.pre (U' := T2.setTop (mkF m 18 #[.val (.ref a)] [(.int (1 : Int32))])) (fun t k => XS.ifNo X2.here hx rfl (hb hby d23_10) rfl ((if0 _ _).trans (teq hc10).2) (XS.iconst X2.here hx rfl (hb hby d23_13) (XS.goto X2.here hx rfl (pc0 := 14) (pc' := 18) rfl (hb hby d23_14) (by decide) (by decide) k))) ?_
  refine Goes.ret X2 (v := (some (.int (1 : Int32)))) (fun h => by rw [hret] at h; cases h) hlk (by decide) (by decide) e2 (fun fs hr => retN X2 hx (t := .boolean) hret (by simp) (hb hby d23_18) hr) ?_
  exact ⟨rfl, N0, rfl⟩
theorem ef_rm_coder1 (m : MethodId) (x0 : Addr) : entryFrame m #[(.ref x0)] 1 = mkF m 0 #[.val (.ref x0)] [] := by first | (simp [entryFrame, mkF, argsToLocals, Value.category]; done) | rfl
def Q_rm_coder1 (Z : State) (a : Addr) (cs : Int32) (h0 : Heap) (n0 : Nat) (v : Option Value) (h : Heap) (L : List Loc) : Prop := v = some (.int (1 : Int32)) ∧ Fr n0 L ∧ h = h0
set_option maxRecDepth 65536 in
set_option maxHeartbeats 40000000 in
theorem rm_coder1 (l : Launch) (Z : State) (a0 : Array Value) (hw : ∀ d ∈ tables_1, d.before a0 Z = true) (ws : List Jvm.Cond) (a : Addr) (cs : Int32) (h0 : Heap) (n0 : Nat) (Z0 : n0 ≤ h0.size) (S_COMPACT_STRINGS : Sta Z Z.heap "java/lang/String" "COMPACT_STRINGS" "Z" (.int cs)) (F_coder_a : Fld Z h0 a "java/lang/String" "coder" "B" (.int (1 : Int32))) (hcs : ¬ (cs = (0 : Int32))) (O : Old Z n0 h0) :
    Met l Z M10 jdk_42_method_152_code 1 (some .byte) ws (Rm 0 0 0 0) #[(.ref a)] h0 (Q_rm_coder1 Z a cs h0 n0) := by
  refine met_of (plainFor_of_name pn_java_lang_String) (own := "java/lang/String") rfl (fun m => ef_rm_coder1 m a) ?_
  intro p e s m below meth c s₁ hx hby hml hown hnm hZ X0 e0 hret hlk
  have N0 := Fr.nil n0
  show Goes p e below s _ _ _ (s₁.setTop (mkF m 0 #[.val (.ref a)] []))
  obtain ⟨T1, X1, e1, st1⟩ := getS2 X0 hx hZ hown (host := "") (Or.inl (wq hw 53 rfl)) Via.refl e0 (S_COMPACT_STRINGS.ext O.2) (g := (mkF m 0 #[.val (.ref a)] [])) rfl (hb hby d10_0)
  refine Goes.pre (U' := T1.setTop (mkF m 3 #[.val (.ref a)] [(.int cs)])) (fun t k => st1 t k) ?_
  have hc3 : ¬ (cs = (0 : Int32)) := hcs
  refine Goes.pre (U' := T1.setTop (mkF m 7 #[.val (.ref a)] [(.ref a)])) (fun t k => XS.ifNo X1.here hx rfl (hb hby d10_3) rfl ((if0 _ _).trans (feq hc3).1) (XS.aloadN X1.here hx rfl (hb hby d10_6) rfl rfl k)) ?_
  obtain ⟨T2, X2, e2, st2⟩ := getF X1 hx hZ hown (host := "") (Or.inl (wq hw 35 rfl)) Via.refl e1 F_coder_a (g := (mkF m 7 #[.val (.ref a)] [(.ref a)])) rfl rfl (hb hby d10_7)
  refine Goes.pre (U' := T2.setTop (mkF m 14 #[.val (.ref a)] [(.int (1 : Int32))])) (fun t k => st2 t (XS.goto X2.here hx rfl (pc0 := 10) (pc' := 14) rfl (hb hby d10_10) (by decide) (by decide) k)) ?_
  refine Goes.ret X2 (v := (some (.int (1 : Int32)))) (fun h => by rw [hret] at h; cases h) hlk (by decide) (by decide) e2 (fun fs hr => retN X2 hx (t := .byte) hret (by simp) (hb hby d10_14) hr) ?_
  exact ⟨rfl, N0, rfl⟩
theorem ef_rm_isL1 (m : MethodId) (x0 : Addr) : entryFrame m #[(.ref x0)] 1 = mkF m 0 #[.val (.ref x0)] [] := by first | (simp [entryFrame, mkF, argsToLocals, Value.category]; done) | rfl
theorem d23_17 : decode jdk_42_method_154_code 17 = .ok (.iconst 0, 1) := by decide +kernel
def Q_rm_isL1 (Z : State) (a : Addr) (cs : Int32) (h0 : Heap) (n0 : Nat) (v : Option Value) (h : Heap) (L : List Loc) : Prop := v = some (.int (0 : Int32)) ∧ Fr n0 L ∧ h = h0
set_option maxRecDepth 65536 in
set_option maxHeartbeats 40000000 in
theorem rm_isL1 (l : Launch) (Z : State) (a0 : Array Value) (hw : ∀ d ∈ tables_1, d.before a0 Z = true) (ws : List Jvm.Cond) (a : Addr) (cs : Int32) (h0 : Heap) (n0 : Nat) (Z0 : n0 ≤ h0.size) (S_COMPACT_STRINGS : Sta Z Z.heap "java/lang/String" "COMPACT_STRINGS" "Z" (.int cs)) (F_coder_a : Fld Z h0 a "java/lang/String" "coder" "B" (.int (1 : Int32))) (hcs : ¬ (cs = (0 : Int32))) (O : Old Z n0 h0) :
    Met l Z M23 jdk_42_method_154_code 1 (some .boolean) ws (Rm 0 0 0 0) #[(.ref a)] h0 (Q_rm_isL1 Z a cs h0 n0) := by
  refine met_of (plainFor_of_name pn_java_lang_String) (own := "java/lang/String") rfl (fun m => ef_rm_isL1 m a) ?_
  intro p e s m below meth c s₁ hx hby hml hown hnm hZ X0 e0 hret hlk
  have N0 := Fr.nil n0
  show Goes p e below s _ _ _ (s₁.setTop (mkF m 0 #[.val (.ref a)] []))
  obtain ⟨T1, X1, e1, st1⟩ := getS2 X0 hx hZ hown (host := "") (Or.inl (wq hw 53 rfl)) Via.refl e0 (S_COMPACT_STRINGS.ext O.2) (g := (mkF m 0 #[.val (.ref a)] [])) rfl (hb hby d23_0)
  refine Goes.pre (U' := T1.setTop (mkF m 3 #[.val (.ref a)] [(.int cs)])) (fun t k => st1 t k) ?_
  have hc3 : ¬ (cs = (0 : Int32)) := hcs
  refine Goes.pre (U' := T1.setTop (mkF m 7 #[.val (.ref a)] [(.ref a)])) (fun t k => XS.ifNo X1.here hx rfl (hb hby d23_3) rfl ((if0 _ _).trans (feq hc3).1) (XS.aloadN X1.here hx rfl (hb hby d23_6) rfl rfl k)) ?_
  obtain ⟨T2, X2, e2, st2⟩ := getF X1 hx hZ hown (host := "") (Or.inl (wq hw 35 rfl)) Via.refl e1 F_coder_a (g := (mkF m 7 #[.val (.ref a)] [(.ref a)])) rfl rfl (hb hby d23_7)
  refine Goes.pre (U' := T2.setTop (mkF m 10 #[.val (.ref a)] [(.int (1 : Int32))])) (fun t k => st2 t k) ?_
  have hc10 : ¬ ((1 : Int32) = (0 : Int32)) := by decide
  refine Goes.pre (U' := T2.setTop (mkF m 18 #[.val (.ref a)] [(.int (0 : Int32))])) (fun t k => XS.ifYes X2.here hx rfl (pc0 := 10) (pc' := 17) rfl (hb hby d23_10) rfl ((if0 _ _).trans (feq hc10).2) (by decide) (by decide) (XS.iconst X2.here hx rfl (hb hby d23_17) k)) ?_
  refine Goes.ret X2 (v := (some (.int (0 : Int32)))) (fun h => by rw [hret] at h; cases h) hlk (by decide) (by decide) e2 (fun fs hr => retN X2 hx (t := .boolean) hret (by simp) (hb hby d23_18) hr) ?_
  exact ⟨rfl, N0, rfl⟩
theorem ef_rm_len (m : MethodId) (x0 : Addr) : entryFrame m #[(.ref x0)] 1 = mkF m 0 #[.val (.ref x0)] [] := by first | (simp [entryFrame, mkF, argsToLocals, Value.category]; done) | rfl
abbrev M9 : MethodName := ⟨"java/lang/String", "length", "()I"⟩
theorem d9_0 : decode jdk_42_method_54_code 0 = .ok (.aload_n 0, 1) := by decide +kernel
theorem d9_1 : decode jdk_42_method_54_code 1 = .ok (.getfield 9, 3) := by decide +kernel
theorem d9_4 : decode jdk_42_method_54_code 4 = .ok (.arraylength, 1) := by decide +kernel
theorem d9_5 : decode jdk_42_method_54_code 5 = .ok (.aload_n 0, 1) := by decide +kernel
theorem d9_6 : decode jdk_42_method_54_code 6 = .ok (.invokevirtual 335, 3) := by decide +kernel
theorem pd__28_29B : parseMethodDescriptor "()B" = some ⟨[], some .byte⟩ := by decide +kernel
theorem d9_9 : decode jdk_42_method_54_code 9 = .ok (.ishr, 1) := by decide +kernel
theorem d9_10 : decode jdk_42_method_54_code 10 = .ok (.ireturn, 1) := by decide +kernel
def Q_rm_len (Z : State) (a : Addr) (b : Addr) (kb : ClassId) (cl : List Int32) (cs : Int32) (h0 : Heap) (n0 : Nat) (v : Option Value) (h : Heap) (L : List Loc) : Prop := v = some (.int (Int32.ofNat cl.length)) ∧ Fr n0 L ∧ h = h0
set_option maxRecDepth 65536 in
set_option maxHeartbeats 40000000 in
theorem rm_len (l : Launch) (Z : State) (a0 : Array Value) (hw : ∀ d ∈ tables_1, d.before a0 Z = true) (ws : List Jvm.Cond) (a : Addr) (b : Addr) (kb : ClassId) (cl : List Int32) (cs : Int32) (h0 : Heap) (n0 : Nat) (Z0 : n0 ≤ h0.size) (S_a : OwnStr Z h0 a b kb cl) (S_COMPACT_STRINGS : Sta Z Z.heap "java/lang/String" "COMPACT_STRINGS" "Z" (.int cs)) (hcs : ¬ (cs = (0 : Int32))) (hlen : cl.length ≤ 4096) (O : Old Z n0 h0) :
    Met l Z M9 jdk_42_method_54_code 1 (some .int) ws (Rm 1 0 0 13) #[(.ref a)] h0 (Q_rm_len Z a b kb cl cs h0 n0) := by
  refine met_of (plainFor_of_name pn_java_lang_String) (own := "java/lang/String") rfl (fun m => ef_rm_len m a) ?_
  intro p e s m below meth c s₁ hx hby hml hown hnm hZ X0 e0 hret hlk
  have N0 := Fr.nil n0
  show Goes p e below s _ _ _ (s₁.setTop (mkF m 0 #[.val (.ref a)] []))
  obtain ⟨E_a, F_value_a, hcA, hSt⟩ := S_a
  rcases hSt with ⟨F_coder_a, V_b, hleA⟩ | ⟨F_coder_a, V_b, hexA⟩
  ·
    refine Goes.pre (U' := s₁.setTop (mkF m 1 #[.val (.ref a)] [(.ref a)])) (fun t k => XS.aloadN X0.here hx rfl (hb hby d9_0) rfl rfl k) ?_
    obtain ⟨T1, X1, e1, st1⟩ := getF X0 hx hZ hown (host := "") (Or.inl (wq hw 34 rfl)) Via.refl e0 F_value_a (g := (mkF m 1 #[.val (.ref a)] [(.ref a)])) rfl rfl (hb hby d9_1)
    refine Goes.pre (U' := T1.setTop (mkF m 4 #[.val (.ref a)] [(.ref b)])) (fun t k => st1 t k) ?_
    obtain ⟨cl2, Ar2, q2, Sz2, Ng2, -, -⟩ := id V_b
    have ln2 := len_of Sz2 Ng2
    refine Goes.pre (U' := T1.setTop (mkF m 6 #[.val (.ref a)] [(.ref a), (.int (Int32.ofNat cl.length))])) (fun t k => X1.arraylength hx (by rw [e1]; exact Ar2.1) (State.isArrayOf_alike hZ.alike Ar2.2.1) (g := (mkF m 4 #[.val (.ref a)] [(.ref b)])) rfl rfl (hb hby d9_4) _ (by rw [ln2]; exact (XS.aloadN X1.here hx rfl (hb hby d9_5) rfl rfl k))) ?_
    obtain ⟨cq3, kq3, q3a, q3b, q3c⟩ := isOf hZ e1 E_a
    obtain ⟨_, _, ⟨T3, L3, k3, n3⟩, -, X3, ⟨Lc3, hQ3, l3, y3, z3⟩, st3⟩ := X1.virtualBack hx (y := (⟨"java/lang/String", "coder", "()B"⟩ : MethodName)) (z := (⟨"java/lang/String", "coder", "()B"⟩ : MethodName)) hown (mvT hZ (wq hw 48 rfl)) (mvT hZ (wq hw 49 rfl)) (notFace_of_selects (args := #[]) (mvT hZ (wq hw 51 rfl))) (mvT hZ (wq hw 51 rfl)) (mvT hZ (wq hw 50 rfl)) (by decide) (backOf (W := 1) (rm_coder0 l Z a0 hw [] a cs h0 n0 Z0 S_COMPACT_STRINGS F_coder_a hcs O) hZ (wq hw 52 rfl) (wq hw 17 rfl) (by decide) (by decide)) q3a q3c (g := (mkF m 6 #[.val (.ref a)] [(.ref a), (.int (Int32.ofNat cl.length))])) rfl (by rw [hml]; rfl) (Steps.refl _) (argsL := []) (rest := [(.int (Int32.ofNat cl.length))]) (lenOf pd__28_29B rfl) rfl (by show 2 * 0 + _ ≤ _; exact Nat.le_of_eq rfl) (hb hby d9_6) (fun _ _ => ⟨rfl, e1, (by decide : 0 + 0 ≤ _), (by decide : 0 + 0 ≤ _)⟩)
    dsimp only [Pt.U, Pt.locs, Pt.cells, Pt.slots] at X3 l3 y3 z3 st3 hQ3
    subst l3 y3 z3
    obtain ⟨rfl, N3q, HQ3⟩ := hQ3
    have N3 := Fr.app N0 N3q
    refine Goes.pre (U' := T3.setTop (mkF m 10 #[.val (.ref a)] [(.int ((Int32.ofNat cl.length) >>> ((0 : Int32) &&& 31)))])) (fun t k => st3.trans (XS.ishr X3.here hx rfl (hb hby d9_9) rfl k)) ?_
    refine Goes.ret X3 (v := (some (.int ((Int32.ofNat cl.length) >>> ((0 : Int32) &&& 31))))) (fun h => by rw [hret] at h; cases h) hlk (by decide) (by decide) HQ3 (fun fs hr => retI X3 hx hret (hb hby d9_10) hr) ?_
    exact ⟨congrArg (fun z => some (Value.int z)) (own_len0 cl hlen).symm, N3, rfl⟩
  ·
    refine Goes.pre (U' := s₁.setTop (mkF m 1 #[.val (.ref a)] [(.ref a)])) (fun t k => XS.aloadN X0.here hx rfl (hb hby d9_0) rfl rfl k) ?_
    obtain ⟨T4, X4, e4, st4⟩ := getF X0 hx hZ hown (host := "") (Or.inl (wq hw 34 rfl)) Via.refl e0 F_value_a (g := (mkF m 1 #[.val (.ref a)] [(.ref a)])) rfl rfl (hb hby d9_1)
    refine Goes.pre (U' := T4.setTop (mkF m 4 #[.val (.ref a)] [(.ref b)])) (fun t k => st4 t k) ?_
    obtain ⟨cl5, Ar5, q5, Sz5, Ng5, -, -⟩ := id V_b
    have ln5 := len_of Sz5 Ng5
    refine Goes.pre (U' := T4.setTop (mkF m 6 #[.val (.ref a)] [(.ref a), (.int (Int32.ofNat (2 * cl.length)))])) (fun t k => X4.arraylength hx (by rw [e4]; exact Ar5.1) (State.isArrayOf_alike hZ.alike Ar5.2.1) (g := (mkF m 4 #[.val (.ref a)] [(.ref b)])) rfl rfl (hb hby d9_4) _ (by rw [ln5]; exact (XS.aloadN X4.here hx rfl (hb hby d9_5) rfl rfl k))) ?_
    obtain ⟨cq6, kq6, q6a, q6b, q6c⟩ := isOf hZ e4 E_a
    obtain ⟨_, _, ⟨T6, L6, k6, n6⟩, -, X6, ⟨Lc6, hQ6, l6, y6, z6⟩, st6⟩ := X4.virtualBack hx (y := (⟨"java/lang/String", "coder", "()B"⟩ : MethodName)) (z := (⟨"java/lang/String", "coder", "()B"⟩ : MethodName)) hown (mvT hZ (wq hw 48 rfl)) (mvT hZ (wq hw 49 rfl)) (notFace_of_selects (args := #[]) (mvT hZ (wq hw 51 rfl))) (mvT hZ (wq hw 51 rfl)) (mvT hZ (wq hw 50 rfl)) (by decide) (backOf (W := 1) (rm_coder1 l Z a0 hw [] a cs h0 n0 Z0 S_COMPACT_STRINGS F_coder_a hcs O) hZ (wq hw 52 rfl) (wq hw 17 rfl) (by decide) (by decide)) q6a q6c (g := (mkF m 6 #[.val (.ref a)] [(.ref a), (.int (Int32.ofNat (2 * cl.length)))])) rfl (by rw [hml]; rfl) (Steps.refl _) (argsL := []) (rest := [(.int (Int32.ofNat (2 * cl.length)))]) (lenOf pd__28_29B rfl) rfl (by show 2 * 0 + _ ≤ _; exact Nat.le_of_eq rfl) (hb hby d9_6) (fun _ _ => ⟨rfl, e4, (by decide : 0 + 0 ≤ _), (by decide : 0 + 0 ≤ _)⟩)
    dsimp only [Pt.U, Pt.locs, Pt.cells, Pt.slots] at X6 l6 y6 z6 st6 hQ6
    subst l6 y6 z6
    obtain ⟨rfl, N6q, HQ6⟩ := hQ6
    have N6 := Fr.app N0 N6q
    refine Goes.pre (U' := T6.setTop (mkF m 10 #[.val (.ref a)] [(.int ((Int32.ofNat (2 * cl.length)) >>> ((1 : Int32) &&& 31)))])) (fun t k => st6.trans (XS.ishr X6.here hx rfl (hb hby d9_9) rfl k)) ?_
    refine Goes.ret X6 (v := (some (.int ((Int32.ofNat (2 * cl.length)) >>> ((1 : Int32) &&& 31))))) (fun h => by rw [hret] at h; cases h) hlk (by decide) (by decide) HQ6 (fun fs hr => retI X6 hx hret (hb hby d9_10) hr) ?_
    exact ⟨congrArg (fun z => some (Value.int z)) (own_len1 cl hlen).symm, N6, rfl⟩
theorem ef_rm_l1chG (m : MethodId) (x0 : Addr) (x1 : Int32) : entryFrame m #[(.ref x0), (.int x1)] 2 = mkF m 0 #[.val (.ref x0), .val (.int x1)] [] := by first | (simp [entryFrame, mkF, argsToLocals, Value.category]; done) | rfl
theorem pn_java_lang_StringLatin1 : plainName "java/lang/StringLatin1" = true := by first | (simp [plainName, overriddenIn]; done) | decide +kernel
abbrev M24 : MethodName := ⟨"java/lang/StringLatin1", "charAt", "([BI)C"⟩
theorem d24_0 : decode jdk_43_method_2_code 0 = .ok (.iload_n 1, 1) := by decide +kernel
theorem d24_1 : decode jdk_43_method_2_code 1 = .ok (.aload_n 0, 1) := by decide +kernel
theorem d24_2 : decode jdk_43_method_2_code 2 = .ok (.arraylength, 1) := by decide +kernel
theorem d24_3 : decode jdk_43_method_2_code 3 = .ok (.invokestatic 9, 3) := by decide +kernel
theorem pd__28II_29V : parseMethodDescriptor "(II)V" = some ⟨[.int, .int], none⟩ := by decide +kernel
theorem d24_6 : decode jdk_43_method_2_code 6 = .ok (.aload_n 0, 1) := by decide +kernel
theorem d24_7 : decode jdk_43_method_2_code 7 = .ok (.iload_n 1, 1) := by decide +kernel
theorem d24_8 : decode jdk_43_method_2_code 8 = .ok (.baload, 1) := by decide +kernel
theorem d24_9 : decode jdk_43_method_2_code 9 = .ok (.sipush 255, 3) := by decide +kernel
theorem d24_12 : decode jdk_43_method_2_code 12 = .ok (.iand, 1) := by decide +kernel
theorem d24_13 : decode jdk_43_method_2_code 13 = .ok (.i2c, 1) := by decide +kernel
theorem d24_14 : decode jdk_43_method_2_code 14 = .ok (.ireturn, 1) := by decide +kernel
def Q_rm_l1chG (Z : State) (b : Addr) (kb : ClassId) (cl : List Int32) (i : Int32) (sf : Value) (h0 : Heap) (n0 : Nat) (v : Option Value) (h : Heap) (L : List Loc) : Prop := v = some (.int (cl.getD i.toNatClampNeg 0)) ∧ Fr n0 L ∧ h = h0
set_option maxRecDepth 65536 in
set_option maxHeartbeats 40000000 in
theorem rm_l1chG (l : Launch) (Z : State) (a0 : Array Value) (hw : ∀ d ∈ tables_1, d.before a0 Z = true) (ws : List Jvm.Cond) (b : Addr) (kb : ClassId) (cl : List Int32) (i : Int32) (sf : Value) (h0 : Heap) (n0 : Nat) (Z0 : n0 ≤ h0.size) (V_b : Arv Z h0 b kb .byte (Int32.ofNat cl.length) (cl.map fun c => .int c.toInt8.toInt32) (.int (0 : Int32))) (S_SIOOBE_FORMATTER : Sta Z Z.heap "jdk/internal/util/Preconditions" "SIOOBE_FORMATTER" "Ljava/util/function/BiFunction;" sf) (h1 : ¬ (i < (0 : Int32))) (h2 : i < Int32.ofNat cl.length) (hlen : cl.length ≤ 4096) (hcA : ∀ c ∈ cl, OwnCh c) (hleA : ∀ c ∈ cl, ¬ ((255 : Int32) < c)) (hsf : sf.isRef = true) (O : Old Z n0 h0) :
    Met l Z M24 jdk_43_method_2_code 2 (some .char) ws (Rm 2 0 0 27) #[(.ref b), (.int i)] h0 (Q_rm_l1chG Z b kb cl i sf h0 n0) := by
  refine met_of (plainFor_of_name pn_java_lang_StringLatin1) (own := "java/lang/StringLatin1") rfl (fun m => ef_rm_l1chG m b i) ?_
  intro p e s m below meth c s₁ hx hby hml hown hnm hZ X0 e0 hret hlk
  have N0 := Fr.nil n0
  show Goes p e below s _ _ _ (s₁.setTop (mkF m 0 #[.val (.ref b), .val (.int i)] []))
  refine Goes.pre (U' := s₁.setTop (mkF m 2 #[.val (.ref b), .val (.int i)] [(.ref b), (.int i)])) (fun t k => XS.iloadN X0.here hx rfl (hb hby d24_0) rfl (XS.aloadN X0.here hx rfl (hb hby d24_1) rfl rfl k)) ?_
  obtain ⟨cl1, Ar1, q1, Sz1, Ng1, -, -⟩ := id V_b
  have ln1 := len_of Sz1 Ng1
  refine Goes.pre (U' := s₁.setTop (mkF m 3 #[.val (.ref b), .val (.int i)] [(.int (Int32.ofNat cl.length)), (.int i)])) (fun t k => X0.arraylength hx (by rw [e0]; exact Ar1.1) (State.isArrayOf_alike hZ.alike Ar1.2.1) (g := (mkF m 2 #[.val (.ref b), .val (.int i)] [(.ref b), (.int i)])) rfl rfl (hb hby d24_2) _ (by rw [ln1]; exact k)) ?_
  obtain ⟨_, _, ⟨T2, L2, k2, n2⟩, -, X2, ⟨Lc2, hQ2, l2, y2, z2⟩, st2⟩ := Jvm.LawKit.callS X0 hx (y := (⟨"java/lang/String", "checkIndex", "(II)V"⟩ : MethodName)) hown (mvT hZ (wq hw 108 rfl)) (mvT hZ (wq hw 109 rfl)) (mvT hZ (wq hw 17 rfl)) (mvT hZ (wq hw 110 rfl)) (by decide) (backOf (W := 0) (rm_sIdx l Z a0 hw [] i (Int32.ofNat cl.length) sf h0 n0 Z0 S_SIOOBE_FORMATTER h1 h2 hsf O) hZ (wq hw 110 rfl) (wq hw 17 rfl) (by decide) (by decide)) (g := (mkF m 3 #[.val (.ref b), .val (.int i)] [(.int (Int32.ofNat cl.length)), (.int i)])) rfl (by rw [hml]; rfl) (argsL := [(.int i), (.int (Int32.ofNat cl.length))]) (rest := []) (lenOf pd__28II_29V rfl) rfl (by show 2 * 0 + _ ≤ _; exact Nat.le_of_eq rfl) (hb hby d24_3) (fun _ _ => ⟨rfl, e0, (by decide : 0 + 0 ≤ _), (by decide : 0 + 0 ≤ _)⟩)
  dsimp only [Pt.U, Pt.locs, Pt.cells, Pt.slots] at X2 l2 y2 z2 st2 hQ2
  subst l2 y2 z2
  obtain ⟨rfl, N2q, HQ2⟩ := hQ2
  have N2 := Fr.app N0 N2q
  refine Goes.pre (U' := T2.setTop (mkF m 8 #[.val (.ref b), .val (.int i)] [(.int i), (.ref b)])) (fun t k => st2 t (XS.aloadN X2.here hx rfl (hb hby d24_6) rfl rfl (XS.iloadN X2.here hx rfl (hb hby d24_7) rfl k))) ?_
  obtain ⟨cl3, Ar3, q3, Sz3, Ng3, Hs3, Ft3⟩ := id V_b
  have hin3 := inb_of (j := i) Sz3 ⟨h1, h2⟩
  refine Goes.pre (U' := T2.setTop (mkF m 14 #[.val (.ref b), .val (.int i)] [(.int (((cl.getD i.toNatClampNeg 0).toInt8.toInt32 &&& (255 : Int32)).toUInt32.toUInt16.toUInt32.toInt32))])) (fun t k => X2.baloadBytes hx (j := i) (v := (.int (cl.getD i.toNatClampNeg 0).toInt8.toInt32)) (by rw [HQ2]; exact Ar3.1) (State.isArrayOf_alike hZ.alike Ar3.2.1) Ar3.2.2 hin3 (Has.at Hs3 hin3 (own_atL cl i h1 h2 hlen)) (g := (mkF m 8 #[.val (.ref b), .val (.int i)] [(.int i), (.ref b)])) rfl rfl (hb hby d24_8) _ (XS.sipush X2.here hx rfl (hb hby d24_9) (XS.iand X2.here hx rfl (hb hby d24_12) rfl (XS.i2c X2.here hx rfl (hb hby d24_13) rfl k)))) ?_
  refine Goes.ret X2 (v := (some (.int (cl.getD i.toNatClampNeg 0)))) (fun h => by rw [hret] at h; cases h) hlk (by decide) (by decide) HQ2 (fun fs hr => retN X2 hx (t := .char) hret (by simp) (hb hby d24_14) (by rw [show nar .char (((cl.getD i.toNatClampNeg 0).toInt8.toInt32 &&& (255 : Int32)).toUInt32.toUInt16.toUInt32.toInt32) = (cl.getD i.toNatClampNeg 0) from own_l1 _ (own_gch cl i h1 h2 hlen hcA) (own_gle cl i h1 h2 hlen hleA)]; exact hr)) ?_
  exact ⟨rfl, N2, rfl⟩
theorem ef_rm_ulenG (m : MethodId) (x0 : Addr) : entryFrame m #[(.ref x0)] 1 = mkF m 0 #[.val (.ref x0)] [] := by first | (simp [entryFrame, mkF, argsToLocals, Value.category]; done) | rfl
theorem pn_java_lang_StringUTF16 : plainName "java/lang/StringUTF16" = true := by first | (simp [plainName, overriddenIn]; done) | decide +kernel
abbrev M29 : MethodName := ⟨"java/lang/StringUTF16", "length", "([B)I"⟩
theorem d29_0 : decode jdk_52_method_6_code 0 = .ok (.aload_n 0, 1) := by decide +kernel
theorem d29_1 : decode jdk_52_method_6_code 1 = .ok (.arraylength, 1) := by decide +kernel
theorem d29_2 : decode jdk_52_method_6_code 2 = .ok (.iconst 1, 1) := by decide +kernel
theorem d29_3 : decode jdk_52_method_6_code 3 = .ok (.ishr, 1) := by decide +kernel
theorem d29_4 : decode jdk_52_method_6_code 4 = .ok (.ireturn, 1) := by decide +kernel
def Q_rm_ulenG (Z : State) (b : Addr) (kb : ClassId) (cl : List Int32) (h0 : Heap) (n0 : Nat) (v : Option Value) (h : Heap) (L : List Loc) : Prop := v = some (.int (Int32.ofNat cl.length)) ∧ Fr n0 L ∧ h = h0
set_option maxRecDepth 65536 in
set_option maxHeartbeats 40000000 in
theorem rm_ulenG (l : Launch) (Z : State) (a0 : Array Value) (hw : ∀ d ∈ tables_1, d.before a0 Z = true) (ws : List Jvm.Cond) (b : Addr) (kb : ClassId) (cl : List Int32) (h0 : Heap) (n0 : Nat) (Z0 : n0 ≤ h0.size) (V_b : Arv Z h0 b kb .byte (Int32.ofNat (2 * cl.length)) (cl.flatMap fun c => [.int (c >>> ((0 : Int32) &&& 31)).toInt8.toInt32, .int (c >>> ((8 : Int32) &&& 31)).toInt8.toInt32]) (.int (0 : Int32))) (hlen : cl.length ≤ 4096) :
    Met l Z M29 jdk_52_method_6_code 1 (some .int) ws (Rm 0 0 0 0) #[(.ref b)] h0 (Q_rm_ulenG Z b kb cl h0 n0) := by
  refine met_of (plainFor_of_name pn_java_lang_StringUTF16) (own := "java/lang/StringUTF16") rfl (fun m => ef_rm_ulenG m b) ?_
  intro p e s m below meth c s₁ hx hby hml hown hnm hZ X0 e0 hret hlk
  have N0 := Fr.nil n0
  show Goes p e below s _ _ _ (s₁.setTop (mkF m 0 #[.val (.ref b)] []))
  refine Goes.pre (U' := s₁.setTop (mkF m 1 #[.val (.ref b)] [(.ref b)])) (fun t k => XS.aloadN X0.here hx rfl (hb hby d29_0) rfl rfl k) ?_
  obtain ⟨cl1, Ar1, q1, Sz1, Ng1, -, -⟩ := id V_b
  have ln1 := len_of Sz1 Ng1
  refine Goes.pre (U' := s₁.setTop (mkF m 4 #[.val (.ref b)] [(.int ((Int32.ofNat (2 * cl.length)) >>> ((1 : Int32) &&& 31)))])) (fun t k => X0.arraylength hx (by rw [e0]; exact Ar1.1) (State.isArrayOf_alike hZ.alike Ar1.2.1) (g := (mkF m 1 #[.val (.ref b)] [(.ref b)])) rfl rfl (hb hby d29_1) _ (by rw [ln1]; exact (XS.iconst X0.here hx rfl (hb hby d29_2) (XS.ishr X0.here hx rfl (hb hby d29_3) rfl k)))) ?_
  refine Goes.ret X0 (v := (some (.int ((Int32.ofNat (2 * cl.length)) >>> ((1 : Int32) &&& 31))))) (fun h => by rw [hret] at h; cases h) hlk (by decide) (by decide) e0 (fun fs hr => retI X0 hx hret (hb hby d29_4) hr) ?_
  exact ⟨congrArg (fun z => some (Value.int z)) (own_len1 cl hlen).symm, N0, rfl⟩
theorem ef_rm_uIdxG (m : MethodId) (x0 : Int32) (x1 : Addr) : entryFrame m #[(.int x0), (.ref x1)] 2 = mkF m 0 #[.val (.int x0), .val (.ref x1)] [] := by first | (simp [entryFrame, mkF, argsToLocals, Value.category]; done) | rfl
abbrev M28 : MethodName := ⟨"java/lang/StringUTF16", "checkIndex", "(I[B)V"⟩
theorem d28_0 : decode jdk_52_method_91_code 0 = .ok (.iload_n 0, 1) := by decide +kernel
theorem d28_1 : decode jdk_52_method_91_code 1 = .ok (.aload_n 1, 1) := by decide +kernel
theorem d28_2 : decode jdk_52_method_91_code 2 = .ok (.invokestatic 48, 3) := by decide +kernel
theorem pd__28_5bB_29I : parseMethodDescriptor "([B)I" = some ⟨[(.array .byte)], some .int⟩ := by decide +kernel
theorem d28_5 : decode jdk_52_method_91_code 5 = .ok (.invokestatic 414, 3) := by decide +kernel
theorem d28_8 : decode jdk_52_method_91_code 8 = .ok (.return_, 1) := by decide +kernel
def Q_rm_uIdxG (Z : State) (b : Addr) (kb : ClassId) (cl : List Int32) (i : Int32) (sf : Value) (h0 : Heap) (n0 : Nat) (v : Option Value) (h : Heap) (L : List Loc) : Prop := v = none ∧ Fr n0 L ∧ h = h0
set_option maxRecDepth 65536 in
set_option maxHeartbeats 40000000 in
theorem rm_uIdxG (l : Launch) (Z : State) (a0 : Array Value) (hw : ∀ d ∈ tables_1, d.before a0 Z = true) (ws : List Jvm.Cond) (b : Addr) (kb : ClassId) (cl : List Int32) (i : Int32) (sf : Value) (h0 : Heap) (n0 : Nat) (Z0 : n0 ≤ h0.size) (V_b : Arv Z h0 b kb .byte (Int32.ofNat (2 * cl.length)) (cl.flatMap fun c => [.int (c >>> ((0 : Int32) &&& 31)).toInt8.toInt32, .int (c >>> ((8 : Int32) &&& 31)).toInt8.toInt32]) (.int (0 : Int32))) (S_SIOOBE_FORMATTER : Sta Z Z.heap "jdk/internal/util/Preconditions" "SIOOBE_FORMATTER" "Ljava/util/function/BiFunction;" sf) (h1 : ¬ (i < (0 : Int32))) (h2 : i < Int32.ofNat cl.length) (hlen : cl.length ≤ 4096) (hsf : sf.isRef = true) (O : Old Z n0 h0) :
    Met l Z M28 jdk_52_method_91_code 2 none ws (Rm 2 0 0 27) #[(.int i), (.ref b)] h0 (Q_rm_uIdxG Z b kb cl i sf h0 n0) := by
  refine met_of (plainFor_of_name pn_java_lang_StringUTF16) (own := "java/lang/StringUTF16") rfl (fun m => ef_rm_uIdxG m i b) ?_
  intro p e s m below meth c s₁ hx hby hml hown hnm hZ X0 e0 hret hlk
  have N0 := Fr.nil n0
  show Goes p e below s _ _ _ (s₁.setTop (mkF m 0 #[.val (.int i), .val (.ref b)] []))
  refine Goes.pre (U' := s₁.setTop (mkF m 2 #[.val (.int i), .val (.ref b)] [(.ref b), (.int i)])) (fun t k => XS.iloadN X0.here hx rfl (hb hby d28_0) rfl (XS.aloadN X0.here hx rfl (hb hby d28_1) rfl rfl k)) ?_
  obtain ⟨_, _, ⟨T1, L1, k1, n1⟩, -, X1, ⟨Lc1, hQ1, l1, y1, z1⟩, st1⟩ := Jvm.LawKit.callS X0 hx (y := (⟨"java/lang/StringUTF16", "length", "([B)I"⟩ : MethodName)) hown (mvT hZ (wq hw 122 rfl)) (mvT hZ (wq hw 123 rfl)) (mvT hZ (wq hw 63 rfl)) (mvT hZ (wq hw 124 rfl)) (by decide) (backOf (W := 1) (rm_ulenG l Z a0 hw [] b kb cl h0 n0 Z0 V_b hlen) hZ (wq hw 124 rfl) (wq hw 63 rfl) (by decide) (by decide)) (g := (mkF m 2 #[.val (.int i), .val (.ref b)] [(.ref b), (.int i)])) rfl (by rw [hml]; rfl) (argsL := [(.ref b)]) (rest := [(.int i)]) (lenOf pd__28_5bB_29I rfl) rfl (by show 2 * 0 + _ ≤ _; exact Nat.le_of_eq rfl) (hb hby d28_2) (fun _ _ => ⟨rfl, e0, (by decide : 0 + 0 ≤ _), (by decide : 0 + 0 ≤ _)⟩)
  dsimp only [Pt.U, Pt.locs, Pt.cells, Pt.slots] at X1 l1 y1 z1 st1 hQ1
  subst l1 y1 z1
  obtain ⟨rfl, N1q, HQ1⟩ := hQ1
  have N1 := Fr.app N0 N1q
  refine Goes.pre (U' := T1.setTop (mkF m 5 #[.val (.int i), .val (.ref b)] [(.int (Int32.ofNat cl.length)), (.int i)])) (fun t k => st1 t k) ?_
  obtain ⟨_, _, ⟨T2, L2, k2, n2⟩, -, X2, ⟨Lc2, hQ2, l2, y2, z2⟩, st2⟩ := Jvm.LawKit.callS X1 hx (y := (⟨"java/lang/String", "checkIndex", "(II)V"⟩ : MethodName)) hown (mvT hZ (wq hw 125 rfl)) (mvT hZ (wq hw 109 rfl)) (mvT hZ (wq hw 17 rfl)) (mvT hZ (wq hw 110 rfl)) (by decide) (backOf (W := 0) (rm_sIdx l Z a0 hw [] i (Int32.ofNat cl.length) sf h0 n0 Z0 S_SIOOBE_FORMATTER h1 h2 hsf O) hZ (wq hw 110 rfl) (wq hw 17 rfl) (by decide) (by decide)) (g := (mkF m 5 #[.val (.int i), .val (.ref b)] [(.int (Int32.ofNat cl.length)), (.int i)])) rfl (by rw [hml]; rfl) (argsL := [(.int i), (.int (Int32.ofNat cl.length))]) (rest := []) (lenOf pd__28II_29V rfl) rfl (by show 2 * 0 + _ ≤ _; exact Nat.le_of_eq rfl) (hb hby d28_5) (fun _ _ => ⟨rfl, HQ1, (by decide : 0 + 0 ≤ _), (by decide : 0 + 0 ≤ _)⟩)
  dsimp only [Pt.U, Pt.locs, Pt.cells, Pt.slots] at X2 l2 y2 z2 st2 hQ2
  subst l2 y2 z2
  obtain ⟨rfl, N2q, HQ2⟩ := hQ2
  have N2 := Fr.app N1 N2q
  refine Goes.pre (U' := T2.setTop (mkF m 8 #[.val (.int i), .val (.ref b)] [])) (fun t k => st2 t k) ?_
  refine Goes.ret X2 (v := none) (fun _ => rfl) hlk (by decide) (by decide) HQ2 (fun fs hr => X2.returnOut hx hret (hb hby d28_8) hr) ?_
  exact ⟨rfl, N2, rfl⟩
theorem ef_rm_getChG (m : MethodId) (x0 : Addr) (x1 : Int32) : entryFrame m #[(.ref x0), (.int x1)] 2 = mkF m 0 #[.val (.ref x0), .val (.int x1)] [] := by first | (simp [entryFrame, mkF, argsToLocals, Value.category]; done) | rfl
abbrev M19 : MethodName := ⟨"java/lang/StringUTF16", "getChar", "([BI)C"⟩
theorem d19_0 : decode jdk_52_method_5_code 0 = .ok (.getstatic 44, 3) := by decide +kernel
theorem d19_3 : decode jdk_52_method_5_code 3 = .ok (.ifCond .ne 25, 3) := by decide +kernel
theorem d19_28 : decode jdk_52_method_5_code 28 = .ok (.iload_n 1, 1) := by decide +kernel
theorem d19_29 : decode jdk_52_method_5_code 29 = .ok (.iconst 1, 1) := by decide +kernel
theorem d19_30 : decode jdk_52_method_5_code 30 = .ok (.ishl, 1) := by decide +kernel
theorem d19_31 : decode jdk_52_method_5_code 31 = .ok (.istore_n 1, 1) := by decide +kernel
theorem d19_32 : decode jdk_52_method_5_code 32 = .ok (.aload_n 0, 1) := by decide +kernel
theorem d19_33 : decode jdk_52_method_5_code 33 = .ok (.iload_n 1, 1) := by decide +kernel
theorem d19_34 : decode jdk_52_method_5_code 34 = .ok (.iinc 1 1, 3) := by decide +kernel
theorem d19_37 : decode jdk_52_method_5_code 37 = .ok (.baload, 1) := by decide +kernel
theorem d19_38 : decode jdk_52_method_5_code 38 = .ok (.sipush 255, 3) := by decide +kernel
theorem d19_41 : decode jdk_52_method_5_code 41 = .ok (.iand, 1) := by decide +kernel
theorem d19_42 : decode jdk_52_method_5_code 42 = .ok (.getstatic 59, 3) := by decide +kernel
theorem d19_45 : decode jdk_52_method_5_code 45 = .ok (.ishl, 1) := by decide +kernel
theorem d19_46 : decode jdk_52_method_5_code 46 = .ok (.aload_n 0, 1) := by decide +kernel
theorem d19_47 : decode jdk_52_method_5_code 47 = .ok (.iload_n 1, 1) := by decide +kernel
theorem d19_48 : decode jdk_52_method_5_code 48 = .ok (.baload, 1) := by decide +kernel
theorem d19_49 : decode jdk_52_method_5_code 49 = .ok (.sipush 255, 3) := by decide +kernel
theorem d19_52 : decode jdk_52_method_5_code 52 = .ok (.iand, 1) := by decide +kernel
theorem d19_53 : decode jdk_52_method_5_code 53 = .ok (.getstatic 63, 3) := by decide +kernel
theorem d19_56 : decode jdk_52_method_5_code 56 = .ok (.ishl, 1) := by decide +kernel
theorem d19_57 : decode jdk_52_method_5_code 57 = .ok (.ior, 1) := by decide +kernel
theorem d19_58 : decode jdk_52_method_5_code 58 = .ok (.i2c, 1) := by decide +kernel
theorem d19_59 : decode jdk_52_method_5_code 59 = .ok (.ireturn, 1) := by decide +kernel
def Q_rm_getChG (Z : State) (b : Addr) (kb : ClassId) (cl : List Int32) (i : Int32) (h0 : Heap) (n0 : Nat) (v : Option Value) (h : Heap) (L : List Loc) : Prop := v = some (.int (cl.getD i.toNatClampNeg 0)) ∧ Fr n0 L ∧ h = h0
set_option maxRecDepth 65536 in
set_option maxHeartbeats 40000000 in
theorem rm_getChG (l : Launch) (Z : State) (a0 : Array Value) (hw : ∀ d ∈ tables_1, d.before a0 Z = true) (ws : List Jvm.Cond) (b : Addr) (kb : ClassId) (cl : List Int32) (i : Int32) (h0 : Heap) (n0 : Nat) (Z0 : n0 ≤ h0.size) (V_b : Arv Z h0 b kb .byte (Int32.ofNat (2 * cl.length)) (cl.flatMap fun c => [.int (c >>> ((0 : Int32) &&& 31)).toInt8.toInt32, .int (c >>> ((8 : Int32) &&& 31)).toInt8.toInt32]) (.int (0 : Int32))) (S__assertionsDisabled : Sta Z Z.heap "java/lang/StringUTF16" "$assertionsDisabled" "Z" (.int (1 : Int32))) (S_HI_BYTE_SHIFT : Sta Z Z.heap "java/lang/StringUTF16" "HI_BYTE_SHIFT" "I" (.int (0 : Int32))) (S_LO_BYTE_SHIFT : Sta Z Z.heap "java/lang/StringUTF16" "LO_BYTE_SHIFT" "I" (.int (8 : Int32))) (h1 : ¬ (i < (0 : Int32))) (h2 : i < Int32.ofNat cl.length) (hlen : cl.length ≤ 4096) (hcA : ∀ c ∈ cl, OwnCh c) (O : Old Z n0 h0) :
    Met l Z M19 jdk_52_method_5_code 2 (some .char) ws (Rm 0 0 0 0) #[(.ref b), (.int i)] h0 (Q_rm_getChG Z b kb cl i h0 n0) := by
  refine met_of (plainFor_of_name pn_java_lang_StringUTF16) (own := "java/lang/StringUTF16") rfl (fun m => ef_rm_getChG m b i) ?_
  intro p e s m below meth c s₁ hx hby hml hown hnm hZ X0 e0 hret hlk
  have N0 := Fr.nil n0
  show Goes p e below s _ _ _ (s₁.setTop (mkF m 0 #[.val (.ref b), .val (.int i)] []))
  obtain ⟨T1, X1, e1, st1⟩ := getS2 X0 hx hZ hown (host := "") (Or.inl (wq hw 81 rfl)) Via.refl e0 (S__assertionsDisabled.ext O.2) (g := (mkF m 0 #[.val (.ref b), .val (.int i)] [])) rfl (hb hby d19_0)
  refine Goes.pre (U' := T1.setTop (mkF m 3 #[.val (.ref b), .val (.int i)] [(.int (1 : Int32))])) (fun t k => st1 t k) ?_
  have hc3 : ¬ ((1 : Int32) = (0 : Int32)) := by decide
  refine Goes.pre (U' := T1.setTop (mkF m 37 #[.val (.ref b), .val (.int ((i <<< ((1 : Int32) &&& 31)) + (1 : Int32)))] [(.int (i <<< ((1 : Int32) &&& 31))), (.ref b)])) (fun t k => XS.ifYes X1.here hx rfl (pc0 := 3) (pc' := 28) rfl (hb hby d19_3) rfl ((if0 _ _).trans (feq hc3).2) (by decide) (by decide) (XS.iloadN X1.here hx rfl (hb hby d19_28) rfl (XS.iconst X1.here hx rfl (hb hby d19_29) (XS.ishl X1.here hx rfl (hb hby d19_30) rfl (XS.istoreN X1.here hx rfl (hb hby d19_31) rfl (l' := #[.val (.ref b), .val (.int (i <<< ((1 : Int32) &&& 31)))]) rfl (XS.aloadN X1.here hx rfl (hb hby d19_32) rfl rfl (XS.iloadN X1.here hx rfl (hb hby d19_33) rfl (XT.iincV X1.here hx rfl (1 : Int32) (hb hby d19_34) (by decide) rfl (l' := #[.val (.ref b), .val (.int ((i <<< ((1 : Int32) &&& 31)) + (1 : Int32)))]) rfl k)))))))) ?_
  obtain ⟨cl2, Ar2, q2, Sz2, Ng2, Hs2, Ft2⟩ := id V_b
  have hin2 := inb_of (j := (i <<< ((1 : Int32) &&& 31))) Sz2 (own_in0 cl i h1 h2 hlen)
  refine Goes.pre (U' := T1.setTop (mkF m 42 #[.val (.ref b), .val (.int ((i <<< ((1 : Int32) &&& 31)) + (1 : Int32)))] [(.int (((cl.getD i.toNatClampNeg 0) >>> ((0 : Int32) &&& 31)).toInt8.toInt32 &&& (255 : Int32)))])) (fun t k => X1.baloadBytes hx (j := (i <<< ((1 : Int32) &&& 31))) (v := (.int ((cl.getD i.toNatClampNeg 0) >>> ((0 : Int32) &&& 31)).toInt8.toInt32)) (by rw [e1]; exact Ar2.1) (State.isArrayOf_alike hZ.alike Ar2.2.1) Ar2.2.2 hin2 (Has.at Hs2 hin2 (own_at0 cl i h1 h2 hlen)) (g := (mkF m 37 #[.val (.ref b), .val (.int ((i <<< ((1 : Int32) &&& 31)) + (1 : Int32)))] [(.int (i <<< ((1 : Int32) &&& 31))), (.ref b)])) rfl rfl (hb hby d19_37) _ (XS.sipush X1.here hx rfl (hb hby d19_38) (XS.iand X1.here hx rfl (hb hby d19_41) rfl k))) ?_
  obtain ⟨T3, X3, e3, st3⟩ := getS2 X1 hx hZ hown (host := "") (Or.inl (wq hw 82 rfl)) Via.refl e1 (S_HI_BYTE_SHIFT.ext O.2) (g := (mkF m 42 #[.val (.ref b), .val (.int ((i <<< ((1 : Int32) &&& 31)) + (1 : Int32)))] [(.int (((cl.getD i.toNatClampNeg 0) >>> ((0 : Int32) &&& 31)).toInt8.toInt32 &&& (255 : Int32)))])) rfl (hb hby d19_42)
  refine Goes.pre (U' := T3.setTop (mkF m 48 #[.val (.ref b), .val (.int ((i <<< ((1 : Int32) &&& 31)) + (1 : Int32)))] [(.int ((i <<< ((1 : Int32) &&& 31)) + (1 : Int32))), (.ref b), (.int ((((cl.getD i.toNatClampNeg 0) >>> ((0 : Int32) &&& 31)).toInt8.toInt32 &&& (255 : Int32)) <<< ((0 : Int32) &&& 31)))])) (fun t k => st3 t (XS.ishl X3.here hx rfl (hb hby d19_45) rfl (XS.aloadN X3.here hx rfl (hb hby d19_46) rfl rfl (XS.iloadN X3.here hx rfl (hb hby d19_47) rfl k)))) ?_
  obtain ⟨cl4, Ar4, q4, Sz4, Ng4, Hs4, Ft4⟩ := id V_b
  have hin4 := inb_of (j := ((i <<< ((1 : Int32) &&& 31)) + (1 : Int32))) Sz4 (own_in1 cl i h1 h2 hlen)
  refine Goes.pre (U' := T3.setTop (mkF m 53 #[.val (.ref b), .val (.int ((i <<< ((1 : Int32) &&& 31)) + (1 : Int32)))] [(.int (((cl.getD i.toNatClampNeg 0) >>> ((8 : Int32) &&& 31)).toInt8.toInt32 &&& (255 : Int32))), (.int ((((cl.getD i.toNatClampNeg 0) >>> ((0 : Int32) &&& 31)).toInt8.toInt32 &&& (255 : Int32)) <<< ((0 : Int32) &&& 31)))])) (fun t k => X3.baloadBytes hx (j := ((i <<< ((1 : Int32) &&& 31)) + (1 : Int32))) (v := (.int ((cl.getD i.toNatClampNeg 0) >>> ((8 : Int32) &&& 31)).toInt8.toInt32)) (by rw [e3]; exact Ar4.1) (State.isArrayOf_alike hZ.alike Ar4.2.1) Ar4.2.2 hin4 (Has.at Hs4 hin4 (own_at1 cl i h1 h2 hlen)) (g := (mkF m 48 #[.val (.ref b), .val (.int ((i <<< ((1 : Int32) &&& 31)) + (1 : Int32)))] [(.int ((i <<< ((1 : Int32) &&& 31)) + (1 : Int32))), (.ref b), (.int ((((cl.getD i.toNatClampNeg 0) >>> ((0 : Int32) &&& 31)).toInt8.toInt32 &&& (255 : Int32)) <<< ((0 : Int32) &&& 31)))])) rfl rfl (hb hby d19_48) _ (XS.sipush X3.here hx rfl (hb hby d19_49) (XS.iand X3.here hx rfl (hb hby d19_52) rfl k))) ?_
  obtain ⟨T5, X5, e5, st5⟩ := getS2 X3 hx hZ hown (host := "") (Or.inl (wq hw 83 rfl)) Via.refl e3 (S_LO_BYTE_SHIFT.ext O.2) (g := (mkF m 53 #[.val (.ref b), .val (.int ((i <<< ((1 : Int32) &&& 31)) + (1 : Int32)))] [(.int (((cl.getD i.toNatClampNeg 0) >>> ((8 : Int32) &&& 31)).toInt8.toInt32 &&& (255 : Int32))), (.int ((((cl.getD i.toNatClampNeg 0) >>> ((0 : Int32) &&& 31)).toInt8.toInt32 &&& (255 : Int32)) <<< ((0 : Int32) &&& 31)))])) rfl (hb hby d19_53)
  refine Goes.pre (U' := T5.setTop (mkF m 59 #[.val (.ref b), .val (.int ((i <<< ((1 : Int32) &&& 31)) + (1 : Int32)))] [(.int ((((((cl.getD i.toNatClampNeg 0) >>> ((0 : Int32) &&& 31)).toInt8.toInt32 &&& (255 : Int32)) <<< ((0 : Int32) &&& 31)) ||| ((((cl.getD i.toNatClampNeg 0) >>> ((8 : Int32) &&& 31)).toInt8.toInt32 &&& (255 : Int32)) <<< ((8 : Int32) &&& 31))).toUInt32.toUInt16.toUInt32.toInt32))])) (fun t k => st5 t (XS.ishl X5.here hx rfl (hb hby d19_56) rfl (XS.ior X5.here hx rfl (hb hby d19_57) rfl (XS.i2c X5.here hx rfl (hb hby d19_58) rfl k)))) ?_
  refine Goes.ret X5 (v := (some (.int (cl.getD i.toNatClampNeg 0)))) (fun h => by rw [hret] at h; cases h) hlk (by decide) (by decide) e5 (fun fs hr => retN X5 hx (t := .char) hret (by simp) (hb hby d19_59) (by rw [show nar .char ((((((cl.getD i.toNatClampNeg 0) >>> ((0 : Int32) &&& 31)).toInt8.toInt32 &&& (255 : Int32)) <<< ((0 : Int32) &&& 31)) ||| ((((cl.getD i.toNatClampNeg 0) >>> ((8 : Int32) &&& 31)).toInt8.toInt32 &&& (255 : Int32)) <<< ((8 : Int32) &&& 31))).toUInt32.toUInt16.toUInt32.toInt32) = (cl.getD i.toNatClampNeg 0) from own_u16 _ (own_gch cl i h1 h2 hlen hcA)]; exact hr)) ?_
  exact ⟨rfl, N0, rfl⟩
theorem ef_rm_uchG (m : MethodId) (x0 : Addr) (x1 : Int32) : entryFrame m #[(.ref x0), (.int x1)] 2 = mkF m 0 #[.val (.ref x0), .val (.int x1)] [] := by first | (simp [entryFrame, mkF, argsToLocals, Value.category]; done) | rfl
abbrev M27 : MethodName := ⟨"java/lang/StringUTF16", "charAt", "([BI)C"⟩
theorem d27_0 : decode jdk_52_method_83_code 0 = .ok (.iload_n 1, 1) := by decide +kernel
theorem d27_1 : decode jdk_52_method_83_code 1 = .ok (.aload_n 0, 1) := by decide +kernel
theorem d27_2 : decode jdk_52_method_83_code 2 = .ok (.invokestatic 67, 3) := by decide +kernel
theorem pd__28I_5bB_29V : parseMethodDescriptor "(I[B)V" = some ⟨[.int, (.array .byte)], none⟩ := by decide +kernel
theorem d27_5 : decode jdk_52_method_83_code 5 = .ok (.aload_n 0, 1) := by decide +kernel
theorem d27_6 : decode jdk_52_method_83_code 6 = .ok (.iload_n 1, 1) := by decide +kernel
theorem d27_7 : decode jdk_52_method_83_code 7 = .ok (.invokestatic 71, 3) := by decide +kernel
theorem pd__28_5bBI_29C : parseMethodDescriptor "([BI)C" = some ⟨[(.array .byte), .int], some .char⟩ := by decide +kernel
theorem d27_10 : decode jdk_52_method_83_code 10 = .ok (.ireturn, 1) := by decide +kernel
def Q_rm_uchG (Z : State) (b : Addr) (kb : ClassId) (cl : List Int32) (i : Int32) (sf : Value) (h0 : Heap) (n0 : Nat) (v : Option Value) (h : Heap) (L : List Loc) : Prop := v = some (.int (cl.getD i.toNatClampNeg 0)) ∧ Fr n0 L ∧ h = h0
set_option maxRecDepth 65536 in
set_option maxHeartbeats 40000000 in
theorem rm_uchG (l : Launch) (Z : State) (a0 : Array Value) (hw : ∀ d ∈ tables_1, d.before a0 Z = true) (ws : List Jvm.Cond) (b : Addr) (kb : ClassId) (cl : List Int32) (i : Int32) (sf : Value) (h0 : Heap) (n0 : Nat) (Z0 : n0 ≤ h0.size) (V_b : Arv Z h0 b kb .byte (Int32.ofNat (2 * cl.length)) (cl.flatMap fun c => [.int (c >>> ((0 : Int32) &&& 31)).toInt8.toInt32, .int (c >>> ((8 : Int32) &&& 31)).toInt8.toInt32]) (.int (0 : Int32))) (S__assertionsDisabled : Sta Z Z.heap "java/lang/StringUTF16" "$assertionsDisabled" "Z" (.int (1 : Int32))) (S_HI_BYTE_SHIFT : Sta Z Z.heap "java/lang/StringUTF16" "HI_BYTE_SHIFT" "I" (.int (0 : Int32))) (S_LO_BYTE_SHIFT : Sta Z Z.heap "java/lang/StringUTF16" "LO_BYTE_SHIFT" "I" (.int (8 : Int32))) (S_SIOOBE_FORMATTER : Sta Z Z.heap "jdk/internal/util/Preconditions" "SIOOBE_FORMATTER" "Ljava/util/function/BiFunction;" sf) (h1 : ¬ (i < (0 : Int32))) (h2 : i < Int32.ofNat cl.length) (hlen : cl.length ≤ 4096) (hcA : ∀ c ∈ cl, OwnCh c) (hsf : sf.isRef = true) (O : Old Z n0 h0) :
    Met l Z M27 jdk_52_method_83_code 2 (some .char) ws (Rm 3 0 0 40) #[(.ref b), (.int i)] h0 (Q_rm_uchG Z b kb cl i sf h0 n0) := by
  refine met_of (plainFor_of_name pn_java_lang_StringUTF16) (own := "java/lang/StringUTF16") rfl (fun m => ef_rm_uchG m b i) ?_
  intro p e s m below meth c s₁ hx hby hml hown hnm hZ X0 e0 hret hlk
  have N0 := Fr.nil n0
  show Goes p e below s _ _ _ (s₁.setTop (mkF m 0 #[.val (.ref b), .val (.int i)] []))
  refine Goes.pre (U' := s₁.setTop (mkF m 2 #[.val (.ref b), .val (.int i)] [(.ref b), (.int i)])) (fun t k => XS.iloadN X0.here hx rfl (hb hby d27_0) rfl (XS.aloadN X0.here hx rfl (hb hby d27_1) rfl rfl k)) ?_
  obtain ⟨_, _, ⟨T1, L1, k1, n1⟩, -, X1, ⟨Lc1, hQ1, l1, y1, z1⟩, st1⟩ := Jvm.LawKit.callS X0 hx (y := (⟨"java/lang/StringUTF16", "checkIndex", "(I[B)V"⟩ : MethodName)) hown (mvT hZ (wq hw 119 rfl)) (mvT hZ (wq hw 120 rfl)) (mvT hZ (wq hw 63 rfl)) (mvT hZ (wq hw 121 rfl)) (by decide) (backOf (W := 0) (rm_uIdxG l Z a0 hw [] b kb cl i sf h0 n0 Z0 V_b S_SIOOBE_FORMATTER h1 h2 hlen hsf O) hZ (wq hw 121 rfl) (wq hw 63 rfl) (by decide) (by decide)) (g := (mkF m 2 #[.val (.ref b), .val (.int i)] [(.ref b), (.int i)])) rfl (by rw [hml]; rfl) (argsL := [(.int i), (.ref b)]) (rest := []) (lenOf pd__28I_5bB_29V rfl) rfl (by show 2 * 0 + _ ≤ _; exact Nat.le_of_eq rfl) (hb hby d27_2) (fun _ _ => ⟨rfl, e0, (by decide : 0 + 0 ≤ _), (by decide : 0 + 0 ≤ _)⟩)
  dsimp only [Pt.U, Pt.locs, Pt.cells, Pt.slots] at X1 l1 y1 z1 st1 hQ1
  subst l1 y1 z1
  obtain ⟨rfl, N1q, HQ1⟩ := hQ1
  have N1 := Fr.app N0 N1q
  refine Goes.pre (U' := T1.setTop (mkF m 7 #[.val (.ref b), .val (.int i)] [(.int i), (.ref b)])) (fun t k => st1 t (XS.aloadN X1.here hx rfl (hb hby d27_5) rfl rfl (XS.iloadN X1.here hx rfl (hb hby d27_6) rfl k))) ?_
  obtain ⟨_, _, ⟨T2, L2, k2, n2⟩, -, X2, ⟨Lc2, hQ2, l2, y2, z2⟩, st2⟩ := Jvm.LawKit.callS X1 hx (y := (⟨"java/lang/StringUTF16", "getChar", "([BI)C"⟩ : MethodName)) hown (mvT hZ (wq hw 84 rfl)) (mvT hZ (wq hw 85 rfl)) (mvT hZ (wq hw 63 rfl)) (mvT hZ (wq hw 86 rfl)) (by decide) (backOf (W := 0) (rm_getChG l Z a0 hw [] b kb cl i h0 n0 Z0 V_b S__assertionsDisabled S_HI_BYTE_SHIFT S_LO_BYTE_SHIFT h1 h2 hlen hcA O) hZ (wq hw 86 rfl) (wq hw 63 rfl) (by decide) (by decide)) (g := (mkF m 7 #[.val (.ref b), .val (.int i)] [(.int i), (.ref b)])) rfl (by rw [hml]; rfl) (argsL := [(.ref b), (.int i)]) (rest := []) (lenOf pd__28_5bBI_29C rfl) rfl (by show 2 * 0 + _ ≤ _; exact Nat.le_of_eq rfl) (hb hby d27_7) (fun _ _ => ⟨rfl, HQ1, (by decide : 0 + 0 ≤ _), (by decide : 0 + 0 ≤ _)⟩)
  dsimp only [Pt.U, Pt.locs, Pt.cells, Pt.slots] at X2 l2 y2 z2 st2 hQ2
  subst l2 y2 z2
  obtain ⟨rfl, N2q, HQ2⟩ := hQ2
  have N2 := Fr.app N1 N2q
  refine Goes.pre (U' := T2.setTop (mkF m 10 #[.val (.ref b), .val (.int i)] [(.int (cl.getD i.toNatClampNeg 0))])) (fun t k => st2 t k) ?_
  refine Goes.ret X2 (v := (some (.int (cl.getD i.toNatClampNeg 0)))) (fun h => by rw [hret] at h; cases h) hlk (by decide) (by decide) HQ2 (fun fs hr => retN X2 hx (t := .char) hret (by simp) (hb hby d27_10) (by rw [show nar .char (cl.getD i.toNatClampNeg 0) = (cl.getD i.toNatClampNeg 0) from own_nch _ (own_gch cl i h1 h2 hlen hcA)]; exact hr)) ?_
  exact ⟨rfl, N2, rfl⟩
theorem ef_rm_chG (m : MethodId) (x0 : Addr) (x1 : Int32) : entryFrame m #[(.ref x0), (.int x1)] 2 = mkF m 0 #[.val (.ref x0), .val (.int x1)] [] := by first | (simp [entryFrame, mkF, argsToLocals, Value.category]; done) | rfl
abbrev M22 : MethodName := ⟨"java/lang/String", "charAt", "(I)C"⟩
theorem d22_0 : decode jdk_42_method_56_code 0 = .ok (.aload_n 0, 1) := by decide +kernel
theorem d22_1 : decode jdk_42_method_56_code 1 = .ok (.invokevirtual 492, 3) := by decide +kernel
theorem pd__28_29Z : parseMethodDescriptor "()Z" = some ⟨[], some .boolean⟩ := by decide +kernel
theorem d22_4 : decode jdk_42_method_56_code 4 = .ok (.ifCond .eq 12, 3) := by decide +kernel
theorem d22_7 : decode jdk_42_method_56_code 7 = .ok (.aload_n 0, 1) := by decide +kernel
theorem d22_8 : decode jdk_42_method_56_code 8 = .ok (.getfield 9, 3) := by decide +kernel
theorem d22_11 : decode jdk_42_method_56_code 11 = .ok (.iload_n 1, 1) := by decide +kernel
theorem d22_12 : decode jdk_42_method_56_code 12 = .ok (.invokestatic 495, 3) := by decide +kernel
theorem d22_15 : decode jdk_42_method_56_code 15 = .ok (.ireturn, 1) := by decide +kernel
theorem d22_16 : decode jdk_42_method_56_code 16 = .ok (.aload_n 0, 1) := by decide +kernel
theorem d22_17 : decode jdk_42_method_56_code 17 = .ok (.getfield 9, 3) := by decide +kernel
theorem d22_20 : decode jdk_42_method_56_code 20 = .ok (.iload_n 1, 1) := by decide +kernel
theorem d22_21 : decode jdk_42_method_56_code 21 = .ok (.invokestatic 498, 3) := by decide +kernel
theorem d22_24 : decode jdk_42_method_56_code 24 = .ok (.ireturn, 1) := by decide +kernel
def Q_rm_chG (Z : State) (a : Addr) (b : Addr) (kb : ClassId) (cl : List Int32) (i : Int32) (cs : Int32) (sf : Value) (h0 : Heap) (n0 : Nat) (v : Option Value) (h : Heap) (L : List Loc) : Prop := v = some (.int (cl.getD i.toNatClampNeg 0)) ∧ Fr n0 L ∧ h = h0
set_option maxRecDepth 65536 in
set_option maxHeartbeats 40000000 in
theorem rm_chG (l : Launch) (Z : State) (a0 : Array Value) (hw : ∀ d ∈ tables_1, d.before a0 Z = true) (ws : List Jvm.Cond) (a : Addr) (b : Addr) (kb : ClassId) (cl : List Int32) (i : Int32) (cs : Int32) (sf : Value) (h0 : Heap) (n0 : Nat) (Z0 : n0 ≤ h0.size) (S_a : OwnStr Z h0 a b kb cl) (S_COMPACT_STRINGS : Sta Z Z.heap "java/lang/String" "COMPACT_STRINGS" "Z" (.int cs)) (S__assertionsDisabled : Sta Z Z.heap "java/lang/StringUTF16" "$assertionsDisabled" "Z" (.int (1 : Int32))) (S_HI_BYTE_SHIFT : Sta Z Z.heap "java/lang/StringUTF16" "HI_BYTE_SHIFT" "I" (.int (0 : Int32))) (S_LO_BYTE_SHIFT : Sta Z Z.heap "java/lang/StringUTF16" "LO_BYTE_SHIFT" "I" (.int (8 : Int32))) (S_SIOOBE_FORMATTER : Sta Z Z.heap "jdk/internal/util/Preconditions" "SIOOBE_FORMATTER" "Ljava/util/function/BiFunction;" sf) (h1 : ¬ (i < (0 : Int32))) (h2 : i < Int32.ofNat cl.length) (hlen : cl.length ≤ 4096) (hcs : ¬ (cs = (0 : Int32))) (hsf : sf.isRef = true) (O : Old Z n0 h0) :
    Met l Z M22 jdk_42_method_56_code 2 (some .char) ws (Rm 4 0 0 53) #[(.ref a), (.int i)] h0 (Q_rm_chG Z a b kb cl i cs sf h0 n0) := by
  refine met_of (plainFor_of_name pn_java_lang_String) (own := "java/lang/String") rfl (fun m => ef_rm_chG m a i) ?_
  intro p e s m below meth c s₁ hx hby hml hown hnm hZ X0 e0 hret hlk
  have N0 := Fr.nil n0
  show Goes p e below s _ _ _ (s₁.setTop (mkF m 0 #[.val (.ref a), .val (.int i)] []))
  obtain ⟨E_a, F_value_a, hcA, hSt⟩ := S_a
  rcases hSt with ⟨F_coder_a, V_b, hleA⟩ | ⟨F_coder_a, V_b, hexA⟩
  ·
    refine Goes.pre (U' := s₁.setTop (mkF m 1 #[.val (.ref a), .val (.int i)] [(.ref a)])) (fun t k => XS.aloadN X0.here hx rfl (hb hby d22_0) rfl rfl k) ?_
    obtain ⟨cq1, kq1, q1a, q1b, q1c⟩ := isOf hZ e0 E_a
    obtain ⟨_, _, ⟨T1, L1, k1, n1⟩, -, X1, ⟨Lc1, hQ1, l1, y1, z1⟩, st1⟩ := X0.virtualBack hx (y := (⟨"java/lang/String", "isLatin1", "()Z"⟩ : MethodName)) (z := (⟨"java/lang/String", "isLatin1", "()Z"⟩ : MethodName)) hown (mvT hZ (wq hw 99 rfl)) (mvT hZ (wq hw 100 rfl)) (notFace_of_selects (args := #[]) (mvT hZ (wq hw 102 rfl))) (mvT hZ (wq hw 102 rfl)) (mvT hZ (wq hw 101 rfl)) (by decide) (backOf (W := 0) (rm_isL0 l Z a0 hw [] a cs h0 n0 Z0 S_COMPACT_STRINGS F_coder_a hcs O) hZ (wq hw 103 rfl) (wq hw 17 rfl) (by decide) (by decide)) q1a q1c (g := (mkF m 1 #[.val (.ref a), .val (.int i)] [(.ref a)])) rfl (by rw [hml]; rfl) (Steps.refl _) (argsL := []) (rest := []) (lenOf pd__28_29Z rfl) rfl (by show 2 * 0 + _ ≤ _; exact Nat.le_of_eq rfl) (hb hby d22_1) (fun _ _ => ⟨rfl, e0, (by decide : 0 + 0 ≤ _), (by decide : 0 + 0 ≤ _)⟩)
    dsimp only [Pt.U, Pt.locs, Pt.cells, Pt.slots] at X1 l1 y1 z1 st1 hQ1
    subst l1 y1 z1
    obtain ⟨rfl, N1q, HQ1⟩ := hQ1
    have N1 := Fr.app N0 N1q
    refine Goes.pre (U' := T1.setTop (mkF m 4 #[.val (.ref a), .val (.int i)] [(.int (1 : Int32))])) (fun t k => st1.trans k) ?_
    have hc4 : ¬ ((1 : Int32) = (0 : Int32)) := by decide
    refine Goes.pre (U' := T1.setTop (mkF m 8 #[.val (.ref a), .val (.int i)] [(.ref a)])) (fun t k => XS.ifNo X1.here hx rfl (hb hby d22_4) rfl ((if0 _ _).trans (feq hc4).1) (XS.aloadN X1.here hx rfl (hb hby d22_7) rfl rfl k)) ?_
    obtain ⟨T2, X2, e2, st2⟩ := getF X1 hx hZ hown (host := "") (Or.inl (wq hw 34 rfl)) Via.refl HQ1 F_value_a (g := (mkF m 8 #[.val (.ref a), .val (.int i)] [(.ref a)])) rfl rfl (hb hby d22_8)
    refine Goes.pre (U' := T2.setTop (mkF m 12 #[.val (.ref a), .val (.int i)] [(.int i), (.ref b)])) (fun t k => st2 t (XS.iloadN X2.here hx rfl (hb hby d22_11) rfl k)) ?_
    obtain ⟨_, _, ⟨T3, L3, k3, n3⟩, -, X3, ⟨Lc3, hQ3, l3, y3, z3⟩, st3⟩ := Jvm.LawKit.callS X2 hx (y := (⟨"java/lang/StringLatin1", "charAt", "([BI)C"⟩ : MethodName)) hown (mvT hZ (wq hw 104 rfl)) (mvT hZ (wq hw 105 rfl)) (mvT hZ (wq hw 106 rfl)) (mvT hZ (wq hw 107 rfl)) (by decide) (backOf (W := 0) (rm_l1chG l Z a0 hw [] b kb cl i sf h0 n0 Z0 V_b S_SIOOBE_FORMATTER h1 h2 hlen hcA hleA hsf O) hZ (wq hw 107 rfl) (wq hw 106 rfl) (by decide) (by decide)) (g := (mkF m 12 #[.val (.ref a), .val (.int i)] [(.int i), (.ref b)])) rfl (by rw [hml]; rfl) (argsL := [(.ref b), (.int i)]) (rest := []) (lenOf pd__28_5bBI_29C rfl) rfl (by show 2 * 0 + _ ≤ _; exact Nat.le_of_eq rfl) (hb hby d22_12) (fun _ _ => ⟨rfl, e2, (by decide : 0 + 0 ≤ _), (by decide : 0 + 0 ≤ _)⟩)
    dsimp only [Pt.U, Pt.locs, Pt.cells, Pt.slots] at X3 l3 y3 z3 st3 hQ3
    subst l3 y3 z3
    obtain ⟨rfl, N3q, HQ3⟩ := hQ3
    have N3 := Fr.app N1 N3q
    refine Goes.pre (U' := T3.setTop (mkF m 15 #[.val (.ref a), .val (.int i)] [(.int (cl.getD i.toNatClampNeg 0))])) (fun t k => st3 t k) ?_
    refine Goes.ret X3 (v := (some (.int (cl.getD i.toNatClampNeg 0)))) (fun h => by rw [hret] at h; cases h) hlk (by decide) (by decide) HQ3 (fun fs hr => retN X3 hx (t := .char) hret (by simp) (hb hby d22_15) (by rw [show nar .char (cl.getD i.toNatClampNeg 0) = (cl.getD i.toNatClampNeg 0) from own_nch _ (own_gch cl i h1 h2 hlen hcA)]; exact hr)) ?_
    exact ⟨rfl, N3, rfl⟩
  ·
    refine Goes.pre (U' := s₁.setTop (mkF m 1 #[.val (.ref a), .val (.int i)] [(.ref a)])) (fun t k => XS.aloadN X0.here hx rfl (hb hby d22_0) rfl rfl k) ?_
    obtain ⟨cq4, kq4, q4a, q4b, q4c⟩ := isOf hZ e0 E_a
    obtain ⟨_, _, ⟨T4, L4, k4, n4⟩, -, X4, ⟨Lc4, hQ4, l4, y4, z4⟩, st4⟩ := X0.virtualBack hx (y := (⟨"java/lang/String", "isLatin1", "()Z"⟩ : MethodName)) (z := (⟨"java/lang/String", "isLatin1", "()Z"⟩ : MethodName)) hown (mvT hZ (wq hw 99 rfl)) (mvT hZ (wq hw 100 rfl)) (notFace_of_selects (args := #[]) (mvT hZ (wq hw 102 rfl))) (mvT hZ (wq hw 102 rfl)) (mvT hZ (wq hw 101 rfl)) (by decide) (backOf (W := 0) (rm_isL1 l Z a0 hw [] a cs h0 n0 Z0 S_COMPACT_STRINGS F_coder_a hcs O) hZ (wq hw 103 rfl) (wq hw 17 rfl) (by decide) (by decide)) q4a q4c (g := (mkF m 1 #[.val (.ref a), .val (.int i)] [(.ref a)])) rfl (by rw [hml]; rfl) (Steps.refl _) (argsL := []) (rest := []) (lenOf pd__28_29Z rfl) rfl (by show 2 * 0 + _ ≤ _; exact Nat.le_of_eq rfl) (hb hby d22_1) (fun _ _ => ⟨rfl, e0, (by decide : 0 + 0 ≤ _), (by decide : 0 + 0 ≤ _)⟩)
    dsimp only [Pt.U, Pt.locs, Pt.cells, Pt.slots] at X4 l4 y4 z4 st4 hQ4
    subst l4 y4 z4
    obtain ⟨rfl, N4q, HQ4⟩ := hQ4
    have N4 := Fr.app N0 N4q
    refine Goes.pre (U' := T4.setTop (mkF m 4 #[.val (.ref a), .val (.int i)] [(.int (0 : Int32))])) (fun t k => st4.trans k) ?_
    have hc4 : (0 : Int32) = (0 : Int32) := rfl
    refine Goes.pre (U' := T4.setTop (mkF m 17 #[.val (.ref a), .val (.int i)] [(.ref a)])) (fun t k => XS.ifYes X4.here hx rfl (pc0 := 4) (pc' := 16) rfl (hb hby d22_4) rfl ((if0 _ _).trans (teq hc4).1) (by decide) (by decide) (XS.aloadN X4.here hx rfl (hb hby d22_16) rfl rfl k)) ?_
    obtain ⟨T5, X5, e5, st5⟩ := getF X4 hx hZ hown (host := "") (Or.inl (wq hw 34 rfl)) Via.refl HQ4 F_value_a (g := (mkF m 17 #[.val (.ref a), .val (.int i)] [(.ref a)])) rfl rfl (hb hby d22_17)
    refine Goes.pre (U' := T5.setTop (mkF m 21 #[.val (.ref a), .val (.int i)] [(.int i), (.ref b)])) (fun t k => st5 t (XS.iloadN X5.here hx rfl (hb hby d22_20) rfl k)) ?_
    obtain ⟨_, _, ⟨T6, L6, k6, n6⟩, -, X6, ⟨Lc6, hQ6, l6, y6, z6⟩, st6⟩ := Jvm.LawKit.callS X5 hx (y := (⟨"java/lang/StringUTF16", "charAt", "([BI)C"⟩ : MethodName)) hown (mvT hZ (wq hw 116 rfl)) (mvT hZ (wq hw 117 rfl)) (mvT hZ (wq hw 63 rfl)) (mvT hZ (wq hw 118 rfl)) (by decide) (backOf (W := 0) (rm_uchG l Z a0 hw [] b kb cl i sf h0 n0 Z0 V_b S__assertionsDisabled S_HI_BYTE_SHIFT S_LO_BYTE_SHIFT S_SIOOBE_FORMATTER h1 h2 hlen hcA hsf O) hZ (wq hw 118 rfl) (wq hw 63 rfl) (by decide) (by decide)) (g := (mkF m 21 #[.val (.ref a), .val (.int i)] [(.int i), (.ref b)])) rfl (by rw [hml]; rfl) (argsL := [(.ref b), (.int i)]) (rest := []) (lenOf pd__28_5bBI_29C rfl) rfl (by show 2 * 0 + _ ≤ _; exact Nat.le_of_eq rfl) (hb hby d22_21) (fun _ _ => ⟨rfl, e5, (by decide : 0 + 0 ≤ _), (by decide : 0 + 0 ≤ _)⟩)
    dsimp only [Pt.U, Pt.locs, Pt.cells, Pt.slots] at X6 l6 y6 z6 st6 hQ6
    subst l6 y6 z6
    obtain ⟨rfl, N6q, HQ6⟩ := hQ6
    have N6 := Fr.app N4 N6q
    refine Goes.pre (U' := T6.setTop (mkF m 24 #[.val (.ref a), .val (.int i)] [(.int (cl.getD i.toNatClampNeg 0))])) (fun t k => st6 t k) ?_
    refine Goes.ret X6 (v := (some (.int (cl.getD i.toNatClampNeg 0)))) (fun h => by rw [hret] at h; cases h) hlk (by decide) (by decide) HQ6 (fun fs hr => retN X6 hx (t := .char) hret (by simp) (hb hby d22_24) (by rw [show nar .char (cl.getD i.toNatClampNeg 0) = (cl.getD i.toNatClampNeg 0) from own_nch _ (own_gch cl i h1 h2 hlen hcA)]; exact hr)) ?_
    exact ⟨rfl, N6, rfl⟩
def OwnByt (Z : State) (h : Heap) (b : Addr) (kb : ClassId) (cl : List Int32) : Prop :=
  (Arv Z h b kb .byte (Int32.ofNat cl.length) (cl.map fun c => .int c.toInt8.toInt32) (.int (0 : Int32)) ∧ ∀ c ∈ cl, ¬ ((255 : Int32) < c)) ∨
  (Arv Z h b kb .byte (Int32.ofNat (2 * cl.length)) (cl.flatMap fun c => [.int (c >>> ((0 : Int32) &&& 31)).toInt8.toInt32, .int (c >>> ((8 : Int32) &&& 31)).toInt8.toInt32]) (.int (0 : Int32)) ∧ ∃ c ∈ cl, (255 : Int32) < c)
theorem OwnByt.ext {Z : State} {h h' : Heap} {b : Addr} {kb : ClassId} {cs : List Int32} (F : OwnByt Z h b kb cs) (E : Ext h h') : OwnByt Z h' b kb cs := by
  rcases F with ⟨q1, q2⟩ | ⟨q1, q2⟩
  · exact Or.inl ⟨q1.ext E, q2⟩
  · exact Or.inr ⟨q1.ext E, q2⟩
theorem OwnByt.keep {Z : State} {h h' : Heap} {b : Addr} {kb : ClassId} {cs : List Int32} {ws : List Addr} (F : OwnByt Z h b kb cs) (K : Keep h h' ws) (n1 : b ∉ ws) : OwnByt Z h' b kb cs := by
  rcases F with ⟨q1, q2⟩ | ⟨q1, q2⟩
  · exact Or.inl ⟨q1.keep K n1, q2⟩
  · exact Or.inr ⟨q1.keep K n1, q2⟩
theorem OwnByt.lt {Z : State} {h : Heap} {b : Addr} {kb : ClassId} {cs : List Int32} (F : OwnByt Z h b kb cs) : b < h.size := by
  rcases F with ⟨q1, q2⟩ | ⟨q1, q2⟩ <;> exact q1.lt
theorem own_push {Z : State} {h h' : Heap} {a : Addr} {k : ClassId} {ty : FieldType} {z j : Int32} {vs : List Value} {v dv : Value} {c : Cell} (A : Arr Z h a c ty) (q1 : c.cls = k) (S : c.slots.size = z.toNatClampNeg) (q3 : ¬ z < 0) (H : Has c vs dv) (G : ∀ i, i < c.slots.size → fits ty (vs.getD i dv) = true) (hv : fits ty v = true) (W : Wr h h' a j.toNatClampNeg v) (hj : j.toNatClampNeg = vs.length) : Arv Z h' a k ty z (vs ++ [v]) dv := by
  obtain ⟨c', A', p1, p2, p3, p4, p5⟩ := (show Arv Z h a k ty z vs dv from ⟨c, A, q1, S, q3, H, G⟩).pad (pad_rep vs dv 1)
  obtain rfl : c = c' := Option.some.inj (A.1.symm.trans A'.1)
  have q := Arv.set A' p1 p2 p3 p4 p5 hv W vs.length hj (by simp)
  have e : (vs ++ List.replicate 1 dv).set vs.length v = vs ++ [v] := by simp
  rw [e] at q
  exact q
theorem own_inc (i : Nat) : Int32.ofNat i + (1 : Int32) = Int32.ofNat (i + 1) := (Int32.ofNat_add i 1).symm
theorem own_ixn (i : Nat) (h : i ≤ 8192) : (Int32.ofNat i).toNatClampNeg = i := by
  have a := own_ofn i h
  have b := nat_of (j := Int32.ofNat i) (by rw [Int32.lt_iff_toInt_lt, a, show (0 : Int32).toInt = 0 from by decide]; omega)
  omega
theorem own_ix (i n : Nat) (h : i < n) (hn : n ≤ 8192) : ¬ (Int32.ofNat i < (0 : Int32)) ∧ Int32.ofNat i < Int32.ofNat n := by
  have a := own_ofn i (by omega)
  have b := own_ofn n hn
  rw [Int32.lt_iff_toInt_lt, Int32.lt_iff_toInt_lt, a, b, show (0 : Int32).toInt = 0 from by decide]
  omega
theorem own_neg (n : Nat) (hn : n ≤ 8192) : ¬ (Int32.ofNat n < (0 : Int32)) := by
  have b := own_ofn n hn
  rw [Int32.lt_iff_toInt_lt, b, show (0 : Int32).toInt = 0 from by decide]
  omega
theorem own_lti (i n : Nat) (h : Int32.ofNat i < Int32.ofNat n) (hi : i ≤ n) (hn : n ≤ 8192) : i < n := by
  have a := own_ofn i (by omega)
  have b := own_ofn n hn
  rw [Int32.lt_iff_toInt_lt, a, b] at h
  omega
theorem own_nlti (i n : Nat) (h : ¬ (Int32.ofNat i < Int32.ofNat n)) (hi : i ≤ n) (hn : n ≤ 8192) : i = n := by
  have a := own_ofn i (by omega)
  have b := own_ofn n hn
  rw [Int32.lt_iff_toInt_lt, a, b] at h
  omega
theorem own_nei (i n : Nat) (h : i < n) (hn : n ≤ 8192) : ¬ (Int32.ofNat i = Int32.ofNat n) := fun q => by
  have a := own_ofn i (by omega)
  have b := own_ofn n hn
  rw [q] at a
  omega
theorem own_ne0 (cl : List Int32) (h : cl ≠ []) (hn : cl.length ≤ 8192) : ¬ (Int32.ofNat cl.length = (0 : Int32)) := fun q => by
  have b := own_ofn cl.length hn
  rw [q, show (0 : Int32).toInt = 0 from by decide] at b
  exact h (List.length_eq_zero_iff.mp (by omega))
theorem own_getm (cl : List Int32) (i : Nat) (h : i < cl.length) (hn : cl.length ≤ 8192) : (cl.map Value.int).getD (Int32.ofNat i).toNatClampNeg (.int (0 : Int32)) = .int (cl.getD i 0) := by
  rw [own_ixn i (by omega)]
  simp [List.getD_eq_getElem?_getD, h]
theorem own_tks (cl : List Int32) (i : Nat) (h : i < cl.length) : cl.take i ++ [cl.getD i 0] = cl.take (i + 1) := by
  rw [List.take_add_one, List.getD_eq_getElem?_getD, List.getElem?_eq_getElem h]
  rfl
theorem own_tkm (f : Int32 → Value) (cl : List Int32) (i : Nat) (h : i < cl.length) : (cl.take i).map f ++ [f (cl.getD i 0)] = (cl.take (i + 1)).map f := by
  rw [← own_tks cl i h, List.map_append]
  rfl
theorem own_tkf (f g : Int32 → Value) (cl : List Int32) (i : Nat) (h : i < cl.length) : ((cl.take i).flatMap fun c => [f c, g c]) ++ [f (cl.getD i 0)] ++ [g (cl.getD i 0)] = (cl.take (i + 1)).flatMap fun c => [f c, g c] := by
  rw [← own_tks cl i h, List.flatMap_append]
  simp
theorem own_fml (f g : Int32 → Value) (cl : List Int32) (i : Nat) (h : i ≤ cl.length) : ((cl.take i).flatMap fun c => [f c, g c]).length = 2 * i := by
  have q : ∀ l : List Int32, (l.flatMap fun c => [f c, g c]).length = 2 * l.length := fun l => by
    induction l with
    | nil => rfl
    | cons a l ih => simp only [List.flatMap_cons, List.length_append, ih, List.length_cons, List.length_nil]; omega
  rw [q, List.length_take]
  omega
theorem own_tkl (cl : List Int32) (i : Nat) (h : i < cl.length) (q : ∀ c ∈ cl.take i, ¬ ((255 : Int32) < c)) (r : ¬ ((255 : Int32) < cl.getD i 0)) : ∀ c ∈ cl.take (i + 1), ¬ ((255 : Int32) < c) := by
  rw [← own_tks cl i h]
  intro c hc
  rcases List.mem_append.mp hc with k | k
  · exact q c k
  · rw [List.mem_singleton.mp k]
    exact r
theorem own_gmem (cl : List Int32) (i : Nat) (h : i < cl.length) : cl.getD i 0 ∈ cl := by
  rw [List.getD_eq_getElem?_getD, List.getElem?_eq_getElem h]
  exact List.getElem_mem h
theorem own_shl (n : Nat) (hn : n ≤ 4096) : Int32.ofNat (2 * n) = Int32.ofNat n <<< ((1 : Int32) &&& 31) := by
  have a := c_ishl (Int32.ofNat n) 1 1 (by decide)
  have b := own_ofn n (by omega)
  have d := own_ofn (2 * n) (by omega)
  have r := rng32 (Int32.ofNat n <<< ((1 : Int32) &&& 31))
  apply Int32.toInt_inj.mp
  omega
theorem own_sh1 (i : Nat) (hi : i ≤ 4095) : (Int32.ofNat i <<< ((1 : Int32) &&& 31)) = Int32.ofNat (2 * i) ∧ (Int32.ofNat i <<< ((1 : Int32) &&& 31)) + (1 : Int32) = Int32.ofNat (2 * i + 1) := by
  rw [← own_shl i (by omega)]
  exact ⟨rfl, own_inc _⟩
theorem own_p0 (i n : Nat) (h : 2 * i + 1 < n) (hn : n ≤ 8192) : ¬ ((Int32.ofNat i <<< ((1 : Int32) &&& 31)) < 0) ∧ (Int32.ofNat i <<< ((1 : Int32) &&& 31)) < Int32.ofNat n := by
  rw [(own_sh1 i (by omega)).1]
  exact own_ix _ _ (by omega) hn
theorem own_p1 (i n : Nat) (h : 2 * i + 1 < n) (hn : n ≤ 8192) : ¬ (((Int32.ofNat i <<< ((1 : Int32) &&& 31)) + (1 : Int32)) < 0) ∧ ((Int32.ofNat i <<< ((1 : Int32) &&& 31)) + (1 : Int32)) < Int32.ofNat n := by
  rw [(own_sh1 i (by omega)).2]
  exact own_ix _ _ (by omega) hn
theorem own_c0 : nar .byte ((((Int32.ofNat n - Int32.ofNat n).toUInt32 >>> ((31 : Int32) &&& 31).toUInt32).toInt32).toInt8.toInt32) = (0 : Int32) := by
  rw [Int32.sub_self]
  decide
theorem own_c1 (n : Nat) (h : 0 < n) (hn : n ≤ 4096) : nar .byte ((((Int32.ofNat n - Int32.ofNat (2 * n)).toUInt32 >>> ((31 : Int32) &&& 31).toUInt32).toInt32).toInt8.toInt32) = (1 : Int32) := by
  have a := c_isub (Int32.ofNat n) (Int32.ofNat (2 * n))
  have b := own_ofn n (by omega)
  have d := own_ofn (2 * n) (by omega)
  have r := rng32 (Int32.ofNat n - Int32.ofNat (2 * n))
  have q := c_iushr (Int32.ofNat n - Int32.ofNat (2 * n)) 31 31 (by decide) (by decide)
  have e : ((Int32.ofNat n - Int32.ofNat (2 * n)).toUInt32 >>> ((31 : Int32) &&& 31).toUInt32).toInt32 = (1 : Int32) := by
    apply Int32.toInt_inj.mp
    have k : (1 : Int32).toInt = 1 := by decide
    omega
  rw [e]
  decide
theorem own_cA {c : Int32} {cs : List Int32} (h : OwnCh c) (hs : ∀ x ∈ cs, OwnCh x) : ∀ x ∈ c :: cs, OwnCh x := by
  intro x hx
  rcases List.mem_cons.mp hx with q | q
  · rw [q]; exact h
  · exact hs x q
theorem own_cN : ∀ x ∈ ([] : List Int32), OwnCh x := fun x hx => by cases hx
theorem ef_rm_cmpIG (m : MethodId) (x0 : Addr) (x1 : Int32) (x2 : Addr) (x3 : Int32) (x4 : Int32) : entryFrame m #[(.ref x0), (.int x1), (.ref x2), (.int x3), (.int x4)] 7 = mkF m 0 #[.val (.ref x0), .val (.int x1), .val (.ref x2), .val (.int x3), .val (.int x4), .unset, .unset] [] := by first | (simp [entryFrame, mkF, argsToLocals, Value.category]; done) | rfl
abbrev M14 : MethodName := ⟨"java/lang/StringUTF16", "compress", "([CI[BII)I"⟩
theorem d14_0 : decode jdk_52_method_21_code 0 = .ok (.iconst 0, 1) := by decide +kernel
theorem d14_1 : decode jdk_52_method_21_code 1 = .ok (.istore 5, 2) := by decide +kernel
theorem d14_3 : decode jdk_52_method_21_code 3 = .ok (.iload 5, 2) := by decide +kernel
theorem d14_5 : decode jdk_52_method_21_code 5 = .ok (.iload 4, 2) := by decide +kernel
theorem d14_7 : decode jdk_52_method_21_code 7 = .ok (.if_icmp .ge 37, 3) := by decide +kernel
theorem d14_10 : decode jdk_52_method_21_code 10 = .ok (.aload_n 0, 1) := by decide +kernel
theorem d14_11 : decode jdk_52_method_21_code 11 = .ok (.iload_n 1, 1) := by decide +kernel
theorem d14_12 : decode jdk_52_method_21_code 12 = .ok (.caload, 1) := by decide +kernel
theorem d14_13 : decode jdk_52_method_21_code 13 = .ok (.istore 6, 2) := by decide +kernel
theorem d14_15 : decode jdk_52_method_21_code 15 = .ok (.iload 6, 2) := by decide +kernel
theorem d14_17 : decode jdk_52_method_21_code 17 = .ok (.sipush 255, 3) := by decide +kernel
theorem d14_20 : decode jdk_52_method_21_code 20 = .ok (.if_icmp .le 6, 3) := by decide +kernel
theorem d14_23 : decode jdk_52_method_21_code 23 = .ok (.iload 5, 2) := by decide +kernel
theorem d14_25 : decode jdk_52_method_21_code 25 = .ok (.ireturn, 1) := by decide +kernel
theorem d14_26 : decode jdk_52_method_21_code 26 = .ok (.aload_n 2, 1) := by decide +kernel
theorem d14_27 : decode jdk_52_method_21_code 27 = .ok (.iload_n 3, 1) := by decide +kernel
theorem d14_28 : decode jdk_52_method_21_code 28 = .ok (.iload 6, 2) := by decide +kernel
theorem d14_30 : decode jdk_52_method_21_code 30 = .ok (.i2b, 1) := by decide +kernel
theorem d14_31 : decode jdk_52_method_21_code 31 = .ok (.bastore, 1) := by decide +kernel
theorem d14_32 : decode jdk_52_method_21_code 32 = .ok (.iinc 1 1, 3) := by decide +kernel
theorem d14_35 : decode jdk_52_method_21_code 35 = .ok (.iinc 3 1, 3) := by decide +kernel
theorem d14_38 : decode jdk_52_method_21_code 38 = .ok (.iinc 5 1, 3) := by decide +kernel
theorem d14_41 : decode jdk_52_method_21_code 41 = .ok (.goto (-38), 3) := by decide +kernel
theorem d14_44 : decode jdk_52_method_21_code 44 = .ok (.iload 4, 2) := by decide +kernel
theorem d14_46 : decode jdk_52_method_21_code 46 = .ok (.ireturn, 1) := by decide +kernel
def Q_rm_cmpIG (Z : State) (d : Addr) (kd : ClassId) (b : Addr) (kb : ClassId) (cl : List Int32) (h0 : Heap) (n0 : Nat) (v : Option Value) (h : Heap) (L : List Loc) : Prop := ∃ (j : Nat) (vs : List Value), v = some (.int (Int32.ofNat j)) ∧ Fr n0 L ∧ Keep h0 h [b] ∧ Arv Z h b kb .byte (Int32.ofNat cl.length) vs (.int (0 : Int32)) ∧ ((j = cl.length ∧ vs = (cl.map fun c => .int c.toInt8.toInt32) ∧ ∀ c ∈ cl, ¬ ((255 : Int32) < c)) ∨ (j < cl.length ∧ (255 : Int32) < cl.getD j 0))
set_option maxRecDepth 65536 in
set_option maxHeartbeats 40000000 in
theorem rm_cmpIG (l : Launch) (Z : State) (a0 : Array Value) (hw : ∀ d ∈ tables_1, d.before a0 Z = true) (ws : List Jvm.Cond) (d : Addr) (kd : ClassId) (b : Addr) (kb : ClassId) (cl : List Int32) (h0 : Heap) (n0 : Nat) (Z0 : n0 ≤ h0.size) (V_d : Arv Z h0 d kd .char (Int32.ofNat cl.length) (cl.map Value.int) (.int (0 : Int32))) (V_b : Arv Z h0 b kb .byte (Int32.ofNat cl.length) [] (.int (0 : Int32))) (hlen : cl.length ≤ 4) (ne_d_b : d ≠ b) (g_b : n0 ≤ b) :
    Met l Z M14 jdk_52_method_21_code 7 (some .int) ws (Rm 0 0 0 0) #[(.ref d), (.int (0 : Int32)), (.ref b), (.int (0 : Int32)), (.int (Int32.ofNat cl.length))] h0 (Q_rm_cmpIG Z d kd b kb cl h0 n0) := by
  refine met_of (plainFor_of_name pn_java_lang_StringUTF16) (own := "java/lang/StringUTF16") rfl (fun m => ef_rm_cmpIG m d (0 : Int32) b (0 : Int32) (Int32.ofNat cl.length)) ?_
  intro p e s m below meth c s₁ hx hby hml hown hnm hZ X0 e0 hret hlk
  have N0 := Fr.nil n0
  have K0 := Keep.refl h0 [b]
  show Goes p e below s _ _ _ (s₁.setTop (mkF m 0 #[.val (.ref d), .val (.int (0 : Int32)), .val (.ref b), .val (.int (0 : Int32)), .val (.int (Int32.ofNat cl.length)), .unset, .unset] []))
  refine Goes.pre (U' := s₁.setTop (mkF m 3 #[.val (.ref d), .val (.int (0 : Int32)), .val (.ref b), .val (.int (0 : Int32)), .val (.int (Int32.ofNat cl.length)), .val (.int (0 : Int32)), .unset] [])) (fun t k => XS.iconst X0.here hx rfl (hb hby d14_0) (XS.istore X0.here hx rfl (hb hby d14_1) rfl (l' := #[.val (.ref d), .val (.int (0 : Int32)), .val (.ref b), .val (.int (0 : Int32)), .val (.int (Int32.ofNat cl.length)), .val (.int (0 : Int32)), .unset]) rfl k)) ?_
  have J3_1 : ∀ (kk : Nat) (i : Nat) (sl : Slot) (hs : sl = .unset ∨ ∃ z, sl = .val (.int z)) (hi : i ≤ cl.length) (hl : ∀ c ∈ cl.take i, ¬ ((255 : Int32) < c)) (hm : cl.length - i = kk) (T1 : State) (h1 : Heap) (lc1 : List Loc), Stand p l e (Rm 0 0 0 0) s m #[(.ref d), (.int (0 : Int32)), (.ref b), (.int (0 : Int32)), (.int (Int32.ofNat cl.length))] below meth c T1 lc1 0 0 → T1.heap = h1 → Fr n0 lc1 → n0 ≤ h1.size → Keep h0 h1 [b] → Arv Z h1 d kd .char (Int32.ofNat cl.length) (cl.map Value.int) (.int (0 : Int32)) → Arv Z h1 b kb .byte (Int32.ofNat cl.length) ((cl.take i).map fun c => .int c.toInt8.toInt32) (.int (0 : Int32)) → Goes p e below s (Q_rm_cmpIG Z d kd b kb cl h0 n0) (Rm 0 0 0 0).cells (Rm 0 0 0 0).slots (T1.setTop (mkF m 3 #[.val (.ref d), .val (.int (Int32.ofNat i)), .val (.ref b), .val (.int (Int32.ofNat i)), .val (.int (Int32.ofNat cl.length)), .val (.int (Int32.ofNat i)), sl] [])) := by
    intro kk
    induction kk using Nat.strongRecOn with
    | ind kk ih =>
      intro i sl hs hi hl hm T1 h1 lc1 X1 e1 N1 Z1 K1 V_d V_b
      rcases hs with rfl | ⟨z6, rfl⟩
      ·
        refine Goes.pre (U' := T1.setTop (mkF m 7 #[.val (.ref d), .val (.int (Int32.ofNat i)), .val (.ref b), .val (.int (Int32.ofNat i)), .val (.int (Int32.ofNat cl.length)), .val (.int (Int32.ofNat i)), .unset] [(.int (Int32.ofNat cl.length)), (.int (Int32.ofNat i))])) (fun t k => XS.iload X1.here hx rfl (hb hby d14_3) rfl (XS.iload X1.here hx rfl (hb hby d14_5) rfl k)) ?_
        by_cases hc7 : (Int32.ofNat i) < (Int32.ofNat cl.length)
        ·
          refine Goes.pre (U' := T1.setTop (mkF m 12 #[.val (.ref d), .val (.int (Int32.ofNat i)), .val (.ref b), .val (.int (Int32.ofNat i)), .val (.int (Int32.ofNat cl.length)), .val (.int (Int32.ofNat i)), .unset] [(.int (Int32.ofNat i)), (.ref d)])) (fun t k => XS.icmpNo X1.here hx rfl (hb hby d14_7) rfl (tlt hc7).2.1 (XS.aloadN X1.here hx rfl (hb hby d14_10) rfl rfl (XS.iloadN X1.here hx rfl (hb hby d14_11) rfl k))) ?_
          obtain ⟨cl2, Ar2, q2, Sz2, Ng2, Hs2, Ft2⟩ := id V_d
          have hin2 := inb_of (j := (Int32.ofNat i)) Sz2 (own_ix i _ (own_lti _ _ hc7 hi (Nat.le_trans hlen (by decide))) (Nat.le_trans hlen (by decide)))
          refine Goes.pre (U' := T1.setTop (mkF m 20 #[.val (.ref d), .val (.int (Int32.ofNat i)), .val (.ref b), .val (.int (Int32.ofNat i)), .val (.int (Int32.ofNat cl.length)), .val (.int (Int32.ofNat i)), .val (.int (cl.getD i 0))] [(.int (255 : Int32)), (.int (cl.getD i 0))])) (fun t k => X1.caload hx (j := (Int32.ofNat i)) (v := (.int (cl.getD i 0))) (by rw [e1]; exact Ar2.1) (State.isArrayOf_alike hZ.alike Ar2.2.1) Ar2.2.2 hin2 (Has.at Hs2 hin2 (own_getm cl i (own_lti _ _ hc7 hi (Nat.le_trans hlen (by decide))) (Nat.le_trans hlen (by decide)))) (g := (mkF m 12 #[.val (.ref d), .val (.int (Int32.ofNat i)), .val (.ref b), .val (.int (Int32.ofNat i)), .val (.int (Int32.ofNat cl.length)), .val (.int (Int32.ofNat i)), .unset] [(.int (Int32.ofNat i)), (.ref d)])) rfl rfl (hb hby d14_12) _ (XS.istore X1.here hx rfl (hb hby d14_13) rfl (l' := #[.val (.ref d), .val (.int (Int32.ofNat i)), .val (.ref b), .val (.int (Int32.ofNat i)), .val (.int (Int32.ofNat cl.length)), .val (.int (Int32.ofNat i)), .val (.int (cl.getD i 0))]) rfl (XS.iload X1.here hx rfl (hb hby d14_15) rfl (XS.sipush X1.here hx rfl (hb hby d14_17) k)))) ?_
          by_cases hc20 : (255 : Int32) < (cl.getD i 0)
          ·
            refine Goes.pre (U' := T1.setTop (mkF m 25 #[.val (.ref d), .val (.int (Int32.ofNat i)), .val (.ref b), .val (.int (Int32.ofNat i)), .val (.int (Int32.ofNat cl.length)), .val (.int (Int32.ofNat i)), .val (.int (cl.getD i 0))] [(.int (Int32.ofNat i))])) (fun t k => XS.icmpNo X1.here hx rfl (hb hby d14_20) rfl (tlt hc20).2.2.2 (XS.iload X1.here hx rfl (hb hby d14_23) rfl k)) ?_
            refine Goes.ret X1 (v := (some (.int (Int32.ofNat i)))) (fun h => by rw [hret] at h; cases h) hlk (by decide) (by decide) e1 (fun fs hr => retI X1 hx hret (hb hby d14_25) hr) ?_
            exact ⟨i, _, rfl, N1, K1, V_b, Or.inr ⟨own_lti _ _ hc7 hi (Nat.le_trans hlen (by decide)), hc20⟩⟩
          ·
            refine Goes.pre (U' := T1.setTop (mkF m 31 #[.val (.ref d), .val (.int (Int32.ofNat i)), .val (.ref b), .val (.int (Int32.ofNat i)), .val (.int (Int32.ofNat cl.length)), .val (.int (Int32.ofNat i)), .val (.int (cl.getD i 0))] [(.int ((cl.getD i 0).toInt8.toInt32)), (.int (Int32.ofNat i)), (.ref b)])) (fun t k => XS.icmpYes X1.here hx rfl (pc0 := 20) (pc' := 26) rfl (hb hby d14_20) rfl (flt hc20).2.2.2 (by decide) (by decide) (XS.aloadN X1.here hx rfl (hb hby d14_26) rfl rfl (XS.iloadN X1.here hx rfl (hb hby d14_27) rfl (XS.iload X1.here hx rfl (hb hby d14_28) rfl (XS.i2b X1.here hx rfl (hb hby d14_30) rfl k))))) ?_
            obtain ⟨cl3, Ar3, q3, Sz3, Ng3, Hs3, Ft3⟩ := id V_b
            obtain ⟨T3, h3, X3, e3, W3, st3⟩ := stB X1 hx hZ e1 Ar3 (j := (Int32.ofNat i)) (inb_of Sz3 (own_ix i _ (own_lti _ _ hc7 hi (Nat.le_trans hlen (by decide))) (Nat.le_trans hlen (by decide)))) (g := (mkF m 31 #[.val (.ref d), .val (.int (Int32.ofNat i)), .val (.ref b), .val (.int (Int32.ofNat i)), .val (.int (Int32.ofNat cl.length)), .val (.int (Int32.ofNat i)), .val (.int (cl.getD i 0))] [(.int ((cl.getD i 0).toInt8.toInt32)), (.int (Int32.ofNat i)), (.ref b)])) rfl rfl (hb hby d14_31)
            have nr3 : nar .byte ((cl.getD i 0).toInt8.toInt32) = ((cl.getD i 0).toInt8.toInt32) := own_bb _
            have ft3 : fits .byte (.int ((cl.getD i 0).toInt8.toInt32)) = true := nr3 ▸ (fits_nar_byte ((cl.getD i 0).toInt8.toInt32) : fits .byte (.int (nar .byte ((cl.getD i 0).toInt8.toInt32))) = true)
            rw [nr3] at W3
            have V_d := V_d.other W3 ne_d_b
            have Z3 : n0 ≤ h3.size := Nat.le_trans Z1 (Keep.of_wr W3).1
            have V_b : Arv Z h3 b kb .byte (Int32.ofNat cl.length) (((cl.take i).map fun c => .int c.toInt8.toInt32) ++ [.int ((cl.getD i 0).toInt8.toInt32)]) (.int (0 : Int32)) := own_push Ar3 q3 Sz3 Ng3 Hs3 Ft3 ft3 W3 (by rw [own_ixn i (Nat.le_trans hi (Nat.le_trans hlen (by decide))), List.length_map, List.length_take, Nat.min_eq_left hi])
            have K3 := K1.wr W3 (Or.inl (List.mem_of_getElem? (i := 0) rfl))
            have N3 := Fr.snoc X3 N1 g_b
            refine Goes.pre (U' := T3.setTop (mkF m 41 #[.val (.ref d), .val (.int ((Int32.ofNat i) + (1 : Int32))), .val (.ref b), .val (.int ((Int32.ofNat i) + (1 : Int32))), .val (.int (Int32.ofNat cl.length)), .val (.int ((Int32.ofNat i) + (1 : Int32))), .val (.int (cl.getD i 0))] [])) (fun t k => st3 t (XT.iincV X3.here hx rfl (1 : Int32) (hb hby d14_32) (by decide) rfl (l' := #[.val (.ref d), .val (.int ((Int32.ofNat i) + (1 : Int32))), .val (.ref b), .val (.int (Int32.ofNat i)), .val (.int (Int32.ofNat cl.length)), .val (.int (Int32.ofNat i)), .val (.int (cl.getD i 0))]) rfl (XT.iincV X3.here hx rfl (1 : Int32) (hb hby d14_35) (by decide) rfl (l' := #[.val (.ref d), .val (.int ((Int32.ofNat i) + (1 : Int32))), .val (.ref b), .val (.int ((Int32.ofNat i) + (1 : Int32))), .val (.int (Int32.ofNat cl.length)), .val (.int (Int32.ofNat i)), .val (.int (cl.getD i 0))]) rfl (XT.iincV X3.here hx rfl (1 : Int32) (hb hby d14_38) (by decide) rfl (l' := #[.val (.ref d), .val (.int ((Int32.ofNat i) + (1 : Int32))), .val (.ref b), .val (.int ((Int32.ofNat i) + (1 : Int32))), .val (.int (Int32.ofNat cl.length)), .val (.int ((Int32.ofNat i) + (1 : Int32))), .val (.int (cl.getD i 0))]) rfl k)))) ?_
            rw [own_inc]
            have V_b : Arv Z h3 b kb .byte (Int32.ofNat cl.length) ((cl.take (i + 1)).map fun c => .int c.toInt8.toInt32) (.int (0 : Int32)) := own_tkm (fun c => .int c.toInt8.toInt32) cl i (own_lti _ _ hc7 hi (Nat.le_trans hlen (by decide))) ▸ V_b
            refine Goes.pre (U' := T3.setTop (mkF m 3 #[.val (.ref d), .val (.int (Int32.ofNat (i + 1))), .val (.ref b), .val (.int (Int32.ofNat (i + 1))), .val (.int (Int32.ofNat cl.length)), .val (.int (Int32.ofNat (i + 1))), .val (.int (cl.getD i 0))] [])) (fun t k => XS.goto X3.here hx rfl (pc0 := 41) (pc' := 3) rfl (hb hby d14_41) (by decide) (by decide) k) ?_
            exact ih _ (by have := own_lti _ _ hc7 hi (Nat.le_trans hlen (by decide)); omega) (i + 1) _ (Or.inr ⟨_, rfl⟩) (own_lti _ _ hc7 hi (Nat.le_trans hlen (by decide))) (own_tkl cl i (own_lti _ _ hc7 hi (Nat.le_trans hlen (by decide))) hl hc20) rfl _ _ _ X3 e3 N3 Z3 K3 V_d V_b
        ·
          refine Goes.pre (U' := T1.setTop (mkF m 46 #[.val (.ref d), .val (.int (Int32.ofNat i)), .val (.ref b), .val (.int (Int32.ofNat i)), .val (.int (Int32.ofNat cl.length)), .val (.int (Int32.ofNat i)), .unset] [(.int (Int32.ofNat cl.length))])) (fun t k => XS.icmpYes X1.here hx rfl (pc0 := 7) (pc' := 44) rfl (hb hby d14_7) rfl (flt hc7).2.1 (by decide) (by decide) (XS.iload X1.here hx rfl (hb hby d14_44) rfl k)) ?_
          refine Goes.ret X1 (v := (some (.int (Int32.ofNat cl.length)))) (fun h => by rw [hret] at h; cases h) hlk (by decide) (by decide) e1 (fun fs hr => retI X1 hx hret (hb hby d14_46) hr) ?_
          obtain rfl := own_nlti _ _ hc7 hi (Nat.le_trans hlen (by decide))
          rw [List.take_length] at V_b hl
          exact ⟨cl.length, _, rfl, N1, K1, V_b, Or.inl ⟨rfl, rfl, hl⟩⟩
      ·
        refine Goes.pre (U' := T1.setTop (mkF m 7 #[.val (.ref d), .val (.int (Int32.ofNat i)), .val (.ref b), .val (.int (Int32.ofNat i)), .val (.int (Int32.ofNat cl.length)), .val (.int (Int32.ofNat i)), .val (.int z6)] [(.int (Int32.ofNat cl.length)), (.int (Int32.ofNat i))])) (fun t k => XS.iload X1.here hx rfl (hb hby d14_3) rfl (XS.iload X1.here hx rfl (hb hby d14_5) rfl k)) ?_
        by_cases hc7 : (Int32.ofNat i) < (Int32.ofNat cl.length)
        ·
          refine Goes.pre (U' := T1.setTop (mkF m 12 #[.val (.ref d), .val (.int (Int32.ofNat i)), .val (.ref b), .val (.int (Int32.ofNat i)), .val (.int (Int32.ofNat cl.length)), .val (.int (Int32.ofNat i)), .val (.int z6)] [(.int (Int32.ofNat i)), (.ref d)])) (fun t k => XS.icmpNo X1.here hx rfl (hb hby d14_7) rfl (tlt hc7).2.1 (XS.aloadN X1.here hx rfl (hb hby d14_10) rfl rfl (XS.iloadN X1.here hx rfl (hb hby d14_11) rfl k))) ?_
          obtain ⟨cl4, Ar4, q4, Sz4, Ng4, Hs4, Ft4⟩ := id V_d
          have hin4 := inb_of (j := (Int32.ofNat i)) Sz4 (own_ix i _ (own_lti _ _ hc7 hi (Nat.le_trans hlen (by decide))) (Nat.le_trans hlen (by decide)))
          refine Goes.pre (U' := T1.setTop (mkF m 20 #[.val (.ref d), .val (.int (Int32.ofNat i)), .val (.ref b), .val (.int (Int32.ofNat i)), .val (.int (Int32.ofNat cl.length)), .val (.int (Int32.ofNat i)), .val (.int (cl.getD i 0))] [(.int (255 : Int32)), (.int (cl.getD i 0))])) (fun t k => X1.caload hx (j := (Int32.ofNat i)) (v := (.int (cl.getD i 0))) (by rw [e1]; exact Ar4.1) (State.isArrayOf_alike hZ.alike Ar4.2.1) Ar4.2.2 hin4 (Has.at Hs4 hin4 (own_getm cl i (own_lti _ _ hc7 hi (Nat.le_trans hlen (by decide))) (Nat.le_trans hlen (by decide)))) (g := (mkF m 12 #[.val (.ref d), .val (.int (Int32.ofNat i)), .val (.ref b), .val (.int (Int32.ofNat i)), .val (.int (Int32.ofNat cl.length)), .val (.int (Int32.ofNat i)), .val (.int z6)] [(.int (Int32.ofNat i)), (.ref d)])) rfl rfl (hb hby d14_12) _ (XS.istore X1.here hx rfl (hb hby d14_13) rfl (l' := #[.val (.ref d), .val (.int (Int32.ofNat i)), .val (.ref b), .val (.int (Int32.ofNat i)), .val (.int (Int32.ofNat cl.length)), .val (.int (Int32.ofNat i)), .val (.int (cl.getD i 0))]) rfl (XS.iload X1.here hx rfl (hb hby d14_15) rfl (XS.sipush X1.here hx rfl (hb hby d14_17) k)))) ?_
          by_cases hc20 : (255 : Int32) < (cl.getD i 0)
          ·
            refine Goes.pre (U' := T1.setTop (mkF m 25 #[.val (.ref d), .val (.int (Int32.ofNat i)), .val (.ref b), .val (.int (Int32.ofNat i)), .val (.int (Int32.ofNat cl.length)), .val (.int (Int32.ofNat i)), .val (.int (cl.getD i 0))] [(.int (Int32.ofNat i))])) (fun t k => XS.icmpNo X1.here hx rfl (hb hby d14_20) rfl (tlt hc20).2.2.2 (XS.iload X1.here hx rfl (hb hby d14_23) rfl k)) ?_
            refine Goes.ret X1 (v := (some (.int (Int32.ofNat i)))) (fun h => by rw [hret] at h; cases h) hlk (by decide) (by decide) e1 (fun fs hr => retI X1 hx hret (hb hby d14_25) hr) ?_
            exact ⟨i, _, rfl, N1, K1, V_b, Or.inr ⟨own_lti _ _ hc7 hi (Nat.le_trans hlen (by decide)), hc20⟩⟩
          ·
            refine Goes.pre (U' := T1.setTop (mkF m 31 #[.val (.ref d), .val (.int (Int32.ofNat i)), .val (.ref b), .val (.int (Int32.ofNat i)), .val (.int (Int32.ofNat cl.length)), .val (.int (Int32.ofNat i)), .val (.int (cl.getD i 0))] [(.int ((cl.getD i 0).toInt8.toInt32)), (.int (Int32.ofNat i)), (.ref b)])) (fun t k => XS.icmpYes X1.here hx rfl (pc0 := 20) (pc' := 26) rfl (hb hby d14_20) rfl (flt hc20).2.2.2 (by decide) (by decide) (XS.aloadN X1.here hx rfl (hb hby d14_26) rfl rfl (XS.iloadN X1.here hx rfl (hb hby d14_27) rfl (XS.iload X1.here hx rfl (hb hby d14_28) rfl (XS.i2b X1.here hx rfl (hb hby d14_30) rfl k))))) ?_
            obtain ⟨cl5, Ar5, q5, Sz5, Ng5, Hs5, Ft5⟩ := id V_b
            obtain ⟨T5, h5, X5, e5, W5, st5⟩ := stB X1 hx hZ e1 Ar5 (j := (Int32.ofNat i)) (inb_of Sz5 (own_ix i _ (own_lti _ _ hc7 hi (Nat.le_trans hlen (by decide))) (Nat.le_trans hlen (by decide)))) (g := (mkF m 31 #[.val (.ref d), .val (.int (Int32.ofNat i)), .val (.ref b), .val (.int (Int32.ofNat i)), .val (.int (Int32.ofNat cl.length)), .val (.int (Int32.ofNat i)), .val (.int (cl.getD i 0))] [(.int ((cl.getD i 0).toInt8.toInt32)), (.int (Int32.ofNat i)), (.ref b)])) rfl rfl (hb hby d14_31)
            have nr5 : nar .byte ((cl.getD i 0).toInt8.toInt32) = ((cl.getD i 0).toInt8.toInt32) := own_bb _
            have ft5 : fits .byte (.int ((cl.getD i 0).toInt8.toInt32)) = true := nr5 ▸ (fits_nar_byte ((cl.getD i 0).toInt8.toInt32) : fits .byte (.int (nar .byte ((cl.getD i 0).toInt8.toInt32))) = true)
            rw [nr5] at W5
            have V_d := V_d.other W5 ne_d_b
            have Z5 : n0 ≤ h5.size := Nat.le_trans Z1 (Keep.of_wr W5).1
            have V_b : Arv Z h5 b kb .byte (Int32.ofNat cl.length) (((cl.take i).map fun c => .int c.toInt8.toInt32) ++ [.int ((cl.getD i 0).toInt8.toInt32)]) (.int (0 : Int32)) := own_push Ar5 q5 Sz5 Ng5 Hs5 Ft5 ft5 W5 (by rw [own_ixn i (Nat.le_trans hi (Nat.le_trans hlen (by decide))), List.length_map, List.length_take, Nat.min_eq_left hi])
            have K5 := K1.wr W5 (Or.inl (List.mem_of_getElem? (i := 0) rfl))
            have N5 := Fr.snoc X5 N1 g_b
            refine Goes.pre (U' := T5.setTop (mkF m 41 #[.val (.ref d), .val (.int ((Int32.ofNat i) + (1 : Int32))), .val (.ref b), .val (.int ((Int32.ofNat i) + (1 : Int32))), .val (.int (Int32.ofNat cl.length)), .val (.int ((Int32.ofNat i) + (1 : Int32))), .val (.int (cl.getD i 0))] [])) (fun t k => st5 t (XT.iincV X5.here hx rfl (1 : Int32) (hb hby d14_32) (by decide) rfl (l' := #[.val (.ref d), .val (.int ((Int32.ofNat i) + (1 : Int32))), .val (.ref b), .val (.int (Int32.ofNat i)), .val (.int (Int32.ofNat cl.length)), .val (.int (Int32.ofNat i)), .val (.int (cl.getD i 0))]) rfl (XT.iincV X5.here hx rfl (1 : Int32) (hb hby d14_35) (by decide) rfl (l' := #[.val (.ref d), .val (.int ((Int32.ofNat i) + (1 : Int32))), .val (.ref b), .val (.int ((Int32.ofNat i) + (1 : Int32))), .val (.int (Int32.ofNat cl.length)), .val (.int (Int32.ofNat i)), .val (.int (cl.getD i 0))]) rfl (XT.iincV X5.here hx rfl (1 : Int32) (hb hby d14_38) (by decide) rfl (l' := #[.val (.ref d), .val (.int ((Int32.ofNat i) + (1 : Int32))), .val (.ref b), .val (.int ((Int32.ofNat i) + (1 : Int32))), .val (.int (Int32.ofNat cl.length)), .val (.int ((Int32.ofNat i) + (1 : Int32))), .val (.int (cl.getD i 0))]) rfl k)))) ?_
            rw [own_inc]
            have V_b : Arv Z h5 b kb .byte (Int32.ofNat cl.length) ((cl.take (i + 1)).map fun c => .int c.toInt8.toInt32) (.int (0 : Int32)) := own_tkm (fun c => .int c.toInt8.toInt32) cl i (own_lti _ _ hc7 hi (Nat.le_trans hlen (by decide))) ▸ V_b
            refine Goes.pre (U' := T5.setTop (mkF m 3 #[.val (.ref d), .val (.int (Int32.ofNat (i + 1))), .val (.ref b), .val (.int (Int32.ofNat (i + 1))), .val (.int (Int32.ofNat cl.length)), .val (.int (Int32.ofNat (i + 1))), .val (.int (cl.getD i 0))] [])) (fun t k => XS.goto X5.here hx rfl (pc0 := 41) (pc' := 3) rfl (hb hby d14_41) (by decide) (by decide) k) ?_
            exact ih _ (by have := own_lti _ _ hc7 hi (Nat.le_trans hlen (by decide)); omega) (i + 1) _ (Or.inr ⟨_, rfl⟩) (own_lti _ _ hc7 hi (Nat.le_trans hlen (by decide))) (own_tkl cl i (own_lti _ _ hc7 hi (Nat.le_trans hlen (by decide))) hl hc20) rfl _ _ _ X5 e5 N5 Z5 K5 V_d V_b
        ·
          refine Goes.pre (U' := T1.setTop (mkF m 46 #[.val (.ref d), .val (.int (Int32.ofNat i)), .val (.ref b), .val (.int (Int32.ofNat i)), .val (.int (Int32.ofNat cl.length)), .val (.int (Int32.ofNat i)), .val (.int z6)] [(.int (Int32.ofNat cl.length))])) (fun t k => XS.icmpYes X1.here hx rfl (pc0 := 7) (pc' := 44) rfl (hb hby d14_7) rfl (flt hc7).2.1 (by decide) (by decide) (XS.iload X1.here hx rfl (hb hby d14_44) rfl k)) ?_
          refine Goes.ret X1 (v := (some (.int (Int32.ofNat cl.length)))) (fun h => by rw [hret] at h; cases h) hlk (by decide) (by decide) e1 (fun fs hr => retI X1 hx hret (hb hby d14_46) hr) ?_
          obtain rfl := own_nlti _ _ hc7 hi (Nat.le_trans hlen (by decide))
          rw [List.take_length] at V_b hl
          exact ⟨cl.length, _, rfl, N1, K1, V_b, Or.inl ⟨rfl, rfl, hl⟩⟩
  exact J3_1 _ 0 _ (Or.inl rfl) (Nat.zero_le _) (by intro c hc; cases hc) rfl _ _ _ X0 e0 N0 Z0 K0 V_d V_b
theorem ef_rm_putG (m : MethodId) (x0 : Addr) (x1 : Int32) (x2 : Int32) : entryFrame m #[(.ref x0), (.int x1), (.int x2)] 3 = mkF m 0 #[.val (.ref x0), .val (.int x1), .val (.int x2)] [] := by first | (simp [entryFrame, mkF, argsToLocals, Value.category]; done) | rfl
abbrev M18 : MethodName := ⟨"java/lang/StringUTF16", "putChar", "([BII)V"⟩
theorem d18_0 : decode jdk_52_method_4_code 0 = .ok (.getstatic 44, 3) := by decide +kernel
theorem d18_3 : decode jdk_52_method_4_code 3 = .ok (.ifCond .ne 25, 3) := by decide +kernel
theorem d18_28 : decode jdk_52_method_4_code 28 = .ok (.iload_n 1, 1) := by decide +kernel
theorem d18_29 : decode jdk_52_method_4_code 29 = .ok (.iconst 1, 1) := by decide +kernel
theorem d18_30 : decode jdk_52_method_4_code 30 = .ok (.ishl, 1) := by decide +kernel
theorem d18_31 : decode jdk_52_method_4_code 31 = .ok (.istore_n 1, 1) := by decide +kernel
theorem d18_32 : decode jdk_52_method_4_code 32 = .ok (.aload_n 0, 1) := by decide +kernel
theorem d18_33 : decode jdk_52_method_4_code 33 = .ok (.iload_n 1, 1) := by decide +kernel
theorem d18_34 : decode jdk_52_method_4_code 34 = .ok (.iinc 1 1, 3) := by decide +kernel
theorem d18_37 : decode jdk_52_method_4_code 37 = .ok (.iload_n 2, 1) := by decide +kernel
theorem d18_38 : decode jdk_52_method_4_code 38 = .ok (.getstatic 59, 3) := by decide +kernel
theorem d18_41 : decode jdk_52_method_4_code 41 = .ok (.ishr, 1) := by decide +kernel
theorem d18_42 : decode jdk_52_method_4_code 42 = .ok (.i2b, 1) := by decide +kernel
theorem d18_43 : decode jdk_52_method_4_code 43 = .ok (.bastore, 1) := by decide +kernel
theorem d18_44 : decode jdk_52_method_4_code 44 = .ok (.aload_n 0, 1) := by decide +kernel
theorem d18_45 : decode jdk_52_method_4_code 45 = .ok (.iload_n 1, 1) := by decide +kernel
theorem d18_46 : decode jdk_52_method_4_code 46 = .ok (.iload_n 2, 1) := by decide +kernel
theorem d18_47 : decode jdk_52_method_4_code 47 = .ok (.getstatic 63, 3) := by decide +kernel
theorem d18_50 : decode jdk_52_method_4_code 50 = .ok (.ishr, 1) := by decide +kernel
theorem d18_51 : decode jdk_52_method_4_code 51 = .ok (.i2b, 1) := by decide +kernel
theorem d18_52 : decode jdk_52_method_4_code 52 = .ok (.bastore, 1) := by decide +kernel
theorem d18_53 : decode jdk_52_method_4_code 53 = .ok (.return_, 1) := by decide +kernel
def Q_rm_putG (Z : State) (b : Addr) (kb : ClassId) (vs : List Value) (n : Nat) (q : Int32) (i : Nat) (h0 : Heap) (n0 : Nat) (v : Option Value) (h : Heap) (L : List Loc) : Prop := v = none ∧ Fr n0 L ∧ Keep h0 h [b] ∧ Arv Z h b kb .byte (Int32.ofNat n) ((vs ++ [.int (q >>> ((0 : Int32) &&& 31)).toInt8.toInt32]) ++ [.int (q >>> ((8 : Int32) &&& 31)).toInt8.toInt32]) (.int (0 : Int32))
set_option maxRecDepth 65536 in
set_option maxHeartbeats 40000000 in
theorem rm_putG (l : Launch) (Z : State) (a0 : Array Value) (hw : ∀ d ∈ tables_1, d.before a0 Z = true) (ws : List Jvm.Cond) (b : Addr) (kb : ClassId) (vs : List Value) (n : Nat) (q : Int32) (i : Nat) (h0 : Heap) (n0 : Nat) (Z0 : n0 ≤ h0.size) (V_b : Arv Z h0 b kb .byte (Int32.ofNat n) vs (.int (0 : Int32))) (S__assertionsDisabled : Sta Z Z.heap "java/lang/StringUTF16" "$assertionsDisabled" "Z" (.int (1 : Int32))) (S_HI_BYTE_SHIFT : Sta Z Z.heap "java/lang/StringUTF16" "HI_BYTE_SHIFT" "I" (.int (0 : Int32))) (S_LO_BYTE_SHIFT : Sta Z Z.heap "java/lang/StringUTF16" "LO_BYTE_SHIFT" "I" (.int (8 : Int32))) (hv : vs.length = 2 * i) (hn : 2 * i + 1 < n) (hbg : n ≤ 8192) (g_b : n0 ≤ b) (O : Old Z n0 h0) :
    Met l Z M18 jdk_52_method_4_code 3 none ws (Rm 0 0 0 0) #[(.ref b), (.int (Int32.ofNat i)), (.int q)] h0 (Q_rm_putG Z b kb vs n q i h0 n0) := by
  refine met_of (plainFor_of_name pn_java_lang_StringUTF16) (own := "java/lang/StringUTF16") rfl (fun m => ef_rm_putG m b (Int32.ofNat i) q) ?_
  intro p e s m below meth c s₁ hx hby hml hown hnm hZ X0 e0 hret hlk
  have N0 := Fr.nil n0
  have K0 := Keep.refl h0 [b]
  show Goes p e below s _ _ _ (s₁.setTop (mkF m 0 #[.val (.ref b), .val (.int (Int32.ofNat i)), .val (.int q)] []))
  obtain ⟨T1, X1, e1, st1⟩ := getS2 X0 hx hZ hown (host := "") (Or.inl (wq hw 81 rfl)) Via.refl e0 (S__assertionsDisabled.ext O.2) (g := (mkF m 0 #[.val (.ref b), .val (.int (Int32.ofNat i)), .val (.int q)] [])) rfl (hb hby d18_0)
  refine Goes.pre (U' := T1.setTop (mkF m 3 #[.val (.ref b), .val (.int (Int32.ofNat i)), .val (.int q)] [(.int (1 : Int32))])) (fun t k => st1 t k) ?_
  have hc3 : ¬ ((1 : Int32) = (0 : Int32)) := by decide
  refine Goes.pre (U' := T1.setTop (mkF m 38 #[.val (.ref b), .val (.int (((Int32.ofNat i) <<< ((1 : Int32) &&& 31)) + (1 : Int32))), .val (.int q)] [(.int q), (.int ((Int32.ofNat i) <<< ((1 : Int32) &&& 31))), (.ref b)])) (fun t k => XS.ifYes X1.here hx rfl (pc0 := 3) (pc' := 28) rfl (hb hby d18_3) rfl ((if0 _ _).trans (feq hc3).2) (by decide) (by decide) (XS.iloadN X1.here hx rfl (hb hby d18_28) rfl (XS.iconst X1.here hx rfl (hb hby d18_29) (XS.ishl X1.here hx rfl (hb hby d18_30) rfl (XS.istoreN X1.here hx rfl (hb hby d18_31) rfl (l' := #[.val (.ref b), .val (.int ((Int32.ofNat i) <<< ((1 : Int32) &&& 31))), .val (.int q)]) rfl (XS.aloadN X1.here hx rfl (hb hby d18_32) rfl rfl (XS.iloadN X1.here hx rfl (hb hby d18_33) rfl (XT.iincV X1.here hx rfl (1 : Int32) (hb hby d18_34) (by decide) rfl (l' := #[.val (.ref b), .val (.int (((Int32.ofNat i) <<< ((1 : Int32) &&& 31)) + (1 : Int32))), .val (.int q)]) rfl (XS.iloadN X1.here hx rfl (hb hby d18_37) rfl k))))))))) ?_
  obtain ⟨T2, X2, e2, st2⟩ := getS2 X1 hx hZ hown (host := "") (Or.inl (wq hw 82 rfl)) Via.refl e1 (S_HI_BYTE_SHIFT.ext O.2) (g := (mkF m 38 #[.val (.ref b), .val (.int (((Int32.ofNat i) <<< ((1 : Int32) &&& 31)) + (1 : Int32))), .val (.int q)] [(.int q), (.int ((Int32.ofNat i) <<< ((1 : Int32) &&& 31))), (.ref b)])) rfl (hb hby d18_38)
  refine Goes.pre (U' := T2.setTop (mkF m 43 #[.val (.ref b), .val (.int (((Int32.ofNat i) <<< ((1 : Int32) &&& 31)) + (1 : Int32))), .val (.int q)] [(.int ((q >>> ((0 : Int32) &&& 31)).toInt8.toInt32)), (.int ((Int32.ofNat i) <<< ((1 : Int32) &&& 31))), (.ref b)])) (fun t k => st2 t (XS.ishr X2.here hx rfl (hb hby d18_41) rfl (XS.i2b X2.here hx rfl (hb hby d18_42) rfl k))) ?_
  obtain ⟨cl3, Ar3, q3, Sz3, Ng3, Hs3, Ft3⟩ := id V_b
  obtain ⟨T3, h3, X3, e3, W3, st3⟩ := stB X2 hx hZ e2 Ar3 (j := ((Int32.ofNat i) <<< ((1 : Int32) &&& 31))) (inb_of Sz3 (own_p0 i n hn hbg)) (g := (mkF m 43 #[.val (.ref b), .val (.int (((Int32.ofNat i) <<< ((1 : Int32) &&& 31)) + (1 : Int32))), .val (.int q)] [(.int ((q >>> ((0 : Int32) &&& 31)).toInt8.toInt32)), (.int ((Int32.ofNat i) <<< ((1 : Int32) &&& 31))), (.ref b)])) rfl rfl (hb hby d18_43)
  have nr3 : nar .byte ((q >>> ((0 : Int32) &&& 31)).toInt8.toInt32) = ((q >>> ((0 : Int32) &&& 31)).toInt8.toInt32) := own_bb _
  have ft3 : fits .byte (.int ((q >>> ((0 : Int32) &&& 31)).toInt8.toInt32)) = true := nr3 ▸ (fits_nar_byte ((q >>> ((0 : Int32) &&& 31)).toInt8.toInt32) : fits .byte (.int (nar .byte ((q >>> ((0 : Int32) &&& 31)).toInt8.toInt32))) = true)
  rw [nr3] at W3
  have Z3 : n0 ≤ h3.size := Nat.le_trans Z0 (Keep.of_wr W3).1
  have O := O.wr W3 g_b
  have V_b : Arv Z h3 b kb .byte (Int32.ofNat n) (vs ++ [.int ((q >>> ((0 : Int32) &&& 31)).toInt8.toInt32)]) (.int (0 : Int32)) := own_push Ar3 q3 Sz3 Ng3 Hs3 Ft3 ft3 W3 (by rw [(own_sh1 i (by omega)).1, own_ixn _ (by omega)]; exact hv.symm)
  have K3 := K0.wr W3 (Or.inl (List.mem_of_getElem? (i := 0) rfl))
  have N3 := Fr.snoc X3 N0 g_b
  refine Goes.pre (U' := T3.setTop (mkF m 47 #[.val (.ref b), .val (.int (((Int32.ofNat i) <<< ((1 : Int32) &&& 31)) + (1 : Int32))), .val (.int q)] [(.int q), (.int (((Int32.ofNat i) <<< ((1 : Int32) &&& 31)) + (1 : Int32))), (.ref b)])) (fun t k => st3 t (XS.aloadN X3.here hx rfl (hb hby d18_44) rfl rfl (XS.iloadN X3.here hx rfl (hb hby d18_45) rfl (XS.iloadN X3.here hx rfl (hb hby d18_46) rfl k)))) ?_
  obtain ⟨T4, X4, e4, st4⟩ := getS2 X3 hx hZ hown (host := "") (Or.inl (wq hw 83 rfl)) Via.refl e3 (S_LO_BYTE_SHIFT.ext O.2) (g := (mkF m 47 #[.val (.ref b), .val (.int (((Int32.ofNat i) <<< ((1 : Int32) &&& 31)) + (1 : Int32))), .val (.int q)] [(.int q), (.int (((Int32.ofNat i) <<< ((1 : Int32) &&& 31)) + (1 : Int32))), (.ref b)])) rfl (hb hby d18_47)
  refine Goes.pre (U' := T4.setTop (mkF m 52 #[.val (.ref b), .val (.int (((Int32.ofNat i) <<< ((1 : Int32) &&& 31)) + (1 : Int32))), .val (.int q)] [(.int ((q >>> ((8 : Int32) &&& 31)).toInt8.toInt32)), (.int (((Int32.ofNat i) <<< ((1 : Int32) &&& 31)) + (1 : Int32))), (.ref b)])) (fun t k => st4 t (XS.ishr X4.here hx rfl (hb hby d18_50) rfl (XS.i2b X4.here hx rfl (hb hby d18_51) rfl k))) ?_
  obtain ⟨cl5, Ar5, q5, Sz5, Ng5, Hs5, Ft5⟩ := id V_b
  obtain ⟨T5, h5, X5, e5, W5, st5⟩ := stB X4 hx hZ e4 Ar5 (j := (((Int32.ofNat i) <<< ((1 : Int32) &&& 31)) + (1 : Int32))) (inb_of Sz5 (own_p1 i n hn hbg)) (g := (mkF m 52 #[.val (.ref b), .val (.int (((Int32.ofNat i) <<< ((1 : Int32) &&& 31)) + (1 : Int32))), .val (.int q)] [(.int ((q >>> ((8 : Int32) &&& 31)).toInt8.toInt32)), (.int (((Int32.ofNat i) <<< ((1 : Int32) &&& 31)) + (1 : Int32))), (.ref b)])) rfl rfl (hb hby d18_52)
  have nr5 : nar .byte ((q >>> ((8 : Int32) &&& 31)).toInt8.toInt32) = ((q >>> ((8 : Int32) &&& 31)).toInt8.toInt32) := own_bb _
  have ft5 : fits .byte (.int ((q >>> ((8 : Int32) &&& 31)).toInt8.toInt32)) = true := nr5 ▸ (fits_nar_byte ((q >>> ((8 : Int32) &&& 31)).toInt8.toInt32) : fits .byte (.int (nar .byte ((q >>> ((8 : Int32) &&& 31)).toInt8.toInt32))) = true)
  rw [nr5] at W5
  have Z5 : n0 ≤ h5.size := Nat.le_trans Z3 (Keep.of_wr W5).1
  have O := O.wr W5 g_b
  have V_b : Arv Z h5 b kb .byte (Int32.ofNat n) ((vs ++ [.int ((q >>> ((0 : Int32) &&& 31)).toInt8.toInt32)]) ++ [.int ((q >>> ((8 : Int32) &&& 31)).toInt8.toInt32)]) (.int (0 : Int32)) := own_push Ar5 q5 Sz5 Ng5 Hs5 Ft5 ft5 W5 (by rw [(own_sh1 i (by omega)).2, own_ixn _ (by omega), List.length_append]; exact congrArg (· + 1) hv.symm)
  have K5 := K3.wr W5 (Or.inl (List.mem_of_getElem? (i := 0) rfl))
  have N5 := Fr.snoc X5 N3 g_b
  refine Goes.pre (U' := T5.setTop (mkF m 53 #[.val (.ref b), .val (.int (((Int32.ofNat i) <<< ((1 : Int32) &&& 31)) + (1 : Int32))), .val (.int q)] [])) (fun t k => st5 t k) ?_
  refine Goes.ret X5 (v := none) (fun _ => rfl) hlk (by decide) (by decide) e5 (fun fs hr => X5.returnOut hx hret (hb hby d18_53) hr) ?_
  exact ⟨rfl, N5, K5, V_b⟩
theorem own_lt30 (n : Nat) (hn : n ≤ 8192) : Int32.ofNat n < (1073741823 : Int32) := by
  have b := own_ofn n hn
  rw [Int32.lt_iff_toInt_lt, b, show (1073741823 : Int32).toInt = 1073741823 from by decide]
  omega
theorem own_cap (n N : Nat) (hn : n ≤ 8192) (h : n ≤ N) : (Int32.ofNat n).toNatClampNeg ≤ N := by rw [own_ixn n hn]; exact h
theorem ef_rm_nblG (m : MethodId) (x0 : Int32) : entryFrame m #[(.int x0)] 1 = mkF m 0 #[.val (.int x0)] [] := by first | (simp [entryFrame, mkF, argsToLocals, Value.category]; done) | rfl
abbrev M17 : MethodName := ⟨"java/lang/StringUTF16", "newBytesLength", "(I)I"⟩
theorem d17_0 : decode jdk_52_method_3_code 0 = .ok (.iload_n 0, 1) := by decide +kernel
theorem d17_1 : decode jdk_52_method_3_code 1 = .ok (.ifCond .ge 11, 3) := by decide +kernel
theorem d17_12 : decode jdk_52_method_3_code 12 = .ok (.iload_n 0, 1) := by decide +kernel
theorem d17_13 : decode jdk_52_method_3_code 13 = .ok (.ldc 20, 2) := by decide +kernel
theorem d17_15 : decode jdk_52_method_3_code 15 = .ok (.if_icmp .lt 40, 3) := by decide +kernel
theorem d17_55 : decode jdk_52_method_3_code 55 = .ok (.iload_n 0, 1) := by decide +kernel
theorem d17_56 : decode jdk_52_method_3_code 56 = .ok (.iconst 1, 1) := by decide +kernel
theorem d17_57 : decode jdk_52_method_3_code 57 = .ok (.ishl, 1) := by decide +kernel
theorem d17_58 : decode jdk_52_method_3_code 58 = .ok (.ireturn, 1) := by decide +kernel
def Q_rm_nblG (Z : State) (cl : List Int32) (h0 : Heap) (n0 : Nat) (v : Option Value) (h : Heap) (L : List Loc) : Prop := v = some (.int (Int32.ofNat (2 * cl.length))) ∧ Fr n0 L ∧ h = h0
set_option maxRecDepth 65536 in
set_option maxHeartbeats 40000000 in
theorem rm_nblG (l : Launch) (Z : State) (a0 : Array Value) (hw : ∀ d ∈ tables_1, d.before a0 Z = true) (ws : List Jvm.Cond) (cl : List Int32) (h0 : Heap) (n0 : Nat) (Z0 : n0 ≤ h0.size)  (hlen : cl.length ≤ 4) :
    Met l Z M17 jdk_52_method_3_code 1 (some .int) ws (Rm 0 0 0 0) #[(.int (Int32.ofNat cl.length))] h0 (Q_rm_nblG Z cl h0 n0) := by
  refine met_of (plainFor_of_name pn_java_lang_StringUTF16) (own := "java/lang/StringUTF16") rfl (fun m => ef_rm_nblG m (Int32.ofNat cl.length)) ?_
  intro p e s m below meth c s₁ hx hby hml hown hnm hZ X0 e0 hret hlk
  have N0 := Fr.nil n0
  show Goes p e below s _ _ _ (s₁.setTop (mkF m 0 #[.val (.int (Int32.ofNat cl.length))] []))
  refine Goes.pre (U' := s₁.setTop (mkF m 1 #[.val (.int (Int32.ofNat cl.length))] [(.int (Int32.ofNat cl.length))])) (fun t k => XS.iloadN X0.here hx rfl (hb hby d17_0) rfl k) ?_
  have hc1 : ¬ ((Int32.ofNat cl.length) < (0 : Int32)) := own_neg _ (Nat.le_trans hlen (by decide))
  refine Goes.pre (U' := s₁.setTop (mkF m 15 #[.val (.int (Int32.ofNat cl.length))] [(.int (1073741823 : Int32)), (.int (Int32.ofNat cl.length))])) (fun t k => XS.ifYes X0.here hx rfl (pc0 := 1) (pc' := 12) rfl (hb hby d17_1) rfl ((if0 _ _).trans (flt hc1).2.1) (by decide) (by decide) (XS.iloadN X0.here hx rfl (hb hby d17_12) rfl (X0.ldcInt hx hown (mvT hZ (wq hw 77 rfl)) (g := (mkF m 13 #[.val (.int (Int32.ofNat cl.length))] [(.int (Int32.ofNat cl.length))])) rfl (hb hby d17_13) _ k))) ?_
  have hc15 : (Int32.ofNat cl.length) < (1073741823 : Int32) := own_lt30 _ (Nat.le_trans hlen (by decide))
  refine Goes.pre (U' := s₁.setTop (mkF m 58 #[.val (.int (Int32.ofNat cl.length))] [(.int ((Int32.ofNat cl.length) <<< ((1 : Int32) &&& 31)))])) (fun t k => XS.icmpYes X0.here hx rfl (pc0 := 15) (pc' := 55) rfl (hb hby d17_15) rfl (tlt hc15).1 (by decide) (by decide) (XS.iloadN X0.here hx rfl (hb hby d17_55) rfl (XS.iconst X0.here hx rfl (hb hby d17_56) (XS.ishl X0.here hx rfl (hb hby d17_57) rfl k)))) ?_
  refine Goes.ret X0 (v := (some (.int ((Int32.ofNat cl.length) <<< ((1 : Int32) &&& 31))))) (fun h => by rw [hret] at h; cases h) hlk (by decide) (by decide) e0 (fun fs hr => retI X0 hx hret (hb hby d17_58) hr) ?_
  exact ⟨congrArg (fun z => some (Value.int z)) (own_shl cl.length (Nat.le_trans hlen (by decide))).symm, N0, rfl⟩
theorem ef_rm_nbfG (m : MethodId) (x0 : Int32) : entryFrame m #[(.int x0)] 1 = mkF m 0 #[.val (.int x0)] [] := by first | (simp [entryFrame, mkF, argsToLocals, Value.category]; done) | rfl
abbrev M16 : MethodName := ⟨"java/lang/StringUTF16", "newBytesFor", "(I)[B"⟩
theorem d16_0 : decode jdk_52_method_2_code 0 = .ok (.iload_n 0, 1) := by decide +kernel
theorem d16_1 : decode jdk_52_method_2_code 1 = .ok (.invokestatic 11, 3) := by decide +kernel
theorem pd__28I_29I : parseMethodDescriptor "(I)I" = some ⟨[.int], some .int⟩ := by decide +kernel
theorem d16_4 : decode jdk_52_method_2_code 4 = .ok (.newarray .byte, 2) := by decide +kernel
theorem d16_6 : decode jdk_52_method_2_code 6 = .ok (.areturn, 1) := by decide +kernel
def Q_rm_nbfG (Z : State) (cl : List Int32) (h0 : Heap) (n0 : Nat) (v : Option Value) (h : Heap) (L : List Loc) : Prop := ∃ (r : Addr) (kr : ClassId), v = some (.ref r) ∧ Fr n0 L ∧ Keep h0 h [] ∧ Arv Z h r kr .byte (Int32.ofNat (2 * cl.length)) [] (.int (0 : Int32)) ∧ n0 ≤ r ∧ h0.size ≤ r
set_option maxRecDepth 65536 in
set_option maxHeartbeats 40000000 in
theorem rm_nbfG (l : Launch) (Z : State) (a0 : Array Value) (hw : ∀ d ∈ tables_1, d.before a0 Z = true) (ws : List Jvm.Cond) (cl : List Int32) (h0 : Heap) (n0 : Nat) (Z0 : n0 ≤ h0.size)  (hlen : cl.length ≤ 4) :
    Met l Z M16 jdk_52_method_2_code 1 (some (.array .byte)) ws (Rm 1 1 8 12) #[(.int (Int32.ofNat cl.length))] h0 (Q_rm_nbfG Z cl h0 n0) := by
  refine met_of (plainFor_of_name pn_java_lang_StringUTF16) (own := "java/lang/StringUTF16") rfl (fun m => ef_rm_nbfG m (Int32.ofNat cl.length)) ?_
  intro p e s m below meth c s₁ hx hby hml hown hnm hZ X0 e0 hret hlk
  have N0 := Fr.nil n0
  have K0 := Keep.refl h0 []
  show Goes p e below s _ _ _ (s₁.setTop (mkF m 0 #[.val (.int (Int32.ofNat cl.length))] []))
  refine Goes.pre (U' := s₁.setTop (mkF m 1 #[.val (.int (Int32.ofNat cl.length))] [(.int (Int32.ofNat cl.length))])) (fun t k => XS.iloadN X0.here hx rfl (hb hby d16_0) rfl k) ?_
  obtain ⟨_, _, ⟨T1, L1, k1, n1⟩, -, X1, ⟨Lc1, hQ1, l1, y1, z1⟩, st1⟩ := Jvm.LawKit.callS X0 hx (y := (⟨"java/lang/StringUTF16", "newBytesLength", "(I)I"⟩ : MethodName)) hown (mvT hZ (wq hw 74 rfl)) (mvT hZ (wq hw 75 rfl)) (mvT hZ (wq hw 63 rfl)) (mvT hZ (wq hw 76 rfl)) (by decide) (backOf (W := 0) (rm_nblG l Z a0 hw [] cl h0 n0 Z0  hlen) hZ (wq hw 76 rfl) (wq hw 63 rfl) (by decide) (by decide)) (g := (mkF m 1 #[.val (.int (Int32.ofNat cl.length))] [(.int (Int32.ofNat cl.length))])) rfl (by rw [hml]; rfl) (argsL := [(.int (Int32.ofNat cl.length))]) (rest := []) (lenOf pd__28I_29I rfl) rfl (by show 2 * 0 + _ ≤ _; exact Nat.le_of_eq rfl) (hb hby d16_1) (fun _ _ => ⟨rfl, e0, (by decide : 0 + 0 ≤ _), (by decide : 0 + 0 ≤ _)⟩)
  dsimp only [Pt.U, Pt.locs, Pt.cells, Pt.slots] at X1 l1 y1 z1 st1 hQ1
  subst l1 y1 z1
  obtain ⟨rfl, N1q, HQ1⟩ := hQ1
  have N1 := Fr.app N0 N1q
  refine Goes.pre (U' := T1.setTop (mkF m 4 #[.val (.int (Int32.ofNat cl.length))] [(.int (Int32.ofNat (2 * cl.length)))])) (fun t k => st1 t k) ?_
  obtain ⟨T2, h2, k2, X2, e2, E2, A2, B2, st2⟩ := newPE X1 hx hZ (wq hw 29 rfl) HQ1 (g := (mkF m 4 #[.val (.int (Int32.ofNat cl.length))] [(.int (Int32.ofNat (2 * cl.length)))])) rfl (hb hby d16_4) rfl (own_neg _ (by omega)) (cap := 8) (own_cap _ _ (by omega) (by omega)) (by decide) (by decide) (by decide) (ad := "[B") (by decide)
  obtain ⟨nb2, g2⟩ : ∃ z, z = h0.size := ⟨_, rfl⟩
  rw [← g2] at A2 B2 st2
  have g_nb2 : n0 ≤ nb2 := Nat.le_trans Z0 (Nat.le_of_eq g2.symm)
  have sz_nb2 : h0.size ≤ nb2 := Nat.le_trans K0.1 (Nat.le_of_eq g2.symm)
  have Z2 : n0 ≤ h2.size := Nat.le_trans Z0 E2.1
  have K2 := K0.ext E2
  have E_nb2 := B2
  have V_nb2 : Arv Z h2 nb2 k2 .byte (Int32.ofNat (2 * cl.length)) [] (.int (0 : Int32)) := Arv.new A2 (own_neg _ (by omega))
  refine Goes.pre (U' := T2.setTop (mkF m 6 #[.val (.int (Int32.ofNat cl.length))] [(.ref nb2)])) (fun t k => st2 t k) ?_
  refine Goes.ret X2 (v := (some (.ref nb2))) (fun h => by rw [hret] at h; cases h) hlk (by decide) (by decide) e2 (fun fs hr => retOut X2 hx hret rfl (Or.inr (Or.inr (Or.inr (Or.inr ⟨rfl, rfl, rfl⟩)))) (hb hby d16_6) hr) ?_
  exact ⟨nb2, k2, rfl, N1, K2, V_nb2, g_nb2, sz_nb2⟩
theorem ef_rm_toBG (m : MethodId) (x0 : Addr) (x1 : Int32) (x2 : Int32) : entryFrame m #[(.ref x0), (.int x1), (.int x2)] 5 = mkF m 0 #[.val (.ref x0), .val (.int x1), .val (.int x2), .unset, .unset] [] := by first | (simp [entryFrame, mkF, argsToLocals, Value.category]; done) | rfl
abbrev M15 : MethodName := ⟨"java/lang/StringUTF16", "toBytes", "([CII)[B"⟩
theorem d15_0 : decode jdk_52_method_14_code 0 = .ok (.iload_n 2, 1) := by decide +kernel
theorem d15_1 : decode jdk_52_method_14_code 1 = .ok (.invokestatic 107, 3) := by decide +kernel
theorem pd__28I_29_5bB : parseMethodDescriptor "(I)[B" = some ⟨[.int], some (.array .byte)⟩ := by decide +kernel
theorem d15_4 : decode jdk_52_method_14_code 4 = .ok (.astore_n 3, 1) := by decide +kernel
theorem d15_5 : decode jdk_52_method_14_code 5 = .ok (.iconst 0, 1) := by decide +kernel
theorem d15_6 : decode jdk_52_method_14_code 6 = .ok (.istore 4, 2) := by decide +kernel
theorem d15_8 : decode jdk_52_method_14_code 8 = .ok (.iload 4, 2) := by decide +kernel
theorem d15_10 : decode jdk_52_method_14_code 10 = .ok (.iload_n 2, 1) := by decide +kernel
theorem d15_11 : decode jdk_52_method_14_code 11 = .ok (.if_icmp .ge 21, 3) := by decide +kernel
theorem d15_14 : decode jdk_52_method_14_code 14 = .ok (.aload_n 3, 1) := by decide +kernel
theorem d15_15 : decode jdk_52_method_14_code 15 = .ok (.iload 4, 2) := by decide +kernel
theorem d15_17 : decode jdk_52_method_14_code 17 = .ok (.aload_n 0, 1) := by decide +kernel
theorem d15_18 : decode jdk_52_method_14_code 18 = .ok (.iload_n 1, 1) := by decide +kernel
theorem d15_19 : decode jdk_52_method_14_code 19 = .ok (.caload, 1) := by decide +kernel
theorem d15_20 : decode jdk_52_method_14_code 20 = .ok (.invokestatic 111, 3) := by decide +kernel
theorem pd__28_5bBII_29V : parseMethodDescriptor "([BII)V" = some ⟨[(.array .byte), .int, .int], none⟩ := by decide +kernel
theorem d15_23 : decode jdk_52_method_14_code 23 = .ok (.iinc 1 1, 3) := by decide +kernel
theorem d15_26 : decode jdk_52_method_14_code 26 = .ok (.iinc 4 1, 3) := by decide +kernel
theorem d15_29 : decode jdk_52_method_14_code 29 = .ok (.goto (-21), 3) := by decide +kernel
theorem d15_32 : decode jdk_52_method_14_code 32 = .ok (.aload_n 3, 1) := by decide +kernel
theorem d15_33 : decode jdk_52_method_14_code 33 = .ok (.areturn, 1) := by decide +kernel
def Q_rm_toBG (Z : State) (d : Addr) (kd : ClassId) (cl : List Int32) (h0 : Heap) (n0 : Nat) (v : Option Value) (h : Heap) (L : List Loc) : Prop := ∃ (r : Addr) (kr : ClassId), v = some (.ref r) ∧ Fr n0 L ∧ Keep h0 h [] ∧ Arv Z h r kr .byte (Int32.ofNat (2 * cl.length)) (cl.flatMap fun c => [.int (c >>> ((0 : Int32) &&& 31)).toInt8.toInt32, .int (c >>> ((8 : Int32) &&& 31)).toInt8.toInt32]) (.int (0 : Int32)) ∧ n0 ≤ r ∧ h0.size ≤ r
set_option maxRecDepth 65536 in
set_option maxHeartbeats 40000000 in
theorem rm_toBG (l : Launch) (Z : State) (a0 : Array Value) (hw : ∀ d ∈ tables_1, d.before a0 Z = true) (ws : List Jvm.Cond) (d : Addr) (kd : ClassId) (cl : List Int32) (h0 : Heap) (n0 : Nat) (Z0 : n0 ≤ h0.size) (V_d : Arv Z h0 d kd .char (Int32.ofNat cl.length) (cl.map Value.int) (.int (0 : Int32))) (S__assertionsDisabled : Sta Z Z.heap "java/lang/StringUTF16" "$assertionsDisabled" "Z" (.int (1 : Int32))) (S_HI_BYTE_SHIFT : Sta Z Z.heap "java/lang/StringUTF16" "HI_BYTE_SHIFT" "I" (.int (0 : Int32))) (S_LO_BYTE_SHIFT : Sta Z Z.heap "java/lang/StringUTF16" "LO_BYTE_SHIFT" "I" (.int (8 : Int32))) (hlen : cl.length ≤ 4) (O : Old Z n0 h0) :
    Met l Z M15 jdk_52_method_14_code 5 (some (.array .byte)) ws (Rm 2 1 8 24) #[(.ref d), (.int (0 : Int32)), (.int (Int32.ofNat cl.length))] h0 (Q_rm_toBG Z d kd cl h0 n0) := by
  refine met_of (plainFor_of_name pn_java_lang_StringUTF16) (own := "java/lang/StringUTF16") rfl (fun m => ef_rm_toBG m d (0 : Int32) (Int32.ofNat cl.length)) ?_
  intro p e s m below meth c s₁ hx hby hml hown hnm hZ X0 e0 hret hlk
  have N0 := Fr.nil n0
  have K0 := Keep.refl h0 []
  show Goes p e below s _ _ _ (s₁.setTop (mkF m 0 #[.val (.ref d), .val (.int (0 : Int32)), .val (.int (Int32.ofNat cl.length)), .unset, .unset] []))
  refine Goes.pre (U' := s₁.setTop (mkF m 1 #[.val (.ref d), .val (.int (0 : Int32)), .val (.int (Int32.ofNat cl.length)), .unset, .unset] [(.int (Int32.ofNat cl.length))])) (fun t k => XS.iloadN X0.here hx rfl (hb hby d15_0) rfl k) ?_
  have lt_d := V_d.lt
  obtain ⟨_, _, ⟨T1, L1, k1, n1⟩, -, X1, ⟨Lc1, hQ1, l1, y1, z1⟩, st1⟩ := Jvm.LawKit.callS X0 hx (y := (⟨"java/lang/StringUTF16", "newBytesFor", "(I)[B"⟩ : MethodName)) hown (mvT hZ (wq hw 71 rfl)) (mvT hZ (wq hw 72 rfl)) (mvT hZ (wq hw 63 rfl)) (mvT hZ (wq hw 73 rfl)) (by decide) (backOf (W := 0) (rm_nbfG l Z a0 hw [] cl h0 n0 Z0  hlen) hZ (wq hw 73 rfl) (wq hw 63 rfl) (by decide) (by decide)) (g := (mkF m 1 #[.val (.ref d), .val (.int (0 : Int32)), .val (.int (Int32.ofNat cl.length)), .unset, .unset] [(.int (Int32.ofNat cl.length))])) rfl (by rw [hml]; rfl) (argsL := [(.int (Int32.ofNat cl.length))]) (rest := []) (lenOf pd__28I_29_5bB rfl) rfl (by show 2 * 0 + _ ≤ _; exact Nat.le_of_eq rfl) (hb hby d15_1) (fun _ _ => ⟨rfl, e0, (by decide : 0 + 1 ≤ _), (by decide : 0 + 8 ≤ _)⟩)
  dsimp only [Pt.U, Pt.locs, Pt.cells, Pt.slots] at X1 l1 y1 z1 st1 hQ1
  subst l1 y1 z1
  obtain ⟨r1, kr1, rfl, N1q, KQ1, fo0_1, g_r1, sl_r1⟩ := hQ1
  have N1 := Fr.app N0 N1q
  have V_d := V_d.keep KQ1 nin0
  have Z2 : n0 ≤ T1.heap.size := Nat.le_trans Z0 KQ1.1
  have O := O.keep KQ1 all0
  have K2 := K0.trans KQ1 all0
  have ne_d_r1 : d ≠ r1 := Nat.ne_of_lt (Nat.lt_of_lt_of_le lt_d sl_r1)
  have ne_r1_d := ne_d_r1.symm
  have sz_r1 : h0.size ≤ r1 := Nat.le_trans K0.1 sl_r1
  have V_r1 := fo0_1
  refine Goes.pre (U' := T1.setTop (mkF m 8 #[.val (.ref d), .val (.int (0 : Int32)), .val (.int (Int32.ofNat cl.length)), .val (.ref r1), .val (.int (0 : Int32))] [])) (fun t k => st1 t (XS.astoreN X1.here hx rfl (hb hby d15_4) rfl rfl (l' := #[.val (.ref d), .val (.int (0 : Int32)), .val (.int (Int32.ofNat cl.length)), .val (.ref r1), .unset]) rfl (XS.iconst X1.here hx rfl (hb hby d15_5) (XS.istore X1.here hx rfl (hb hby d15_6) rfl (l' := #[.val (.ref d), .val (.int (0 : Int32)), .val (.int (Int32.ofNat cl.length)), .val (.ref r1), .val (.int (0 : Int32))]) rfl k)))) ?_
  have J8_3 : ∀ (kk : Nat) (i : Nat) (hi : i ≤ cl.length) (hm : cl.length - i = kk) (T3 : State) (h3 : Heap) (lc3 : List Loc), Stand p l e (Rm 2 1 8 24) s m #[(.ref d), (.int (0 : Int32)), (.int (Int32.ofNat cl.length))] below meth c T3 lc3 1 8 → T3.heap = h3 → Fr n0 lc3 → n0 ≤ h3.size → Keep h0 h3 [] → Old Z n0 h3 → Arv Z h3 d kd .char (Int32.ofNat cl.length) (cl.map Value.int) (.int (0 : Int32)) → Arv Z h3 r1 kr1 .byte (Int32.ofNat (2 * cl.length)) ((cl.take i).flatMap fun c => [.int (c >>> ((0 : Int32) &&& 31)).toInt8.toInt32, .int (c >>> ((8 : Int32) &&& 31)).toInt8.toInt32]) (.int (0 : Int32)) → Goes p e below s (Q_rm_toBG Z d kd cl h0 n0) (Rm 2 1 8 24).cells (Rm 2 1 8 24).slots (T3.setTop (mkF m 8 #[.val (.ref d), .val (.int (Int32.ofNat i)), .val (.int (Int32.ofNat cl.length)), .val (.ref r1), .val (.int (Int32.ofNat i))] [])) := by
    intro kk
    induction kk using Nat.strongRecOn with
    | ind kk ih =>
      intro i hi hm T3 h3 lc3 X3 e3 N3 Z3 K3 O V_d V_r1
      refine Goes.pre (U' := T3.setTop (mkF m 11 #[.val (.ref d), .val (.int (Int32.ofNat i)), .val (.int (Int32.ofNat cl.length)), .val (.ref r1), .val (.int (Int32.ofNat i))] [(.int (Int32.ofNat cl.length)), (.int (Int32.ofNat i))])) (fun t k => XS.iload X3.here hx rfl (hb hby d15_8) rfl (XS.iloadN X3.here hx rfl (hb hby d15_10) rfl k)) ?_
      by_cases hc11 : (Int32.ofNat i) < (Int32.ofNat cl.length)
      ·
        refine Goes.pre (U' := T3.setTop (mkF m 19 #[.val (.ref d), .val (.int (Int32.ofNat i)), .val (.int (Int32.ofNat cl.length)), .val (.ref r1), .val (.int (Int32.ofNat i))] [(.int (Int32.ofNat i)), (.ref d), (.int (Int32.ofNat i)), (.ref r1)])) (fun t k => XS.icmpNo X3.here hx rfl (hb hby d15_11) rfl (tlt hc11).2.1 (XS.aloadN X3.here hx rfl (hb hby d15_14) rfl rfl (XS.iload X3.here hx rfl (hb hby d15_15) rfl (XS.aloadN X3.here hx rfl (hb hby d15_17) rfl rfl (XS.iloadN X3.here hx rfl (hb hby d15_18) rfl k))))) ?_
        obtain ⟨cl4, Ar4, q4, Sz4, Ng4, Hs4, Ft4⟩ := id V_d
        have hin4 := inb_of (j := (Int32.ofNat i)) Sz4 (own_ix i _ (own_lti _ _ hc11 hi (Nat.le_trans hlen (by decide))) (Nat.le_trans hlen (by decide)))
        refine Goes.pre (U' := T3.setTop (mkF m 20 #[.val (.ref d), .val (.int (Int32.ofNat i)), .val (.int (Int32.ofNat cl.length)), .val (.ref r1), .val (.int (Int32.ofNat i))] [(.int (cl.getD i 0)), (.int (Int32.ofNat i)), (.ref r1)])) (fun t k => X3.caload hx (j := (Int32.ofNat i)) (v := (.int (cl.getD i 0))) (by rw [e3]; exact Ar4.1) (State.isArrayOf_alike hZ.alike Ar4.2.1) Ar4.2.2 hin4 (Has.at Hs4 hin4 (own_getm cl i (own_lti _ _ hc11 hi (Nat.le_trans hlen (by decide))) (Nat.le_trans hlen (by decide)))) (g := (mkF m 19 #[.val (.ref d), .val (.int (Int32.ofNat i)), .val (.int (Int32.ofNat cl.length)), .val (.ref r1), .val (.int (Int32.ofNat i))] [(.int (Int32.ofNat i)), (.ref d), (.int (Int32.ofNat i)), (.ref r1)])) rfl rfl (hb hby d15_19) _ k) ?_
        obtain ⟨_, _, ⟨T5, L5, k5, n5⟩, -, X5, ⟨Lc5, hQ5, l5, y5, z5⟩, st5⟩ := Jvm.LawKit.callS X3 hx (y := (⟨"java/lang/StringUTF16", "putChar", "([BII)V"⟩ : MethodName)) hown (mvT hZ (wq hw 78 rfl)) (mvT hZ (wq hw 79 rfl)) (mvT hZ (wq hw 63 rfl)) (mvT hZ (wq hw 80 rfl)) (by decide) (backOf (W := 0) (rm_putG l Z a0 hw [] r1 kr1 ((cl.take i).flatMap fun c => [.int (c >>> ((0 : Int32) &&& 31)).toInt8.toInt32, .int (c >>> ((8 : Int32) &&& 31)).toInt8.toInt32]) (2 * cl.length) (cl.getD i 0) i h3 n0 Z3 V_r1 S__assertionsDisabled S_HI_BYTE_SHIFT S_LO_BYTE_SHIFT (own_fml _ _ cl i hi) (by have := own_lti _ _ hc11 hi (Nat.le_trans hlen (by decide)); omega) (by omega) g_r1 O) hZ (wq hw 80 rfl) (wq hw 63 rfl) (by decide) (by decide)) (g := (mkF m 20 #[.val (.ref d), .val (.int (Int32.ofNat i)), .val (.int (Int32.ofNat cl.length)), .val (.ref r1), .val (.int (Int32.ofNat i))] [(.int (cl.getD i 0)), (.int (Int32.ofNat i)), (.ref r1)])) rfl (by rw [hml]; rfl) (argsL := [(.ref r1), (.int (Int32.ofNat i)), (.int (cl.getD i 0))]) (rest := []) (lenOf pd__28_5bBII_29V rfl) rfl (by show 2 * 0 + _ ≤ _; exact Nat.le_of_eq rfl) (hb hby d15_20) (fun _ _ => ⟨rfl, e3, (by decide : 1 + 0 ≤ _), (by decide : 8 + 0 ≤ _)⟩)
        dsimp only [Pt.U, Pt.locs, Pt.cells, Pt.slots] at X5 l5 y5 z5 st5 hQ5
        subst l5 y5 z5
        obtain ⟨rfl, N5q, KQ5, fo0_5⟩ := hQ5
        have N5 := Fr.app N3 N5q
        have V_d := V_d.keep KQ5 (ninS ne_d_r1 nin0)
        have Z6 : n0 ≤ T5.heap.size := Nat.le_trans Z3 KQ5.1
        have O := O.keep KQ5 (allS (P := fun x => n0 ≤ x) g_r1 all0)
        have K6 := K3.trans KQ5 (allS (P := fun x => x ∈ [] ∨ h0.size ≤ x) (Or.inr sz_r1) all0)
        have V_r1 := fo0_5
        refine Goes.pre (U' := T5.setTop (mkF m 29 #[.val (.ref d), .val (.int ((Int32.ofNat i) + (1 : Int32))), .val (.int (Int32.ofNat cl.length)), .val (.ref r1), .val (.int ((Int32.ofNat i) + (1 : Int32)))] [])) (fun t k => st5 t (XT.iincV X5.here hx rfl (1 : Int32) (hb hby d15_23) (by decide) rfl (l' := #[.val (.ref d), .val (.int ((Int32.ofNat i) + (1 : Int32))), .val (.int (Int32.ofNat cl.length)), .val (.ref r1), .val (.int (Int32.ofNat i))]) rfl (XT.iincV X5.here hx rfl (1 : Int32) (hb hby d15_26) (by decide) rfl (l' := #[.val (.ref d), .val (.int ((Int32.ofNat i) + (1 : Int32))), .val (.int (Int32.ofNat cl.length)), .val (.ref r1), .val (.int ((Int32.ofNat i) + (1 : Int32)))]) rfl k))) ?_
        rw [own_inc]
        have V_r1 : Arv Z T5.heap r1 kr1 .byte (Int32.ofNat (2 * cl.length)) ((cl.take (i + 1)).flatMap fun c => [.int (c >>> ((0 : Int32) &&& 31)).toInt8.toInt32, .int (c >>> ((8 : Int32) &&& 31)).toInt8.toInt32]) (.int (0 : Int32)) := own_tkf (fun c => .int (c >>> ((0 : Int32) &&& 31)).toInt8.toInt32) (fun c => .int (c >>> ((8 : Int32) &&& 31)).toInt8.toInt32) cl i (own_lti _ _ hc11 hi (Nat.le_trans hlen (by decide))) ▸ V_r1
        refine Goes.pre (U' := T5.setTop (mkF m 8 #[.val (.ref d), .val (.int (Int32.ofNat (i + 1))), .val (.int (Int32.ofNat cl.length)), .val (.ref r1), .val (.int (Int32.ofNat (i + 1)))] [])) (fun t k => XS.goto X5.here hx rfl (pc0 := 29) (pc' := 8) rfl (hb hby d15_29) (by decide) (by decide) k) ?_
        exact ih _ (by have := own_lti _ _ hc11 hi (Nat.le_trans hlen (by decide)); omega) (i + 1) (own_lti _ _ hc11 hi (Nat.le_trans hlen (by decide))) rfl _ _ _ X5 rfl N5 Z6 K6 O V_d V_r1
      ·
        refine Goes.pre (U' := T3.setTop (mkF m 33 #[.val (.ref d), .val (.int (Int32.ofNat i)), .val (.int (Int32.ofNat cl.length)), .val (.ref r1), .val (.int (Int32.ofNat i))] [(.ref r1)])) (fun t k => XS.icmpYes X3.here hx rfl (pc0 := 11) (pc' := 32) rfl (hb hby d15_11) rfl (flt hc11).2.1 (by decide) (by decide) (XS.aloadN X3.here hx rfl (hb hby d15_32) rfl rfl k)) ?_
        refine Goes.ret X3 (v := (some (.ref r1))) (fun h => by rw [hret] at h; cases h) hlk (by decide) (by decide) e3 (fun fs hr => retOut X3 hx hret rfl (Or.inr (Or.inr (Or.inr (Or.inr ⟨rfl, rfl, rfl⟩)))) (hb hby d15_33) hr) ?_
        obtain rfl := own_nlti _ _ hc11 hi (Nat.le_trans hlen (by decide))
        rw [List.take_length] at V_r1
        exact ⟨r1, kr1, rfl, N3, K3, V_r1, g_r1, sz_r1⟩
  exact J8_3 _ 0 (Nat.zero_le _) rfl _ _ _ X1 rfl N1 Z2 K2 O V_d V_r1
theorem ef_rm_cmpG (m : MethodId) (x0 : Addr) (x1 : Int32) (x2 : Int32) : entryFrame m #[(.ref x0), (.int x1), (.int x2)] 6 = mkF m 0 #[.val (.ref x0), .val (.int x1), .val (.int x2), .unset, .unset, .unset] [] := by first | (simp [entryFrame, mkF, argsToLocals, Value.category]; done) | rfl
abbrev M13 : MethodName := ⟨"java/lang/StringUTF16", "compress", "([CII)[B"⟩
theorem d13_0 : decode jdk_52_method_16_code 0 = .ok (.iload_n 2, 1) := by decide +kernel
theorem d13_1 : decode jdk_52_method_16_code 1 = .ok (.newarray .byte, 2) := by decide +kernel
theorem d13_3 : decode jdk_52_method_16_code 3 = .ok (.astore_n 3, 1) := by decide +kernel
theorem d13_4 : decode jdk_52_method_16_code 4 = .ok (.aload_n 0, 1) := by decide +kernel
theorem d13_5 : decode jdk_52_method_16_code 5 = .ok (.iload_n 1, 1) := by decide +kernel
theorem d13_6 : decode jdk_52_method_16_code 6 = .ok (.aload_n 3, 1) := by decide +kernel
theorem d13_7 : decode jdk_52_method_16_code 7 = .ok (.iconst 0, 1) := by decide +kernel
theorem d13_8 : decode jdk_52_method_16_code 8 = .ok (.iload_n 2, 1) := by decide +kernel
theorem d13_9 : decode jdk_52_method_16_code 9 = .ok (.invokestatic 115, 3) := by decide +kernel
theorem pd__28_5bCI_5bBII_29I : parseMethodDescriptor "([CI[BII)I" = some ⟨[(.array .char), .int, (.array .byte), .int, .int], some .int⟩ := by decide +kernel
theorem d13_12 : decode jdk_52_method_16_code 12 = .ok (.istore 4, 2) := by decide +kernel
theorem d13_14 : decode jdk_52_method_16_code 14 = .ok (.iload 4, 2) := by decide +kernel
theorem d13_16 : decode jdk_52_method_16_code 16 = .ok (.iload_n 2, 1) := by decide +kernel
theorem d13_17 : decode jdk_52_method_16_code 17 = .ok (.if_icmp .eq 40, 3) := by decide +kernel
theorem d13_57 : decode jdk_52_method_16_code 57 = .ok (.aload_n 3, 1) := by decide +kernel
theorem d13_58 : decode jdk_52_method_16_code 58 = .ok (.areturn, 1) := by decide +kernel
theorem d13_20 : decode jdk_52_method_16_code 20 = .ok (.aload_n 0, 1) := by decide +kernel
theorem d13_21 : decode jdk_52_method_16_code 21 = .ok (.iload_n 1, 1) := by decide +kernel
theorem d13_22 : decode jdk_52_method_16_code 22 = .ok (.iload_n 2, 1) := by decide +kernel
theorem d13_23 : decode jdk_52_method_16_code 23 = .ok (.invokestatic 119, 3) := by decide +kernel
theorem pd__28_5bCII_29_5bB : parseMethodDescriptor "([CII)[B" = some ⟨[(.array .char), .int, .int], some (.array .byte)⟩ := by decide +kernel
theorem d13_26 : decode jdk_52_method_16_code 26 = .ok (.astore 5, 2) := by decide +kernel
theorem d13_28 : decode jdk_52_method_16_code 28 = .ok (.aload 5, 2) := by decide +kernel
theorem d13_30 : decode jdk_52_method_16_code 30 = .ok (.iload 4, 2) := by decide +kernel
theorem d13_32 : decode jdk_52_method_16_code 32 = .ok (.invokestatic 71, 3) := by decide +kernel
theorem d13_35 : decode jdk_52_method_16_code 35 = .ok (.sipush 255, 3) := by decide +kernel
theorem d13_38 : decode jdk_52_method_16_code 38 = .ok (.if_icmp .gt 16, 3) := by decide +kernel
theorem d13_54 : decode jdk_52_method_16_code 54 = .ok (.aload 5, 2) := by decide +kernel
theorem d13_56 : decode jdk_52_method_16_code 56 = .ok (.areturn, 1) := by decide +kernel
def Q_rm_cmpG (Z : State) (d : Addr) (kd : ClassId) (cl : List Int32) (h0 : Heap) (n0 : Nat) (v : Option Value) (h : Heap) (L : List Loc) : Prop := ∃ (r : Addr) (kr : ClassId), v = some (.ref r) ∧ Fr n0 L ∧ Keep h0 h [] ∧ OwnByt Z h r kr cl ∧ n0 ≤ r ∧ h0.size ≤ r
set_option maxRecDepth 65536 in
set_option maxHeartbeats 40000000 in
theorem rm_cmpG (l : Launch) (Z : State) (a0 : Array Value) (hw : ∀ d ∈ tables_1, d.before a0 Z = true) (ws : List Jvm.Cond) (d : Addr) (kd : ClassId) (cl : List Int32) (h0 : Heap) (n0 : Nat) (Z0 : n0 ≤ h0.size) (V_d : Arv Z h0 d kd .char (Int32.ofNat cl.length) (cl.map Value.int) (.int (0 : Int32))) (S__assertionsDisabled : Sta Z Z.heap "java/lang/StringUTF16" "$assertionsDisabled" "Z" (.int (1 : Int32))) (S_HI_BYTE_SHIFT : Sta Z Z.heap "java/lang/StringUTF16" "HI_BYTE_SHIFT" "I" (.int (0 : Int32))) (S_LO_BYTE_SHIFT : Sta Z Z.heap "java/lang/StringUTF16" "LO_BYTE_SHIFT" "I" (.int (8 : Int32))) (hlen : cl.length ≤ 4) (hcA : ∀ c ∈ cl, OwnCh c) (O : Old Z n0 h0) :
    Met l Z M13 jdk_52_method_16_code 6 (some (.array .byte)) ws (Rm 3 2 12 40) #[(.ref d), (.int (0 : Int32)), (.int (Int32.ofNat cl.length))] h0 (Q_rm_cmpG Z d kd cl h0 n0) := by
  refine met_of (plainFor_of_name pn_java_lang_StringUTF16) (own := "java/lang/StringUTF16") rfl (fun m => ef_rm_cmpG m d (0 : Int32) (Int32.ofNat cl.length)) ?_
  intro p e s m below meth c s₁ hx hby hml hown hnm hZ X0 e0 hret hlk
  have N0 := Fr.nil n0
  have K0 := Keep.refl h0 []
  show Goes p e below s _ _ _ (s₁.setTop (mkF m 0 #[.val (.ref d), .val (.int (0 : Int32)), .val (.int (Int32.ofNat cl.length)), .unset, .unset, .unset] []))
  refine Goes.pre (U' := s₁.setTop (mkF m 1 #[.val (.ref d), .val (.int (0 : Int32)), .val (.int (Int32.ofNat cl.length)), .unset, .unset, .unset] [(.int (Int32.ofNat cl.length))])) (fun t k => XS.iloadN X0.here hx rfl (hb hby d13_0) rfl k) ?_
  obtain ⟨T1, h1, k1, X1, e1, E1, A1, B1, st1⟩ := newPE X0 hx hZ (wq hw 29 rfl) e0 (g := (mkF m 1 #[.val (.ref d), .val (.int (0 : Int32)), .val (.int (Int32.ofNat cl.length)), .unset, .unset, .unset] [(.int (Int32.ofNat cl.length))])) rfl (hb hby d13_1) rfl (own_neg _ (Nat.le_trans hlen (by decide))) (cap := 4) (own_cap _ _ (Nat.le_trans hlen (by decide)) hlen) (by decide) (by decide) (by decide) (ad := "[B") (by decide)
  obtain ⟨nb1, g1⟩ : ∃ z, z = h0.size := ⟨_, rfl⟩
  rw [← g1] at A1 B1 st1
  have ne_d_nb1 : d ≠ nb1 := Nat.ne_of_lt (Nat.lt_of_lt_of_le V_d.lt (Nat.le_of_eq g1.symm))
  have ne_nb1_d := ne_d_nb1.symm
  have g_nb1 : n0 ≤ nb1 := Nat.le_trans Z0 (Nat.le_of_eq g1.symm)
  have sz_nb1 : h0.size ≤ nb1 := Nat.le_trans K0.1 (Nat.le_of_eq g1.symm)
  have V_d := V_d.ext E1
  have O := O.ext E1
  have Z1 : n0 ≤ h1.size := Nat.le_trans Z0 E1.1
  have K1 := K0.ext E1
  have E_nb1 := B1
  have V_nb1 : Arv Z h1 nb1 k1 .byte (Int32.ofNat cl.length) [] (.int (0 : Int32)) := Arv.new A1 (own_neg _ (Nat.le_trans hlen (by decide)))
  refine Goes.pre (U' := T1.setTop (mkF m 9 #[.val (.ref d), .val (.int (0 : Int32)), .val (.int (Int32.ofNat cl.length)), .val (.ref nb1), .unset, .unset] [(.int (Int32.ofNat cl.length)), (.int (0 : Int32)), (.ref nb1), (.int (0 : Int32)), (.ref d)])) (fun t k => st1 t (XS.astoreN X1.here hx rfl (hb hby d13_3) rfl rfl (l' := #[.val (.ref d), .val (.int (0 : Int32)), .val (.int (Int32.ofNat cl.length)), .val (.ref nb1), .unset, .unset]) rfl (XS.aloadN X1.here hx rfl (hb hby d13_4) rfl rfl (XS.iloadN X1.here hx rfl (hb hby d13_5) rfl (XS.aloadN X1.here hx rfl (hb hby d13_6) rfl rfl (XS.iconst X1.here hx rfl (hb hby d13_7) (XS.iloadN X1.here hx rfl (hb hby d13_8) rfl k))))))) ?_
  obtain ⟨_, _, ⟨T2, L2, k2, n2⟩, -, X2, ⟨Lc2, hQ2, l2, y2, z2⟩, st2⟩ := Jvm.LawKit.callS X1 hx (y := (⟨"java/lang/StringUTF16", "compress", "([CI[BII)I"⟩ : MethodName)) hown (mvT hZ (wq hw 65 rfl)) (mvT hZ (wq hw 66 rfl)) (mvT hZ (wq hw 63 rfl)) (mvT hZ (wq hw 67 rfl)) (by decide) (backOf (W := 0) (rm_cmpIG l Z a0 hw [] d kd nb1 k1 cl h1 n0 Z1 V_d V_nb1 hlen ne_d_nb1 g_nb1) hZ (wq hw 67 rfl) (wq hw 63 rfl) (by decide) (by decide)) (g := (mkF m 9 #[.val (.ref d), .val (.int (0 : Int32)), .val (.int (Int32.ofNat cl.length)), .val (.ref nb1), .unset, .unset] [(.int (Int32.ofNat cl.length)), (.int (0 : Int32)), (.ref nb1), (.int (0 : Int32)), (.ref d)])) rfl (by rw [hml]; rfl) (argsL := [(.ref d), (.int (0 : Int32)), (.ref nb1), (.int (0 : Int32)), (.int (Int32.ofNat cl.length))]) (rest := []) (lenOf pd__28_5bCI_5bBII_29I rfl) rfl (by show 2 * 0 + _ ≤ _; exact Nat.le_of_eq rfl) (hb hby d13_9) (fun _ _ => ⟨rfl, e1, (by decide : 1 + 0 ≤ _), (by decide : 4 + 0 ≤ _)⟩)
  dsimp only [Pt.U, Pt.locs, Pt.cells, Pt.slots] at X2 l2 y2 z2 st2 hQ2
  subst l2 y2 z2
  obtain ⟨j2, vs2, rfl, N2q, KQ2, fo0_2, hx2⟩ := hQ2
  have N2 := Fr.app N0 N2q
  have V_d := V_d.keep KQ2 (ninS ne_d_nb1 nin0)
  have E_nb1 := E_nb1.keep KQ2
  have Z3 : n0 ≤ T2.heap.size := Nat.le_trans Z1 KQ2.1
  have O := O.keep KQ2 (allS (P := fun x => n0 ≤ x) g_nb1 all0)
  have K3 := K1.trans KQ2 (allS (P := fun x => x ∈ [] ∨ h0.size ≤ x) (Or.inr sz_nb1) all0)
  have V_nb1 := fo0_2
  refine Goes.pre (U' := T2.setTop (mkF m 14 #[.val (.ref d), .val (.int (0 : Int32)), .val (.int (Int32.ofNat cl.length)), .val (.ref nb1), .val (.int (Int32.ofNat j2)), .unset] [])) (fun t k => st2 t (XS.istore X2.here hx rfl (hb hby d13_12) rfl (l' := #[.val (.ref d), .val (.int (0 : Int32)), .val (.int (Int32.ofNat cl.length)), .val (.ref nb1), .val (.int (Int32.ofNat j2)), .unset]) rfl k)) ?_
  rcases hx2 with ⟨hj, hv, hle⟩ | ⟨hj, hgt⟩
  ·
    subst hj hv
    refine Goes.pre (U' := T2.setTop (mkF m 17 #[.val (.ref d), .val (.int (0 : Int32)), .val (.int (Int32.ofNat cl.length)), .val (.ref nb1), .val (.int (Int32.ofNat cl.length)), .unset] [(.int (Int32.ofNat cl.length)), (.int (Int32.ofNat cl.length))])) (fun t k => XS.iload X2.here hx rfl (hb hby d13_14) rfl (XS.iloadN X2.here hx rfl (hb hby d13_16) rfl k)) ?_
    have hc17 : (Int32.ofNat cl.length) = (Int32.ofNat cl.length) := rfl
    refine Goes.pre (U' := T2.setTop (mkF m 58 #[.val (.ref d), .val (.int (0 : Int32)), .val (.int (Int32.ofNat cl.length)), .val (.ref nb1), .val (.int (Int32.ofNat cl.length)), .unset] [(.ref nb1)])) (fun t k => XS.icmpYes X2.here hx rfl (pc0 := 17) (pc' := 57) rfl (hb hby d13_17) rfl (teq hc17).1 (by decide) (by decide) (XS.aloadN X2.here hx rfl (hb hby d13_57) rfl rfl k)) ?_
    refine Goes.ret X2 (v := (some (.ref nb1))) (fun h => by rw [hret] at h; cases h) hlk (by decide) (by decide) rfl (fun fs hr => retOut X2 hx hret rfl (Or.inr (Or.inr (Or.inr (Or.inr ⟨rfl, rfl, rfl⟩)))) (hb hby d13_58) hr) ?_
    exact ⟨nb1, k1, rfl, N2, K3, Or.inl ⟨V_nb1, hle⟩, g_nb1, sz_nb1⟩
  ·
    refine Goes.pre (U' := T2.setTop (mkF m 17 #[.val (.ref d), .val (.int (0 : Int32)), .val (.int (Int32.ofNat cl.length)), .val (.ref nb1), .val (.int (Int32.ofNat j2)), .unset] [(.int (Int32.ofNat cl.length)), (.int (Int32.ofNat j2))])) (fun t k => XS.iload X2.here hx rfl (hb hby d13_14) rfl (XS.iloadN X2.here hx rfl (hb hby d13_16) rfl k)) ?_
    have hc17 : ¬ ((Int32.ofNat j2) = (Int32.ofNat cl.length)) := own_nei _ _ hj (Nat.le_trans hlen (by decide))
    refine Goes.pre (U' := T2.setTop (mkF m 23 #[.val (.ref d), .val (.int (0 : Int32)), .val (.int (Int32.ofNat cl.length)), .val (.ref nb1), .val (.int (Int32.ofNat j2)), .unset] [(.int (Int32.ofNat cl.length)), (.int (0 : Int32)), (.ref d)])) (fun t k => XS.icmpNo X2.here hx rfl (hb hby d13_17) rfl (feq hc17).1 (XS.aloadN X2.here hx rfl (hb hby d13_20) rfl rfl (XS.iloadN X2.here hx rfl (hb hby d13_21) rfl (XS.iloadN X2.here hx rfl (hb hby d13_22) rfl k)))) ?_
    have lt_d := V_d.lt
    have lt_nb1 := E_nb1.lt
    obtain ⟨_, _, ⟨T4, L4, k4, n4⟩, -, X4, ⟨Lc4, hQ4, l4, y4, z4⟩, st4⟩ := Jvm.LawKit.callS X2 hx (y := (⟨"java/lang/StringUTF16", "toBytes", "([CII)[B"⟩ : MethodName)) hown (mvT hZ (wq hw 68 rfl)) (mvT hZ (wq hw 69 rfl)) (mvT hZ (wq hw 63 rfl)) (mvT hZ (wq hw 70 rfl)) (by decide) (backOf (W := 0) (rm_toBG l Z a0 hw [] d kd cl T2.heap n0 Z3 V_d S__assertionsDisabled S_HI_BYTE_SHIFT S_LO_BYTE_SHIFT hlen O) hZ (wq hw 70 rfl) (wq hw 63 rfl) (by decide) (by decide)) (g := (mkF m 23 #[.val (.ref d), .val (.int (0 : Int32)), .val (.int (Int32.ofNat cl.length)), .val (.ref nb1), .val (.int (Int32.ofNat j2)), .unset] [(.int (Int32.ofNat cl.length)), (.int (0 : Int32)), (.ref d)])) rfl (by rw [hml]; rfl) (argsL := [(.ref d), (.int (0 : Int32)), (.int (Int32.ofNat cl.length))]) (rest := []) (lenOf pd__28_5bCII_29_5bB rfl) rfl (by show 2 * 0 + _ ≤ _; exact Nat.le_of_eq rfl) (hb hby d13_23) (fun _ _ => ⟨rfl, rfl, (by decide : 1 + 1 ≤ _), (by decide : 4 + 8 ≤ _)⟩)
    dsimp only [Pt.U, Pt.locs, Pt.cells, Pt.slots] at X4 l4 y4 z4 st4 hQ4
    subst l4 y4 z4
    obtain ⟨r4, kr4, rfl, N4q, KQ4, fo0_4, g_r4, sl_r4⟩ := hQ4
    have N4 := Fr.app N2 N4q
    have V_d := V_d.keep KQ4 nin0
    have E_nb1 := E_nb1.keep KQ4
    have V_nb1 := V_nb1.keep KQ4 nin0
    have Z5 : n0 ≤ T4.heap.size := Nat.le_trans Z3 KQ4.1
    have O := O.keep KQ4 all0
    have K5 := K3.trans KQ4 all0
    have ne_d_r4 : d ≠ r4 := Nat.ne_of_lt (Nat.lt_of_lt_of_le lt_d sl_r4)
    have ne_r4_d := ne_d_r4.symm
    have ne_nb1_r4 : nb1 ≠ r4 := Nat.ne_of_lt (Nat.lt_of_lt_of_le lt_nb1 sl_r4)
    have ne_r4_nb1 := ne_nb1_r4.symm
    have sz_r4 : h0.size ≤ r4 := Nat.le_trans K3.1 sl_r4
    have V_r4 := fo0_4
    refine Goes.pre (U' := T4.setTop (mkF m 32 #[.val (.ref d), .val (.int (0 : Int32)), .val (.int (Int32.ofNat cl.length)), .val (.ref nb1), .val (.int (Int32.ofNat j2)), .val (.ref r4)] [(.int (Int32.ofNat j2)), (.ref r4)])) (fun t k => st4 t (XS.astore X4.here hx rfl (hb hby d13_26) rfl rfl (l' := #[.val (.ref d), .val (.int (0 : Int32)), .val (.int (Int32.ofNat cl.length)), .val (.ref nb1), .val (.int (Int32.ofNat j2)), .val (.ref r4)]) rfl (XS.aload X4.here hx rfl (hb hby d13_28) rfl rfl (XS.iload X4.here hx rfl (hb hby d13_30) rfl k)))) ?_
    obtain ⟨_, _, ⟨T6, L6, k6, n6⟩, -, X6, ⟨Lc6, hQ6, l6, y6, z6⟩, st6⟩ := Jvm.LawKit.callS X4 hx (y := (⟨"java/lang/StringUTF16", "getChar", "([BI)C"⟩ : MethodName)) hown (mvT hZ (wq hw 84 rfl)) (mvT hZ (wq hw 85 rfl)) (mvT hZ (wq hw 63 rfl)) (mvT hZ (wq hw 86 rfl)) (by decide) (backOf (W := 0) (rm_getChG l Z a0 hw [] r4 kr4 cl (Int32.ofNat j2) T4.heap n0 Z5 V_r4 S__assertionsDisabled S_HI_BYTE_SHIFT S_LO_BYTE_SHIFT (own_ix _ _ hj (Nat.le_trans hlen (by decide))).1 (own_ix _ _ hj (Nat.le_trans hlen (by decide))).2 (Nat.le_trans hlen (by decide)) hcA O) hZ (wq hw 86 rfl) (wq hw 63 rfl) (by decide) (by decide)) (g := (mkF m 32 #[.val (.ref d), .val (.int (0 : Int32)), .val (.int (Int32.ofNat cl.length)), .val (.ref nb1), .val (.int (Int32.ofNat j2)), .val (.ref r4)] [(.int (Int32.ofNat j2)), (.ref r4)])) rfl (by rw [hml]; rfl) (argsL := [(.ref r4), (.int (Int32.ofNat j2))]) (rest := []) (lenOf pd__28_5bBI_29C rfl) rfl (by show 2 * 0 + _ ≤ _; exact Nat.le_of_eq rfl) (hb hby d13_32) (fun _ _ => ⟨rfl, rfl, (by decide : 2 + 0 ≤ _), (by decide : 12 + 0 ≤ _)⟩)
    dsimp only [Pt.U, Pt.locs, Pt.cells, Pt.slots] at X6 l6 y6 z6 st6 hQ6
    subst l6 y6 z6
    obtain ⟨rfl, N6q, HQ6⟩ := hQ6
    have N6 := Fr.app N4 N6q
    refine Goes.pre (U' := T6.setTop (mkF m 38 #[.val (.ref d), .val (.int (0 : Int32)), .val (.int (Int32.ofNat cl.length)), .val (.ref nb1), .val (.int (Int32.ofNat j2)), .val (.ref r4)] [(.int (255 : Int32)), (.int (cl.getD (Int32.ofNat j2).toNatClampNeg 0))])) (fun t k => st6 t (XS.sipush X6.here hx rfl (hb hby d13_35) k)) ?_
    have hc38 : (255 : Int32) < (cl.getD (Int32.ofNat j2).toNatClampNeg 0) := by rw [own_ixn _ (Nat.le_trans (Nat.le_of_lt hj) (Nat.le_trans hlen (by decide)))]; exact hgt
    refine Goes.pre (U' := T6.setTop (mkF m 56 #[.val (.ref d), .val (.int (0 : Int32)), .val (.int (Int32.ofNat cl.length)), .val (.ref nb1), .val (.int (Int32.ofNat j2)), .val (.ref r4)] [(.ref r4)])) (fun t k => XS.icmpYes X6.here hx rfl (pc0 := 38) (pc' := 54) rfl (hb hby d13_38) rfl (tlt hc38).2.2.1 (by decide) (by decide) (XS.aload X6.here hx rfl (hb hby d13_54) rfl rfl k)) ?_
    refine Goes.ret X6 (v := (some (.ref r4))) (fun h => by rw [hret] at h; cases h) hlk (by decide) (by decide) HQ6 (fun fs hr => retOut X6 hx hret rfl (Or.inr (Or.inr (Or.inr (Or.inr ⟨rfl, rfl, rfl⟩)))) (hb hby d13_56) hr) ?_
    exact ⟨r4, kr4, rfl, N6, K5, Or.inr ⟨V_r4, _, own_gmem cl _ hj, hgt⟩, g_r4, sz_r4⟩
theorem ef_rm_cflG0 (m : MethodId) (x0 : Addr) (x1 : Int32) : entryFrame m #[(.ref x0), (.int x1)] 2 = mkF m 0 #[.val (.ref x0), .val (.int x1)] [] := by first | (simp [entryFrame, mkF, argsToLocals, Value.category]; done) | rfl
abbrev M20 : MethodName := ⟨"java/lang/StringUTF16", "coderFromArrayLen", "([BI)B"⟩
theorem d20_0 : decode jdk_52_method_15_code 0 = .ok (.iload_n 1, 1) := by decide +kernel
theorem d20_1 : decode jdk_52_method_15_code 1 = .ok (.aload_n 0, 1) := by decide +kernel
theorem d20_2 : decode jdk_52_method_15_code 2 = .ok (.arraylength, 1) := by decide +kernel
theorem d20_3 : decode jdk_52_method_15_code 3 = .ok (.isub, 1) := by decide +kernel
theorem d20_4 : decode jdk_52_method_15_code 4 = .ok (.bipush 31, 2) := by decide +kernel
theorem d20_6 : decode jdk_52_method_15_code 6 = .ok (.iushr, 1) := by decide +kernel
theorem d20_7 : decode jdk_52_method_15_code 7 = .ok (.i2b, 1) := by decide +kernel
theorem d20_8 : decode jdk_52_method_15_code 8 = .ok (.ireturn, 1) := by decide +kernel
def Q_rm_cflG0 (Z : State) (b : Addr) (kb : ClassId) (cl : List Int32) (h0 : Heap) (n0 : Nat) (v : Option Value) (h : Heap) (L : List Loc) : Prop := v = some (.int (0 : Int32)) ∧ Fr n0 L ∧ h = h0
set_option maxRecDepth 65536 in
set_option maxHeartbeats 40000000 in
theorem rm_cflG0 (l : Launch) (Z : State) (a0 : Array Value) (hw : ∀ d ∈ tables_1, d.before a0 Z = true) (ws : List Jvm.Cond) (b : Addr) (kb : ClassId) (cl : List Int32) (h0 : Heap) (n0 : Nat) (Z0 : n0 ≤ h0.size) (V_b : Arv Z h0 b kb .byte (Int32.ofNat cl.length) (cl.map fun c => .int c.toInt8.toInt32) (.int (0 : Int32))) (hp : 0 < cl.length) (hlen : cl.length ≤ 4) :
    Met l Z M20 jdk_52_method_15_code 2 (some .byte) ws (Rm 0 0 0 0) #[(.ref b), (.int (Int32.ofNat cl.length))] h0 (Q_rm_cflG0 Z b kb cl h0 n0) := by
  refine met_of (plainFor_of_name pn_java_lang_StringUTF16) (own := "java/lang/StringUTF16") rfl (fun m => ef_rm_cflG0 m b (Int32.ofNat cl.length)) ?_
  intro p e s m below meth c s₁ hx hby hml hown hnm hZ X0 e0 hret hlk
  have N0 := Fr.nil n0
  show Goes p e below s _ _ _ (s₁.setTop (mkF m 0 #[.val (.ref b), .val (.int (Int32.ofNat cl.length))] []))
  refine Goes.pre (U' := s₁.setTop (mkF m 2 #[.val (.ref b), .val (.int (Int32.ofNat cl.length))] [(.ref b), (.int (Int32.ofNat cl.length))])) (fun t k => XS.iloadN X0.here hx rfl (hb hby d20_0) rfl (XS.aloadN X0.here hx rfl (hb hby d20_1) rfl rfl k)) ?_
  obtain ⟨cl1, Ar1, q1, Sz1, Ng1, -, -⟩ := id V_b
  have ln1 := len_of Sz1 Ng1
  refine Goes.pre (U' := s₁.setTop (mkF m 8 #[.val (.ref b), .val (.int (Int32.ofNat cl.length))] [(.int (((((Int32.ofNat cl.length) - (Int32.ofNat cl.length)).toUInt32 >>> ((31 : Int32) &&& 31).toUInt32).toInt32).toInt8.toInt32))])) (fun t k => X0.arraylength hx (by rw [e0]; exact Ar1.1) (State.isArrayOf_alike hZ.alike Ar1.2.1) (g := (mkF m 2 #[.val (.ref b), .val (.int (Int32.ofNat cl.length))] [(.ref b), (.int (Int32.ofNat cl.length))])) rfl rfl (hb hby d20_2) _ (by rw [ln1]; exact (XS.isub X0.here hx rfl (hb hby d20_3) rfl (XS.bipush X0.here hx rfl (hb hby d20_4) (XS.iushr X0.here hx rfl (hb hby d20_6) rfl (XS.i2b X0.here hx rfl (hb hby d20_7) rfl k)))))) ?_
  refine Goes.ret X0 (v := (some (.int (0 : Int32)))) (fun h => by rw [hret] at h; cases h) hlk (by decide) (by decide) e0 (fun fs hr => retN X0 hx (t := .byte) hret (by simp) (hb hby d20_8) (by rw [show nar .byte (((((Int32.ofNat cl.length) - (Int32.ofNat cl.length)).toUInt32 >>> ((31 : Int32) &&& 31).toUInt32).toInt32).toInt8.toInt32) = (0 : Int32) from own_c0]; exact hr)) ?_
  exact ⟨rfl, N0, rfl⟩
theorem ef_rm_cflG1 (m : MethodId) (x0 : Addr) (x1 : Int32) : entryFrame m #[(.ref x0), (.int x1)] 2 = mkF m 0 #[.val (.ref x0), .val (.int x1)] [] := by first | (simp [entryFrame, mkF, argsToLocals, Value.category]; done) | rfl
def Q_rm_cflG1 (Z : State) (b : Addr) (kb : ClassId) (cl : List Int32) (h0 : Heap) (n0 : Nat) (v : Option Value) (h : Heap) (L : List Loc) : Prop := v = some (.int (1 : Int32)) ∧ Fr n0 L ∧ h = h0
set_option maxRecDepth 65536 in
set_option maxHeartbeats 40000000 in
theorem rm_cflG1 (l : Launch) (Z : State) (a0 : Array Value) (hw : ∀ d ∈ tables_1, d.before a0 Z = true) (ws : List Jvm.Cond) (b : Addr) (kb : ClassId) (cl : List Int32) (h0 : Heap) (n0 : Nat) (Z0 : n0 ≤ h0.size) (V_b : Arv Z h0 b kb .byte (Int32.ofNat (2 * cl.length)) (cl.flatMap fun c => [.int (c >>> ((0 : Int32) &&& 31)).toInt8.toInt32, .int (c >>> ((8 : Int32) &&& 31)).toInt8.toInt32]) (.int (0 : Int32))) (hp : 0 < cl.length) (hlen : cl.length ≤ 4) :
    Met l Z M20 jdk_52_method_15_code 2 (some .byte) ws (Rm 0 0 0 0) #[(.ref b), (.int (Int32.ofNat cl.length))] h0 (Q_rm_cflG1 Z b kb cl h0 n0) := by
  refine met_of (plainFor_of_name pn_java_lang_StringUTF16) (own := "java/lang/StringUTF16") rfl (fun m => ef_rm_cflG1 m b (Int32.ofNat cl.length)) ?_
  intro p e s m below meth c s₁ hx hby hml hown hnm hZ X0 e0 hret hlk
  have N0 := Fr.nil n0
  show Goes p e below s _ _ _ (s₁.setTop (mkF m 0 #[.val (.ref b), .val (.int (Int32.ofNat cl.length))] []))
  refine Goes.pre (U' := s₁.setTop (mkF m 2 #[.val (.ref b), .val (.int (Int32.ofNat cl.length))] [(.ref b), (.int (Int32.ofNat cl.length))])) (fun t k => XS.iloadN X0.here hx rfl (hb hby d20_0) rfl (XS.aloadN X0.here hx rfl (hb hby d20_1) rfl rfl k)) ?_
  obtain ⟨cl1, Ar1, q1, Sz1, Ng1, -, -⟩ := id V_b
  have ln1 := len_of Sz1 Ng1
  refine Goes.pre (U' := s₁.setTop (mkF m 8 #[.val (.ref b), .val (.int (Int32.ofNat cl.length))] [(.int (((((Int32.ofNat cl.length) - (Int32.ofNat (2 * cl.length))).toUInt32 >>> ((31 : Int32) &&& 31).toUInt32).toInt32).toInt8.toInt32))])) (fun t k => X0.arraylength hx (by rw [e0]; exact Ar1.1) (State.isArrayOf_alike hZ.alike Ar1.2.1) (g := (mkF m 2 #[.val (.ref b), .val (.int (Int32.ofNat cl.length))] [(.ref b), (.int (Int32.ofNat cl.length))])) rfl rfl (hb hby d20_2) _ (by rw [ln1]; exact (XS.isub X0.here hx rfl (hb hby d20_3) rfl (XS.bipush X0.here hx rfl (hb hby d20_4) (XS.iushr X0.here hx rfl (hb hby d20_6) rfl (XS.i2b X0.here hx rfl (hb hby d20_7) rfl k)))))) ?_
  refine Goes.ret X0 (v := (some (.int (1 : Int32)))) (fun h => by rw [hret] at h; cases h) hlk (by decide) (by decide) e0 (fun fs hr => retN X0 hx (t := .byte) hret (by simp) (hb hby d20_8) (by rw [show nar .byte (((((Int32.ofNat cl.length) - (Int32.ofNat (2 * cl.length))).toUInt32 >>> ((31 : Int32) &&& 31).toUInt32).toInt32).toInt8.toInt32) = (1 : Int32) from own_c1 _ hp (Nat.le_trans hlen (by decide))]; exact hr)) ?_
  exact ⟨rfl, N0, rfl⟩
theorem ef_rm_init4G (m : MethodId) (x0 : Addr) (x1 : Addr) (x2 : Int32) (x3 : Int32) : entryFrame m #[(.ref x0), (.ref x1), (.int x2), (.int x3), .null] 6 = mkF m 0 #[.val (.ref x0), .val (.ref x1), .val (.int x2), .val (.int x3), .val .null, .unset] [] := by first | (simp [entryFrame, mkF, argsToLocals, Value.category]; done) | rfl
abbrev M5 : MethodName := ⟨"java/lang/String", "<init>", "([CIILjava/lang/Void;)V"⟩
theorem d5_0 : decode jdk_42_method_149_code 0 = .ok (.aload_n 0, 1) := by decide +kernel
theorem d5_1 : decode jdk_42_method_149_code 1 = .ok (.invokespecial 1, 3) := by decide +kernel
theorem d5_4 : decode jdk_42_method_149_code 4 = .ok (.iload_n 3, 1) := by decide +kernel
theorem d5_5 : decode jdk_42_method_149_code 5 = .ok (.ifCond .ne 22, 3) := by decide +kernel
theorem d5_27 : decode jdk_42_method_149_code 27 = .ok (.getstatic 38, 3) := by decide +kernel
theorem d5_30 : decode jdk_42_method_149_code 30 = .ok (.ifCond .eq 28, 3) := by decide +kernel
theorem d5_33 : decode jdk_42_method_149_code 33 = .ok (.aload_n 1, 1) := by decide +kernel
theorem d5_34 : decode jdk_42_method_149_code 34 = .ok (.iload_n 2, 1) := by decide +kernel
theorem d5_35 : decode jdk_42_method_149_code 35 = .ok (.iload_n 3, 1) := by decide +kernel
theorem d5_36 : decode jdk_42_method_149_code 36 = .ok (.invokestatic 177, 3) := by decide +kernel
theorem d5_39 : decode jdk_42_method_149_code 39 = .ok (.astore 5, 2) := by decide +kernel
theorem d5_41 : decode jdk_42_method_149_code 41 = .ok (.aload_n 0, 1) := by decide +kernel
theorem d5_42 : decode jdk_42_method_149_code 42 = .ok (.aload 5, 2) := by decide +kernel
theorem d5_44 : decode jdk_42_method_149_code 44 = .ok (.iload_n 3, 1) := by decide +kernel
theorem d5_45 : decode jdk_42_method_149_code 45 = .ok (.invokestatic 47, 3) := by decide +kernel
theorem pd__28_5bBI_29B : parseMethodDescriptor "([BI)B" = some ⟨[(.array .byte), .int], some .byte⟩ := by decide +kernel
theorem d5_48 : decode jdk_42_method_149_code 48 = .ok (.putfield 15, 3) := by decide +kernel
theorem d5_51 : decode jdk_42_method_149_code 51 = .ok (.aload_n 0, 1) := by decide +kernel
theorem d5_52 : decode jdk_42_method_149_code 52 = .ok (.aload 5, 2) := by decide +kernel
theorem d5_54 : decode jdk_42_method_149_code 54 = .ok (.putfield 9, 3) := by decide +kernel
theorem d5_57 : decode jdk_42_method_149_code 57 = .ok (.return_, 1) := by decide +kernel
def Q_rm_init4G (Z : State) (a : Addr) (d : Addr) (kd : ClassId) (cl : List Int32) (cs : Int32) (h0 : Heap) (n0 : Nat) (v : Option Value) (h : Heap) (L : List Loc) : Prop := ∃ (b : Addr) (kb : ClassId), v = none ∧ Fr n0 L ∧ Keep h0 h [a] ∧ OwnStr Z h a b kb cl ∧ n0 ≤ b ∧ h0.size ≤ b
set_option maxRecDepth 65536 in
set_option maxHeartbeats 40000000 in
theorem rm_init4G (l : Launch) (Z : State) (a0 : Array Value) (hw : ∀ d ∈ tables_1, d.before a0 Z = true) (ws : List Jvm.Cond) (a : Addr) (d : Addr) (kd : ClassId) (cl : List Int32) (cs : Int32) (h0 : Heap) (n0 : Nat) (Z0 : n0 ≤ h0.size) (E_a : Exa Z h0 a "java/lang/String") (F_value_a : Fld Z h0 a "java/lang/String" "value" "[B" .null) (F_coder_a : Fld Z h0 a "java/lang/String" "coder" "B" (.int (0 : Int32))) (V_d : Arv Z h0 d kd .char (Int32.ofNat cl.length) (cl.map Value.int) (.int (0 : Int32))) (S_COMPACT_STRINGS : Sta Z Z.heap "java/lang/String" "COMPACT_STRINGS" "Z" (.int cs)) (S__assertionsDisabled : Sta Z Z.heap "java/lang/StringUTF16" "$assertionsDisabled" "Z" (.int (1 : Int32))) (S_HI_BYTE_SHIFT : Sta Z Z.heap "java/lang/StringUTF16" "HI_BYTE_SHIFT" "I" (.int (0 : Int32))) (S_LO_BYTE_SHIFT : Sta Z Z.heap "java/lang/StringUTF16" "LO_BYTE_SHIFT" "I" (.int (8 : Int32))) (hlen : cl.length ≤ 4) (hcA : ∀ c ∈ cl, OwnCh c) (hne : cl ≠ []) (hcs : ¬ (cs = (0 : Int32))) (ne_d_a : d ≠ a) (g_a : n0 ≤ a) (O : Old Z n0 h0) :
    Met l Z M5 jdk_42_method_149_code 6 none ws (Rm 4 2 12 57) #[(.ref a), (.ref d), (.int (0 : Int32)), (.int (Int32.ofNat cl.length)), .null] h0 (Q_rm_init4G Z a d kd cl cs h0 n0) := by
  refine met_of (plainFor_of_name pn_java_lang_String) (own := "java/lang/String") rfl (fun m => ef_rm_init4G m a d (0 : Int32) (Int32.ofNat cl.length)) ?_
  intro p e s m below meth c s₁ hx hby hml hown hnm hZ X0 e0 hret hlk
  have N0 := Fr.nil n0
  have K0 := Keep.refl h0 [a]
  show Goes p e below s _ _ _ (s₁.setTop (mkF m 0 #[.val (.ref a), .val (.ref d), .val (.int (0 : Int32)), .val (.int (Int32.ofNat cl.length)), .val .null, .unset] []))
  refine Goes.pre (U' := s₁.setTop (mkF m 1 #[.val (.ref a), .val (.ref d), .val (.int (0 : Int32)), .val (.int (Int32.ofNat cl.length)), .val .null, .unset] [(.ref a)])) (fun t k => XS.aloadN X0.here hx rfl (hb hby d5_0) rfl rfl k) ?_
  obtain ⟨T1, X1, e1, st1⟩ := initO X0 hx hZ hown (wq hw 25 rfl) (wq hw 26 rfl) (wq hw 27 rfl) e0 (g := (mkF m 1 #[.val (.ref a), .val (.ref d), .val (.int (0 : Int32)), .val (.int (Int32.ofNat cl.length)), .val .null, .unset] [(.ref a)])) rfl (by rw [hml]; rfl) rfl (hb hby d5_1) (by decide) (W := 0) (by show 2 * 0 + _ ≤ _; exact Nat.le_of_eq rfl) (by decide)
  refine Goes.pre (U' := T1.setTop (mkF m 5 #[.val (.ref a), .val (.ref d), .val (.int (0 : Int32)), .val (.int (Int32.ofNat cl.length)), .val .null, .unset] [(.int (Int32.ofNat cl.length))])) (fun t k => st1 t (XS.iloadN X1.here hx rfl (hb hby d5_4) rfl k)) ?_
  have hc5 : ¬ ((Int32.ofNat cl.length) = (0 : Int32)) := own_ne0 cl hne (Nat.le_trans hlen (by decide))
  refine Goes.pre (U' := T1.setTop (mkF m 27 #[.val (.ref a), .val (.ref d), .val (.int (0 : Int32)), .val (.int (Int32.ofNat cl.length)), .val .null, .unset] [])) (fun t k => XS.ifYes X1.here hx rfl (pc0 := 5) (pc' := 27) rfl (hb hby d5_5) rfl ((if0 _ _).trans (feq hc5).2) (by decide) (by decide) k) ?_
  obtain ⟨T2, X2, e2, st2⟩ := getS2 X1 hx hZ hown (host := "") (Or.inl (wq hw 53 rfl)) Via.refl e1 (S_COMPACT_STRINGS.ext O.2) (g := (mkF m 27 #[.val (.ref a), .val (.ref d), .val (.int (0 : Int32)), .val (.int (Int32.ofNat cl.length)), .val .null, .unset] [])) rfl (hb hby d5_27)
  refine Goes.pre (U' := T2.setTop (mkF m 30 #[.val (.ref a), .val (.ref d), .val (.int (0 : Int32)), .val (.int (Int32.ofNat cl.length)), .val .null, .unset] [(.int cs)])) (fun t k => st2 t k) ?_
  have hc30 : ¬ (cs = (0 : Int32)) := hcs
  refine Goes.pre (U' := T2.setTop (mkF m 36 #[.val (.ref a), .val (.ref d), .val (.int (0 : Int32)), .val (.int (Int32.ofNat cl.length)), .val .null, .unset] [(.int (Int32.ofNat cl.length)), (.int (0 : Int32)), (.ref d)])) (fun t k => XS.ifNo X2.here hx rfl (hb hby d5_30) rfl ((if0 _ _).trans (feq hc30).1) (XS.aloadN X2.here hx rfl (hb hby d5_33) rfl rfl (XS.iloadN X2.here hx rfl (hb hby d5_34) rfl (XS.iloadN X2.here hx rfl (hb hby d5_35) rfl k)))) ?_
  have lt_a := E_a.lt
  have lt_d := V_d.lt
  obtain ⟨_, _, ⟨T3, L3, k3, n3⟩, -, X3, ⟨Lc3, hQ3, l3, y3, z3⟩, st3⟩ := Jvm.LawKit.callS X2 hx (y := (⟨"java/lang/StringUTF16", "compress", "([CII)[B"⟩ : MethodName)) hown (mvT hZ (wq hw 61 rfl)) (mvT hZ (wq hw 62 rfl)) (mvT hZ (wq hw 63 rfl)) (mvT hZ (wq hw 64 rfl)) (by decide) (backOf (W := 0) (rm_cmpG l Z a0 hw [] d kd cl h0 n0 Z0 V_d S__assertionsDisabled S_HI_BYTE_SHIFT S_LO_BYTE_SHIFT hlen hcA O) hZ (wq hw 64 rfl) (wq hw 63 rfl) (by decide) (by decide)) (g := (mkF m 36 #[.val (.ref a), .val (.ref d), .val (.int (0 : Int32)), .val (.int (Int32.ofNat cl.length)), .val .null, .unset] [(.int (Int32.ofNat cl.length)), (.int (0 : Int32)), (.ref d)])) rfl (by rw [hml]; rfl) (argsL := [(.ref d), (.int (0 : Int32)), (.int (Int32.ofNat cl.length))]) (rest := []) (lenOf pd__28_5bCII_29_5bB rfl) rfl (by show 2 * 0 + _ ≤ _; exact Nat.le_of_eq rfl) (hb hby d5_36) (fun _ _ => ⟨rfl, e2, (by decide : 0 + 2 ≤ _), (by decide : 0 + 12 ≤ _)⟩)
  dsimp only [Pt.U, Pt.locs, Pt.cells, Pt.slots] at X3 l3 y3 z3 st3 hQ3
  subst l3 y3 z3
  obtain ⟨r3, kr3, rfl, N3q, KQ3, fo0_3, g_r3, sl_r3⟩ := hQ3
  have N3 := Fr.app N0 N3q
  have E_a := E_a.keep KQ3
  have F_value_a := F_value_a.keep KQ3 nin0
  have F_coder_a := F_coder_a.keep KQ3 nin0
  have V_d := V_d.keep KQ3 nin0
  have Z4 : n0 ≤ T3.heap.size := Nat.le_trans Z0 KQ3.1
  have O := O.keep KQ3 all0
  have K4 := K0.trans KQ3 all0
  have ne_a_r3 : a ≠ r3 := Nat.ne_of_lt (Nat.lt_of_lt_of_le lt_a sl_r3)
  have ne_r3_a := ne_a_r3.symm
  have ne_d_r3 : d ≠ r3 := Nat.ne_of_lt (Nat.lt_of_lt_of_le lt_d sl_r3)
  have ne_r3_d := ne_d_r3.symm
  have sz_r3 : h0.size ≤ r3 := Nat.le_trans K0.1 sl_r3
  have Byt_r3 := fo0_3
  refine Goes.pre (U' := T3.setTop (mkF m 41 #[.val (.ref a), .val (.ref d), .val (.int (0 : Int32)), .val (.int (Int32.ofNat cl.length)), .val .null, .val (.ref r3)] [])) (fun t k => st3 t (XS.astore X3.here hx rfl (hb hby d5_39) rfl rfl (l' := #[.val (.ref a), .val (.ref d), .val (.int (0 : Int32)), .val (.int (Int32.ofNat cl.length)), .val .null, .val (.ref r3)]) rfl k)) ?_
  rcases Byt_r3 with ⟨V_r3, hleS⟩ | ⟨V_r3, hexS⟩
  ·
    refine Goes.pre (U' := T3.setTop (mkF m 45 #[.val (.ref a), .val (.ref d), .val (.int (0 : Int32)), .val (.int (Int32.ofNat cl.length)), .val .null, .val (.ref r3)] [(.int (Int32.ofNat cl.length)), (.ref r3), (.ref a)])) (fun t k => XS.aloadN X3.here hx rfl (hb hby d5_41) rfl rfl (XS.aload X3.here hx rfl (hb hby d5_42) rfl rfl (XS.iloadN X3.here hx rfl (hb hby d5_44) rfl k))) ?_
    obtain ⟨_, _, ⟨T5, L5, k5, n5⟩, -, X5, ⟨Lc5, hQ5, l5, y5, z5⟩, st5⟩ := Jvm.LawKit.callS X3 hx (y := (⟨"java/lang/StringUTF16", "coderFromArrayLen", "([BI)B"⟩ : MethodName)) hown (mvT hZ (wq hw 87 rfl)) (mvT hZ (wq hw 88 rfl)) (mvT hZ (wq hw 63 rfl)) (mvT hZ (wq hw 89 rfl)) (by decide) (backOf (W := 1) (rm_cflG0 l Z a0 hw [] r3 kr3 cl T3.heap n0 Z4 V_r3 (List.length_pos_iff.mpr hne) hlen) hZ (wq hw 89 rfl) (wq hw 63 rfl) (by decide) (by decide)) (g := (mkF m 45 #[.val (.ref a), .val (.ref d), .val (.int (0 : Int32)), .val (.int (Int32.ofNat cl.length)), .val .null, .val (.ref r3)] [(.int (Int32.ofNat cl.length)), (.ref r3), (.ref a)])) rfl (by rw [hml]; rfl) (argsL := [(.ref r3), (.int (Int32.ofNat cl.length))]) (rest := [(.ref a)]) (lenOf pd__28_5bBI_29B rfl) rfl (by show 2 * 0 + _ ≤ _; exact Nat.le_of_eq rfl) (hb hby d5_45) (fun _ _ => ⟨rfl, rfl, (by decide : 2 + 0 ≤ _), (by decide : 12 + 0 ≤ _)⟩)
    dsimp only [Pt.U, Pt.locs, Pt.cells, Pt.slots] at X5 l5 y5 z5 st5 hQ5
    subst l5 y5 z5
    obtain ⟨rfl, N5q, HQ5⟩ := hQ5
    have N5 := Fr.app N3 N5q
    refine Goes.pre (U' := T5.setTop (mkF m 48 #[.val (.ref a), .val (.ref d), .val (.int (0 : Int32)), .val (.int (Int32.ofNat cl.length)), .val .null, .val (.ref r3)] [(.int (0 : Int32)), (.ref a)])) (fun t k => st5 t k) ?_
    obtain ⟨T6, h6, X6, e6, W6, st6⟩ := putFN X5 hx hZ hown (wq hw 35 rfl) Via.refl HQ5 F_coder_a E_a (Or.inr ⟨(wq hw 31 rfl), rfl, hnm⟩) (wq hw 16 rfl) (ty := .byte) (v' := (.int (0 : Int32))) (by decide) rfl (by decide) (g := (mkF m 48 #[.val (.ref a), .val (.ref d), .val (.int (0 : Int32)), .val (.int (Int32.ofNat cl.length)), .val .null, .val (.ref r3)] [(.int (0 : Int32)), (.ref a)])) rfl rfl (hb hby d5_48)
    have E_a := E_a.wr W6
    have F_value_a := F_value_a.other W6 (Or.inr (slot_ne (Or.inr (wq hw 30 rfl)) (Or.inr (wq hw 31 rfl)) (by decide) (t := (.array .byte)) (t' := .byte) (by decide) (by decide)))
    have V_d := V_d.other W6 ne_d_a
    have V_r3 := V_r3.other W6 ne_r3_a
    have Z6 : n0 ≤ h6.size := Nat.le_trans Z4 (Keep.of_wr W6).1
    have O := O.wr W6 g_a
    have F_coder_a := F_coder_a.same W6
    have K6 := K4.wr W6 (Or.inl (List.mem_of_getElem? (i := 0) rfl))
    have N6 := Fr.snoc X6 N5 g_a
    refine Goes.pre (U' := T6.setTop (mkF m 54 #[.val (.ref a), .val (.ref d), .val (.int (0 : Int32)), .val (.int (Int32.ofNat cl.length)), .val .null, .val (.ref r3)] [(.ref r3), (.ref a)])) (fun t k => st6 t (XS.aloadN X6.here hx rfl (hb hby d5_51) rfl rfl (XS.aload X6.here hx rfl (hb hby d5_52) rfl rfl k))) ?_
    obtain ⟨T7, h7, X7, e7, W7, st7⟩ := putF X6 hx hZ hown (host := "") (Or.inl (wq hw 34 rfl)) Via.refl e6 F_value_a E_a (Or.inr ⟨(wq hw 30 rfl), rfl, hnm⟩) (wq hw 16 rfl) (ty := (.array .byte)) (by decide) rfl rfl (g := (mkF m 54 #[.val (.ref a), .val (.ref d), .val (.int (0 : Int32)), .val (.int (Int32.ofNat cl.length)), .val .null, .val (.ref r3)] [(.ref r3), (.ref a)])) rfl rfl (hb hby d5_54)
    have E_a := E_a.wr W7
    have F_coder_a := F_coder_a.other W7 (Or.inr (slot_ne (Or.inr (wq hw 31 rfl)) (Or.inr (wq hw 30 rfl)) (by decide) (t := .byte) (t' := (.array .byte)) (by decide) (by decide)))
    have V_d := V_d.other W7 ne_d_a
    have V_r3 := V_r3.other W7 ne_r3_a
    have Z7 : n0 ≤ h7.size := Nat.le_trans Z6 (Keep.of_wr W7).1
    have O := O.wr W7 g_a
    have F_value_a := F_value_a.same W7
    have K7 := K6.wr W7 (Or.inl (List.mem_of_getElem? (i := 0) rfl))
    have N7 := Fr.snoc X7 N6 g_a
    refine Goes.pre (U' := T7.setTop (mkF m 57 #[.val (.ref a), .val (.ref d), .val (.int (0 : Int32)), .val (.int (Int32.ofNat cl.length)), .val .null, .val (.ref r3)] [])) (fun t k => st7 t k) ?_
    refine Goes.ret X7 (v := none) (fun _ => rfl) hlk (by decide) (by decide) e7 (fun fs hr => X7.returnOut hx hret (hb hby d5_57) hr) ?_
    exact ⟨r3, kr3, rfl, N7, K7, ⟨E_a, F_value_a, hcA, Or.inl ⟨F_coder_a, V_r3, hleS⟩⟩, g_r3, sz_r3⟩
  ·
    refine Goes.pre (U' := T3.setTop (mkF m 45 #[.val (.ref a), .val (.ref d), .val (.int (0 : Int32)), .val (.int (Int32.ofNat cl.length)), .val .null, .val (.ref r3)] [(.int (Int32.ofNat cl.length)), (.ref r3), (.ref a)])) (fun t k => XS.aloadN X3.here hx rfl (hb hby d5_41) rfl rfl (XS.aload X3.here hx rfl (hb hby d5_42) rfl rfl (XS.iloadN X3.here hx rfl (hb hby d5_44) rfl k))) ?_
    obtain ⟨_, _, ⟨T8, L8, k8, n8⟩, -, X8, ⟨Lc8, hQ8, l8, y8, z8⟩, st8⟩ := Jvm.LawKit.callS X3 hx (y := (⟨"java/lang/StringUTF16", "coderFromArrayLen", "([BI)B"⟩ : MethodName)) hown (mvT hZ (wq hw 87 rfl)) (mvT hZ (wq hw 88 rfl)) (mvT hZ (wq hw 63 rfl)) (mvT hZ (wq hw 89 rfl)) (by decide) (backOf (W := 1) (rm_cflG1 l Z a0 hw [] r3 kr3 cl T3.heap n0 Z4 V_r3 (List.length_pos_iff.mpr hne) hlen) hZ (wq hw 89 rfl) (wq hw 63 rfl) (by decide) (by decide)) (g := (mkF m 45 #[.val (.ref a), .val (.ref d), .val (.int (0 : Int32)), .val (.int (Int32.ofNat cl.length)), .val .null, .val (.ref r3)] [(.int (Int32.ofNat cl.length)), (.ref r3), (.ref a)])) rfl (by rw [hml]; rfl) (argsL := [(.ref r3), (.int (Int32.ofNat cl.length))]) (rest := [(.ref a)]) (lenOf pd__28_5bBI_29B rfl) rfl (by show 2 * 0 + _ ≤ _; exact Nat.le_of_eq rfl) (hb hby d5_45) (fun _ _ => ⟨rfl, rfl, (by decide : 2 + 0 ≤ _), (by decide : 12 + 0 ≤ _)⟩)
    dsimp only [Pt.U, Pt.locs, Pt.cells, Pt.slots] at X8 l8 y8 z8 st8 hQ8
    subst l8 y8 z8
    obtain ⟨rfl, N8q, HQ8⟩ := hQ8
    have N8 := Fr.app N3 N8q
    refine Goes.pre (U' := T8.setTop (mkF m 48 #[.val (.ref a), .val (.ref d), .val (.int (0 : Int32)), .val (.int (Int32.ofNat cl.length)), .val .null, .val (.ref r3)] [(.int (1 : Int32)), (.ref a)])) (fun t k => st8 t k) ?_
    obtain ⟨T9, h9, X9, e9, W9, st9⟩ := putFN X8 hx hZ hown (wq hw 35 rfl) Via.refl HQ8 F_coder_a E_a (Or.inr ⟨(wq hw 31 rfl), rfl, hnm⟩) (wq hw 16 rfl) (ty := .byte) (v' := (.int (1 : Int32))) (by decide) rfl (by decide) (g := (mkF m 48 #[.val (.ref a), .val (.ref d), .val (.int (0 : Int32)), .val (.int (Int32.ofNat cl.length)), .val .null, .val (.ref r3)] [(.int (1 : Int32)), (.ref a)])) rfl rfl (hb hby d5_48)
    have E_a := E_a.wr W9
    have F_value_a := F_value_a.other W9 (Or.inr (slot_ne (Or.inr (wq hw 30 rfl)) (Or.inr (wq hw 31 rfl)) (by decide) (t := (.array .byte)) (t' := .byte) (by decide) (by decide)))
    have V_d := V_d.other W9 ne_d_a
    have V_r3 := V_r3.other W9 ne_r3_a
    have Z9 : n0 ≤ h9.size := Nat.le_trans Z4 (Keep.of_wr W9).1
    have O := O.wr W9 g_a
    have F_coder_a := F_coder_a.same W9
    have K9 := K4.wr W9 (Or.inl (List.mem_of_getElem? (i := 0) rfl))
    have N9 := Fr.snoc X9 N8 g_a
    refine Goes.pre (U' := T9.setTop (mkF m 54 #[.val (.ref a), .val (.ref d), .val (.int (0 : Int32)), .val (.int (Int32.ofNat cl.length)), .val .null, .val (.ref r3)] [(.ref r3), (.ref a)])) (fun t k => st9 t (XS.aloadN X9.here hx rfl (hb hby d5_51) rfl rfl (XS.aload X9.here hx rfl (hb hby d5_52) rfl rfl k))) ?_
    obtain ⟨T10, h10, X10, e10, W10, st10⟩ := putF X9 hx hZ hown (host := "") (Or.inl (wq hw 34 rfl)) Via.refl e9 F_value_a E_a (Or.inr ⟨(wq hw 30 rfl), rfl, hnm⟩) (wq hw 16 rfl) (ty := (.array .byte)) (by decide) rfl rfl (g := (mkF m 54 #[.val (.ref a), .val (.ref d), .val (.int (0 : Int32)), .val (.int (Int32.ofNat cl.length)), .val .null, .val (.ref r3)] [(.ref r3), (.ref a)])) rfl rfl (hb hby d5_54)
    have E_a := E_a.wr W10
    have F_coder_a := F_coder_a.other W10 (Or.inr (slot_ne (Or.inr (wq hw 31 rfl)) (Or.inr (wq hw 30 rfl)) (by decide) (t := .byte) (t' := (.array .byte)) (by decide) (by decide)))
    have V_d := V_d.other W10 ne_d_a
    have V_r3 := V_r3.other W10 ne_r3_a
    have Z10 : n0 ≤ h10.size := Nat.le_trans Z9 (Keep.of_wr W10).1
    have O := O.wr W10 g_a
    have F_value_a := F_value_a.same W10
    have K10 := K9.wr W10 (Or.inl (List.mem_of_getElem? (i := 0) rfl))
    have N10 := Fr.snoc X10 N9 g_a
    refine Goes.pre (U' := T10.setTop (mkF m 57 #[.val (.ref a), .val (.ref d), .val (.int (0 : Int32)), .val (.int (Int32.ofNat cl.length)), .val .null, .val (.ref r3)] [])) (fun t k => st10 t k) ?_
    refine Goes.ret X10 (v := none) (fun _ => rfl) hlk (by decide) (by decide) e10 (fun fs hr => X10.returnOut hx hret (hb hby d5_57) hr) ?_
    exact ⟨r3, kr3, rfl, N10, K10, ⟨E_a, F_value_a, hcA, Or.inr ⟨F_coder_a, V_r3, hexS⟩⟩, g_r3, sz_r3⟩
theorem ef_rm_init1G (m : MethodId) (x0 : Addr) (x1 : Addr) : entryFrame m #[(.ref x0), (.ref x1)] 2 = mkF m 0 #[.val (.ref x0), .val (.ref x1)] [] := by first | (simp [entryFrame, mkF, argsToLocals, Value.category]; done) | rfl
abbrev M4 : MethodName := ⟨"java/lang/String", "<init>", "([C)V"⟩
theorem d4_0 : decode jdk_42_method_3_code 0 = .ok (.aload_n 0, 1) := by decide +kernel
theorem d4_1 : decode jdk_42_method_3_code 1 = .ok (.aload_n 1, 1) := by decide +kernel
theorem d4_2 : decode jdk_42_method_3_code 2 = .ok (.iconst 0, 1) := by decide +kernel
theorem d4_3 : decode jdk_42_method_3_code 3 = .ok (.aload_n 1, 1) := by decide +kernel
theorem d4_4 : decode jdk_42_method_3_code 4 = .ok (.arraylength, 1) := by decide +kernel
theorem d4_5 : decode jdk_42_method_3_code 5 = .ok (.aconst_null, 1) := by decide +kernel
theorem d4_6 : decode jdk_42_method_3_code 6 = .ok (.invokespecial 27, 3) := by decide +kernel
theorem pd__28_5bCIILjava_2flang_2fVoid_3b_29V : parseMethodDescriptor "([CIILjava/lang/Void;)V" = some ⟨[(.array .char), .int, .int, (.object "java/lang/Void")], none⟩ := by decide +kernel
theorem d4_9 : decode jdk_42_method_3_code 9 = .ok (.return_, 1) := by decide +kernel
def Q_rm_init1G (Z : State) (a : Addr) (d : Addr) (kd : ClassId) (cl : List Int32) (cs : Int32) (h0 : Heap) (n0 : Nat) (v : Option Value) (h : Heap) (L : List Loc) : Prop := ∃ (b : Addr) (kb : ClassId), v = none ∧ Fr n0 L ∧ Keep h0 h [a] ∧ OwnStr Z h a b kb cl ∧ n0 ≤ b ∧ h0.size ≤ b
set_option maxRecDepth 65536 in
set_option maxHeartbeats 40000000 in
theorem rm_init1G (l : Launch) (Z : State) (a0 : Array Value) (hw : ∀ d ∈ tables_1, d.before a0 Z = true) (ws : List Jvm.Cond) (a : Addr) (d : Addr) (kd : ClassId) (cl : List Int32) (cs : Int32) (h0 : Heap) (n0 : Nat) (Z0 : n0 ≤ h0.size) (E_a : Exa Z h0 a "java/lang/String") (F_value_a : Fld Z h0 a "java/lang/String" "value" "[B" .null) (F_coder_a : Fld Z h0 a "java/lang/String" "coder" "B" (.int (0 : Int32))) (V_d : Arv Z h0 d kd .char (Int32.ofNat cl.length) (cl.map Value.int) (.int (0 : Int32))) (S_COMPACT_STRINGS : Sta Z Z.heap "java/lang/String" "COMPACT_STRINGS" "Z" (.int cs)) (S__assertionsDisabled : Sta Z Z.heap "java/lang/StringUTF16" "$assertionsDisabled" "Z" (.int (1 : Int32))) (S_HI_BYTE_SHIFT : Sta Z Z.heap "java/lang/StringUTF16" "HI_BYTE_SHIFT" "I" (.int (0 : Int32))) (S_LO_BYTE_SHIFT : Sta Z Z.heap "java/lang/StringUTF16" "LO_BYTE_SHIFT" "I" (.int (8 : Int32))) (hlen : cl.length ≤ 4) (hcA : ∀ c ∈ cl, OwnCh c) (hne : cl ≠ []) (hcs : ¬ (cs = (0 : Int32))) (ne_d_a : d ≠ a) (g_a : n0 ≤ a) (O : Old Z n0 h0) :
    Met l Z M4 jdk_42_method_3_code 2 none ws (Rm 5 2 12 74) #[(.ref a), (.ref d)] h0 (Q_rm_init1G Z a d kd cl cs h0 n0) := by
  refine met_of (plainFor_of_name pn_java_lang_String) (own := "java/lang/String") rfl (fun m => ef_rm_init1G m a d) ?_
  intro p e s m below meth c s₁ hx hby hml hown hnm hZ X0 e0 hret hlk
  have N0 := Fr.nil n0
  have K0 := Keep.refl h0 [a]
  show Goes p e below s _ _ _ (s₁.setTop (mkF m 0 #[.val (.ref a), .val (.ref d)] []))
  refine Goes.pre (U' := s₁.setTop (mkF m 4 #[.val (.ref a), .val (.ref d)] [(.ref d), (.int (0 : Int32)), (.ref d), (.ref a)])) (fun t k => XS.aloadN X0.here hx rfl (hb hby d4_0) rfl rfl (XS.aloadN X0.here hx rfl (hb hby d4_1) rfl rfl (XS.iconst X0.here hx rfl (hb hby d4_2) (XS.aloadN X0.here hx rfl (hb hby d4_3) rfl rfl k)))) ?_
  obtain ⟨cl1, Ar1, q1, Sz1, Ng1, -, -⟩ := id V_d
  have ln1 := len_of Sz1 Ng1
  refine Goes.pre (U' := s₁.setTop (mkF m 6 #[.val (.ref a), .val (.ref d)] [.null, (.int (Int32.ofNat cl.length)), (.int (0 : Int32)), (.ref d), (.ref a)])) (fun t k => X0.arraylength hx (by rw [e0]; exact Ar1.1) (State.isArrayOf_alike hZ.alike Ar1.2.1) (g := (mkF m 4 #[.val (.ref a), .val (.ref d)] [(.ref d), (.int (0 : Int32)), (.ref d), (.ref a)])) rfl rfl (hb hby d4_4) _ (by rw [ln1]; exact (XS.aconstNull X0.here hx rfl (hb hby d4_5) k))) ?_
  have lt_a := E_a.lt
  have lt_d := V_d.lt
  obtain ⟨_, _, ⟨T2, L2, k2, n2⟩, -, X2, ⟨Lc2, hQ2, l2, y2, z2⟩, st2⟩ := X0.specialBack hx (y := (⟨"java/lang/String", "<init>", "([CIILjava/lang/Void;)V"⟩ : MethodName)) rfl hown (mvT hZ (wq hw 21 rfl)) (mvT hZ (wq hw 22 rfl)) (mvT hZ (wq hw 24 rfl)) (by decide) (backOf (W := 0) (rm_init4G l Z a0 hw [] a d kd cl cs h0 n0 Z0 E_a F_value_a F_coder_a V_d S_COMPACT_STRINGS S__assertionsDisabled S_HI_BYTE_SHIFT S_LO_BYTE_SHIFT hlen hcA hne hcs ne_d_a g_a O) hZ (wq hw 24 rfl) (wq hw 17 rfl) (by decide) (by decide)) (g := (mkF m 6 #[.val (.ref a), .val (.ref d)] [.null, (.int (Int32.ofNat cl.length)), (.int (0 : Int32)), (.ref d), (.ref a)])) rfl (by rw [hml]; rfl) (Steps.refl _) (a := a) (argsL := [(.ref d), (.int (0 : Int32)), (.int (Int32.ofNat cl.length)), .null]) (rest := []) (lenOf pd__28_5bCIILjava_2flang_2fVoid_3b_29V rfl) rfl (by show 2 * 0 + _ ≤ _; exact Nat.le_of_eq rfl) (hb hby d4_6) (fun _ _ => ⟨rfl, e0, (by decide : 0 + 2 ≤ _), (by decide : 0 + 12 ≤ _)⟩)
  dsimp only [Pt.U, Pt.locs, Pt.cells, Pt.slots] at X2 l2 y2 z2 st2 hQ2
  subst l2 y2 z2
  obtain ⟨b2, kb2, rfl, N2q, KQ2, fo0_2, g_b2, sl_b2⟩ := hQ2
  have N2 := Fr.app N0 N2q
  have E_a := E_a.keep KQ2
  have V_d := V_d.keep KQ2 (ninS ne_d_a nin0)
  have Z3 : n0 ≤ T2.heap.size := Nat.le_trans Z0 KQ2.1
  have O := O.keep KQ2 (allS (P := fun x => n0 ≤ x) g_a all0)
  have K3 := K0.trans KQ2 (allS (P := fun x => x ∈ [a] ∨ h0.size ≤ x) (Or.inl (List.mem_of_getElem? (i := 0) rfl)) all0)
  have ne_a_b2 : a ≠ b2 := Nat.ne_of_lt (Nat.lt_of_lt_of_le lt_a sl_b2)
  have ne_b2_a := ne_a_b2.symm
  have ne_d_b2 : d ≠ b2 := Nat.ne_of_lt (Nat.lt_of_lt_of_le lt_d sl_b2)
  have ne_b2_d := ne_d_b2.symm
  have sz_b2 : h0.size ≤ b2 := Nat.le_trans K0.1 sl_b2
  have S_a := fo0_2
  refine Goes.pre (U' := T2.setTop (mkF m 9 #[.val (.ref a), .val (.ref d)] [])) (fun t k => st2.trans k) ?_
  refine Goes.ret X2 (v := none) (fun _ => rfl) hlk (by decide) (by decide) rfl (fun fs hr => X2.returnOut hx hret (hb hby d4_9) hr) ?_
  exact ⟨b2, kb2, rfl, N2, K3, S_a, g_b2, sz_b2⟩
theorem ef_rm_init4_0 (m : MethodId) (x0 : Addr) (x1 : Addr) (x2 : Int32) (x3 : Int32) : entryFrame m #[(.ref x0), (.ref x1), (.int x2), (.int x3), .null] 6 = mkF m 0 #[.val (.ref x0), .val (.ref x1), .val (.int x2), .val (.int x3), .val .null, .unset] [] := by first | (simp [entryFrame, mkF, argsToLocals, Value.category]; done) | rfl
theorem d5_8 : decode jdk_42_method_149_code 8 = .ok (.aload_n 0, 1) := by decide +kernel
theorem d5_9 : decode jdk_42_method_149_code 9 = .ok (.ldc 7, 2) := by decide +kernel
theorem d5_11 : decode jdk_42_method_149_code 11 = .ok (.getfield 9, 3) := by decide +kernel
theorem d5_14 : decode jdk_42_method_149_code 14 = .ok (.putfield 9, 3) := by decide +kernel
theorem d5_17 : decode jdk_42_method_149_code 17 = .ok (.aload_n 0, 1) := by decide +kernel
theorem d5_18 : decode jdk_42_method_149_code 18 = .ok (.ldc 7, 2) := by decide +kernel
theorem d5_20 : decode jdk_42_method_149_code 20 = .ok (.getfield 15, 3) := by decide +kernel
theorem d5_23 : decode jdk_42_method_149_code 23 = .ok (.putfield 15, 3) := by decide +kernel
theorem d5_26 : decode jdk_42_method_149_code 26 = .ok (.return_, 1) := by decide +kernel
def Q_rm_init4_0 (Z : State) (a : Addr) (d : Addr) (h0 : Heap) (n0 : Nat) (v : Option Value) (h : Heap) (L : List Loc) : Prop := ∃ (b : Addr) (kb : ClassId), v = none ∧ Fr n0 L ∧ Keep h0 h [a] ∧ OwnStr Z h a b kb []
set_option maxRecDepth 65536 in
set_option maxHeartbeats 40000000 in
theorem rm_init4_0 (l : Launch) (Z : State) (a0 : Array Value) (hw : ∀ d ∈ tables_1, d.before a0 Z = true) (hEL : EW Z a0 own_EL) (ws : List Jvm.Cond) (a : Addr) (d : Addr) (h0 : Heap) (n0 : Nat) (Z0 : n0 ≤ h0.size) (E_a : Exa Z h0 a "java/lang/String") (F_value_a : Fld Z h0 a "java/lang/String" "value" "[B" .null) (F_coder_a : Fld Z h0 a "java/lang/String" "coder" "B" (.int (0 : Int32))) (g_a : n0 ≤ a) :
    MetW l Z own_EL M5 jdk_42_method_149_code 6 none ws (Rm 1 2 4 12) #[(.ref a), (.ref d), (.int (0 : Int32)), (.int (0 : Int32)), .null] [a] h0 (Q_rm_init4_0 Z a d h0 n0) := by
  refine metW_of (plainFor_of_name pn_java_lang_String) (own := "java/lang/String") rfl (fun m => ef_rm_init4_0 m a d (0 : Int32) (0 : Int32)) ?_
  intro p e s m below meth c s₁ hx hby hml hown hnm hZ X0 e0 hret hlk H hSf CR hS
  have N0 := Fr.nil n0
  have K0 := Keep.refl h0 [a]
  have hk := Nat.le_refl h0.size
  have SF_a := hSf a (List.mem_of_getElem? (i := 0) rfl)
  show GoesW p e below s Z own_EL _ _ _ (s₁.setTop (mkF m 0 #[.val (.ref a), .val (.ref d), .val (.int (0 : Int32)), .val (.int (0 : Int32)), .val .null, .unset] []))
  refine GoesW.pre (U' := s₁.setTop (mkF m 1 #[.val (.ref a), .val (.ref d), .val (.int (0 : Int32)), .val (.int (0 : Int32)), .val .null, .unset] [(.ref a)])) (fun t k => XS.aloadN X0.here hx rfl (hb hby d5_0) rfl rfl k) ?_
  obtain ⟨T1, X1, e1, st1⟩ := initO X0 hx hZ hown (wq hw 25 rfl) (wq hw 26 rfl) (wq hw 27 rfl) e0 (g := (mkF m 1 #[.val (.ref a), .val (.ref d), .val (.int (0 : Int32)), .val (.int (0 : Int32)), .val .null, .unset] [(.ref a)])) rfl (by rw [hml]; rfl) rfl (hb hby d5_1) (by decide) (W := 0) (by show 2 * 0 + _ ≤ _; exact Nat.le_of_eq rfl) (by decide)
  refine GoesW.pre (U' := T1.setTop (mkF m 5 #[.val (.ref a), .val (.ref d), .val (.int (0 : Int32)), .val (.int (0 : Int32)), .val .null, .unset] [(.int (0 : Int32))])) (fun t k => st1 t (XS.iloadN X1.here hx rfl (hb hby d5_4) rfl k)) ?_
  have hc5 : (0 : Int32) = (0 : Int32) := rfl
  refine GoesW.pre (U' := T1.setTop (mkF m 9 #[.val (.ref a), .val (.ref d), .val (.int (0 : Int32)), .val (.int (0 : Int32)), .val .null, .unset] [(.ref a)])) (fun t k => XS.ifNo X1.here hx rfl (hb hby d5_5) rfl ((if0 _ _).trans (teq hc5).2) (XS.aloadN X1.here hx rfl (hb hby d5_8) rfl rfl k)) ?_
  have lt0_a := E_a.lt
  obtain ⟨ls2, T2, h2, k1_2, lb2, kl2, X2, e2, E2, hS2, hk2, hZ2, hown2, El2, Fc2, Fv2, Av2, lta2, ltb2, CQ2, Li2, Sne2, st2⟩ := ldcCH X1 hx hZ hown (wq hw 28 rfl) (own_atoms hw) e1 hS hk hEL (List.mem_of_getElem? (i := 0) rfl) H (vs := []) (z := (0 : Int32)) ⟨by decide, by decide⟩ (by decide) (by decide) (g := (mkF m 9 #[.val (.ref a), .val (.ref d), .val (.int (0 : Int32)), .val (.int (0 : Int32)), .val .null, .unset] [(.ref a)])) rfl (hb hby d5_9) (n := 0) (by decide) (by decide) (by decide) (by decide)
  have E_a := E_a.ext E2
  have F_value_a := F_value_a.ext E2
  have F_coder_a := F_coder_a.ext E2
  have SF_a : Safe Z own_EL T2.vm h2 a := CQ2.safe lt0_a SF_a
  have Z2 : n0 ≤ h2.size := Nat.le_trans Z0 E2.1
  have K2 := K0.ext E2
  have hS := hS2
  have hk := hk2
  have hZ := hZ2
  have hown := hown2
  have H := CQ2.1
  have CR := CR.trans CQ2
  obtain ⟨ne_a_ls2, ne_a_lb2⟩ := Sne2 a SF_a
  have ne_ls2_a := ne_a_ls2.symm
  have ne_lb2_a := ne_a_lb2.symm
  have E_ls2 := El2
  have F_coder_ls2 := Fc2
  have F_value_ls2 := Fv2
  have V_lb2 := Av2
  have Li_ls2 := Li2
  refine GoesW.pre (U' := T2.setTop (mkF m 11 #[.val (.ref a), .val (.ref d), .val (.int (0 : Int32)), .val (.int (0 : Int32)), .val .null, .unset] [(.ref ls2), (.ref a)])) (fun t k => st2 t k) ?_
  obtain ⟨T3, X3, e3, st3⟩ := getF X2 hx hZ hown (host := "") (Or.inl (wq hw 34 rfl)) Via.refl e2 F_value_ls2 (g := (mkF m 11 #[.val (.ref a), .val (.ref d), .val (.int (0 : Int32)), .val (.int (0 : Int32)), .val .null, .unset] [(.ref ls2), (.ref a)])) rfl rfl (hb hby d5_11)
  refine GoesW.pre (U' := T3.setTop (mkF m 14 #[.val (.ref a), .val (.ref d), .val (.int (0 : Int32)), .val (.int (0 : Int32)), .val .null, .unset] [(.ref lb2), (.ref a)])) (fun t k => st3 t k) ?_
  obtain ⟨T4, h4, X4, e4, W4, st4⟩ := putF X3 hx hZ hown (host := "") (Or.inl (wq hw 34 rfl)) Via.refl e3 F_value_a E_a (Or.inr ⟨(wq hw 30 rfl), rfl, hnm⟩) (wq hw 16 rfl) (ty := (.array .byte)) (by decide) rfl rfl (g := (mkF m 14 #[.val (.ref a), .val (.ref d), .val (.int (0 : Int32)), .val (.int (0 : Int32)), .val .null, .unset] [(.ref lb2), (.ref a)])) rfl rfl (hb hby d5_14)
  have E_a := E_a.wr W4
  have F_coder_a := F_coder_a.other W4 (Or.inr (slot_ne (Or.inr (wq hw 31 rfl)) (Or.inr (wq hw 30 rfl)) (by decide) (t := .byte) (t' := (.array .byte)) (by decide) (by decide)))
  have E_ls2 := E_ls2.wr W4
  have F_coder_ls2 := F_coder_ls2.other W4 (Or.inl ne_ls2_a)
  have F_value_ls2 := F_value_ls2.other W4 (Or.inl ne_ls2_a)
  have V_lb2 := V_lb2.other W4 ne_lb2_a
  have Z4 : n0 ≤ h4.size := Nat.le_trans Z2 (Keep.of_wr W4).1
  have SFo := SF_a
  have SF_a := Safe.wr W4 SFo H SF_a
  have CR := CR.trans (CHr.wr W4 SFo H)
  have H := H.wr W4 SFo
  have hk := Nat.le_trans hk (Keep.of_wr W4).1
  have F_value_a := F_value_a.same W4
  have K4 := K2.wr W4 (Or.inl (List.mem_of_getElem? (i := 0) rfl))
  have N4 := Fr.snoc X4 N0 g_a
  refine GoesW.pre (U' := T4.setTop (mkF m 20 #[.val (.ref a), .val (.ref d), .val (.int (0 : Int32)), .val (.int (0 : Int32)), .val .null, .unset] [(.ref ls2), (.ref a)])) (fun t k => st4 t (XS.aloadN X4.here hx rfl (hb hby d5_17) rfl rfl (ldcAgain X4 hx hZ hown (wq hw 28 rfl) Li_ls2 (g := (mkF m 18 #[.val (.ref a), .val (.ref d), .val (.int (0 : Int32)), .val (.int (0 : Int32)), .val .null, .unset] [(.ref a)])) rfl (hb hby d5_18) t k))) ?_
  obtain ⟨T5, X5, e5, st5⟩ := getF X4 hx hZ hown (host := "") (Or.inl (wq hw 35 rfl)) Via.refl e4 F_coder_ls2 (g := (mkF m 20 #[.val (.ref a), .val (.ref d), .val (.int (0 : Int32)), .val (.int (0 : Int32)), .val .null, .unset] [(.ref ls2), (.ref a)])) rfl rfl (hb hby d5_20)
  refine GoesW.pre (U' := T5.setTop (mkF m 23 #[.val (.ref a), .val (.ref d), .val (.int (0 : Int32)), .val (.int (0 : Int32)), .val .null, .unset] [(.int (0 : Int32)), (.ref a)])) (fun t k => st5 t k) ?_
  obtain ⟨T6, h6, X6, e6, W6, st6⟩ := putFN X5 hx hZ hown (wq hw 35 rfl) Via.refl e5 F_coder_a E_a (Or.inr ⟨(wq hw 31 rfl), rfl, hnm⟩) (wq hw 16 rfl) (ty := .byte) (v' := (.int (0 : Int32))) (by decide) rfl (by decide) (g := (mkF m 23 #[.val (.ref a), .val (.ref d), .val (.int (0 : Int32)), .val (.int (0 : Int32)), .val .null, .unset] [(.int (0 : Int32)), (.ref a)])) rfl rfl (hb hby d5_23)
  have E_a := E_a.wr W6
  have F_value_a := F_value_a.other W6 (Or.inr (slot_ne (Or.inr (wq hw 30 rfl)) (Or.inr (wq hw 31 rfl)) (by decide) (t := (.array .byte)) (t' := .byte) (by decide) (by decide)))
  have E_ls2 := E_ls2.wr W6
  have F_coder_ls2 := F_coder_ls2.other W6 (Or.inl ne_ls2_a)
  have F_value_ls2 := F_value_ls2.other W6 (Or.inl ne_ls2_a)
  have V_lb2 := V_lb2.other W6 ne_lb2_a
  have Z6 : n0 ≤ h6.size := Nat.le_trans Z4 (Keep.of_wr W6).1
  have SFo := SF_a
  have SF_a := Safe.wr W6 SFo H SF_a
  have CR := CR.trans (CHr.wr W6 SFo H)
  have H := H.wr W6 SFo
  have hk := Nat.le_trans hk (Keep.of_wr W6).1
  have F_coder_a := F_coder_a.same W6
  have K6 := K4.wr W6 (Or.inl (List.mem_of_getElem? (i := 0) rfl))
  have N6 := Fr.snoc X6 N4 g_a
  refine GoesW.pre (U' := T6.setTop (mkF m 26 #[.val (.ref a), .val (.ref d), .val (.int (0 : Int32)), .val (.int (0 : Int32)), .val .null, .unset] [])) (fun t k => st6 t k) ?_
  refine GoesW.ret X6 hZ hEL hS hk H CR (v := none) (fun _ => rfl) hlk (by decide) (by decide) e6 (fun fs hr => X6.returnOut hx hret (hb hby d5_26) hr) ?_
  exact ⟨lb2, kl2, rfl, N6, K6, ⟨E_a, F_value_a, (by intro c hc; cases hc), Or.inl ⟨F_coder_a, V_lb2, (by intro c hc; cases hc)⟩⟩⟩
theorem ef_rm_init1_0 (m : MethodId) (x0 : Addr) (x1 : Addr) : entryFrame m #[(.ref x0), (.ref x1)] 2 = mkF m 0 #[.val (.ref x0), .val (.ref x1)] [] := by first | (simp [entryFrame, mkF, argsToLocals, Value.category]; done) | rfl
def Q_rm_init1_0 (Z : State) (a : Addr) (d : Addr) (kd : ClassId) (h0 : Heap) (n0 : Nat) (v : Option Value) (h : Heap) (L : List Loc) : Prop := ∃ (b : Addr) (kb : ClassId), v = none ∧ Fr n0 L ∧ Keep h0 h [a] ∧ OwnStr Z h a b kb []
set_option maxRecDepth 65536 in
set_option maxHeartbeats 40000000 in
theorem rm_init1_0 (l : Launch) (Z : State) (a0 : Array Value) (hw : ∀ d ∈ tables_1, d.before a0 Z = true) (hEL : EW Z a0 own_EL) (ws : List Jvm.Cond) (a : Addr) (d : Addr) (kd : ClassId) (h0 : Heap) (n0 : Nat) (Z0 : n0 ≤ h0.size) (E_a : Exa Z h0 a "java/lang/String") (F_value_a : Fld Z h0 a "java/lang/String" "value" "[B" .null) (F_coder_a : Fld Z h0 a "java/lang/String" "coder" "B" (.int (0 : Int32))) (V_d : Arv Z h0 d kd .char (0 : Int32) [] (.int (0 : Int32))) (ne_d_a : d ≠ a) (g_a : n0 ≤ a) :
    MetW l Z own_EL M4 jdk_42_method_3_code 2 none ws (Rm 2 2 4 29) #[(.ref a), (.ref d)] [a] h0 (Q_rm_init1_0 Z a d kd h0 n0) := by
  refine metW_of (plainFor_of_name pn_java_lang_String) (own := "java/lang/String") rfl (fun m => ef_rm_init1_0 m a d) ?_
  intro p e s m below meth c s₁ hx hby hml hown hnm hZ X0 e0 hret hlk H hSf CR hS
  have N0 := Fr.nil n0
  have K0 := Keep.refl h0 [a]
  have hk := Nat.le_refl h0.size
  have SF_a := hSf a (List.mem_of_getElem? (i := 0) rfl)
  show GoesW p e below s Z own_EL _ _ _ (s₁.setTop (mkF m 0 #[.val (.ref a), .val (.ref d)] []))
  refine GoesW.pre (U' := s₁.setTop (mkF m 4 #[.val (.ref a), .val (.ref d)] [(.ref d), (.int (0 : Int32)), (.ref d), (.ref a)])) (fun t k => XS.aloadN X0.here hx rfl (hb hby d4_0) rfl rfl (XS.aloadN X0.here hx rfl (hb hby d4_1) rfl rfl (XS.iconst X0.here hx rfl (hb hby d4_2) (XS.aloadN X0.here hx rfl (hb hby d4_3) rfl rfl k)))) ?_
  obtain ⟨cl1, Ar1, q1, Sz1, Ng1, -, -⟩ := id V_d
  have ln1 := len_of Sz1 Ng1
  refine GoesW.pre (U' := s₁.setTop (mkF m 6 #[.val (.ref a), .val (.ref d)] [.null, (.int (0 : Int32)), (.int (0 : Int32)), (.ref d), (.ref a)])) (fun t k => X0.arraylength hx (by rw [e0]; exact Ar1.1) (State.isArrayOf_alike hZ.alike Ar1.2.1) (g := (mkF m 4 #[.val (.ref a), .val (.ref d)] [(.ref d), (.int (0 : Int32)), (.ref d), (.ref a)])) rfl rfl (hb hby d4_4) _ (by rw [ln1]; exact (XS.aconstNull X0.here hx rfl (hb hby d4_5) k))) ?_
  obtain ⟨_, _, ⟨T2, L2, k2, n2⟩, -, X2, hS2, hge2, ⟨Lc2, hQ2, l2, y2, z2, CQ2⟩, st2⟩ := X0.specialBackS hx (y := (⟨"java/lang/String", "<init>", "([CIILjava/lang/Void;)V"⟩ : MethodName)) rfl hown (mvT hZ (wq hw 21 rfl)) (mvT hZ (wq hw 22 rfl)) (mvT hZ (wq hw 24 rfl)) (by decide) (own_backSH (s := s) (W := 0) (rm_init4_0 l Z a0 hw hEL [] a d h0 n0 Z0 E_a F_value_a F_coder_a g_a) hZ (wq hw 24 rfl) (wq hw 17 rfl) (by decide) (by decide) hEL H (allS (P := fun x => Safe Z own_EL s.vm h0 x ∧ x < h0.size) ⟨SF_a, E_a.lt⟩ all0)) (g := (mkF m 6 #[.val (.ref a), .val (.ref d)] [.null, (.int (0 : Int32)), (.int (0 : Int32)), (.ref d), (.ref a)])) rfl (by rw [hml]; rfl) (Steps.refl _) (a := a) (argsL := [(.ref d), (.int (0 : Int32)), (.int (0 : Int32)), .null]) (rest := []) (lenOf pd__28_5bCIILjava_2flang_2fVoid_3b_29V rfl) rfl (by show 2 * 0 + _ ≤ _; exact Nat.le_of_eq rfl) (hb hby d4_6) (fun _ _ => ⟨rfl, e0, (by decide : 0 + 2 ≤ _), (by decide : 0 + 4 ≤ _)⟩)
  dsimp only [Pt.U, Pt.locs, Pt.cells, Pt.slots] at X2 l2 y2 z2 st2 hQ2 hS2 hge2 CQ2
  subst l2 y2 z2
  obtain ⟨b2, kb2, rfl, N2q, KQ2, fo0_2⟩ := hQ2
  have N2 := Fr.app N0 N2q
  have SF_a := CQ2.safe E_a.lt SF_a
  have hS := foldS (T := s₁) hS (by rw [e0]; exact hk) hS2 hge2
  have hZ : Z.Warmed39 (s.setVm T2.vm).vm := State.Warmed39.trans (t := s.setVm s.vm) hZ hS2.1
  have hown := own_found hS2 hown
  have H := CQ2.1
  have CR := CR.trans CQ2
  have hk := Nat.le_refl T2.heap.size
  have E_a := E_a.keep KQ2
  have V_d := V_d.keep KQ2 (ninS ne_d_a nin0)
  have Z3 : n0 ≤ T2.heap.size := Nat.le_trans Z0 KQ2.1
  have K3 := K0.trans KQ2 (allS (P := fun x => x ∈ [a] ∨ h0.size ≤ x) (Or.inl (List.mem_of_getElem? (i := 0) rfl)) all0)
  have S_a := fo0_2
  refine GoesW.pre (U' := T2.setTop (mkF m 9 #[.val (.ref a), .val (.ref d)] [])) (fun t k => st2.trans k) ?_
  refine GoesW.ret X2 hZ hEL hS hk H CR (v := none) (fun _ => rfl) hlk (by decide) (by decide) rfl (fun fs hr => X2.returnOut hx hret (hb hby d4_9) hr) ?_
  exact ⟨b2, kb2, rfl, N2, K3, S_a⟩
theorem ef_rm_min (m : MethodId) (x0 : Int32) (x1 : Int32) : entryFrame m #[(.int x0), (.int x1)] 2 = mkF m 0 #[.val (.int x0), .val (.int x1)] [] := by first | (simp [entryFrame, mkF, argsToLocals, Value.category]; done) | rfl
abbrev M11 : MethodName := ⟨"java/lang/Math", "min", "(II)I"⟩
theorem d11_0 : decode jdk_29_method_69_code 0 = .ok (.iload_n 0, 1) := by decide +kernel
theorem d11_1 : decode jdk_29_method_69_code 1 = .ok (.iload_n 1, 1) := by decide +kernel
theorem d11_2 : decode jdk_29_method_69_code 2 = .ok (.if_icmp .gt 7, 3) := by decide +kernel
theorem d11_9 : decode jdk_29_method_69_code 9 = .ok (.iload_n 1, 1) := by decide +kernel
theorem d11_10 : decode jdk_29_method_69_code 10 = .ok (.ireturn, 1) := by decide +kernel
theorem d11_5 : decode jdk_29_method_69_code 5 = .ok (.iload_n 0, 1) := by decide +kernel
theorem d11_6 : decode jdk_29_method_69_code 6 = .ok (.goto 4, 3) := by decide +kernel
def own_min (q0 q1 : Int32) : Int32 := (if q1 < q0 then q1 else q0)
def Q_rm_min (Z : State) (q0 q1 : Int32) (h0 : Heap) (n0 : Nat) (v : Option Value) (h : Heap) (L : List Loc) : Prop := v = some (.int (own_min q0 q1)) ∧ Fr n0 L ∧ h = h0
set_option maxRecDepth 65536 in
set_option maxHeartbeats 40000000 in
theorem rm_min (l : Launch) (Z : State) (a0 : Array Value) (hw : ∀ d ∈ tables_1, d.before a0 Z = true) (ws : List Jvm.Cond) (q0 q1 : Int32) (h0 : Heap) (n0 : Nat) (Z0 : n0 ≤ h0.size)  :
    Met l Z M11 jdk_29_method_69_code 2 (some .int) ws (Rm 0 0 0 0) #[(.int q0), (.int q1)] h0 (Q_rm_min Z q0 q1 h0 n0) := by
  refine met_of (Jvm.Free.JP.mathPlain rfl (by decide +kernel)) (own := "java/lang/Math") rfl (fun m => ef_rm_min m q0 q1) ?_
  intro p e s m below meth c s₁ hx hby hml hown hnm hZ X0 e0 hret hlk
  have N0 := Fr.nil n0
  show Goes p e below s _ _ _ (s₁.setTop (mkF m 0 #[.val (.int q0), .val (.int q1)] []))
  refine Goes.pre (U' := s₁.setTop (mkF m 2 #[.val (.int q0), .val (.int q1)] [(.int q1), (.int q0)])) (fun t k => XS.iloadN X0.here hx rfl (hb hby d11_0) rfl (XS.iloadN X0.here hx rfl (hb hby d11_1) rfl k)) ?_
  by_cases hc2 : q1 < q0
  ·
    refine Goes.pre (U' := s₁.setTop (mkF m 10 #[.val (.int q0), .val (.int q1)] [(.int q1)])) (fun t k => XS.icmpYes X0.here hx rfl (pc0 := 2) (pc' := 9) rfl (hb hby d11_2) rfl (tlt hc2).2.2.1 (by decide) (by decide) (XS.iloadN X0.here hx rfl (hb hby d11_9) rfl k)) ?_
    refine Goes.ret X0 (v := (some (.int q1))) (fun h => by rw [hret] at h; cases h) hlk (by decide) (by decide) e0 (fun fs hr => retI X0 hx hret (hb hby d11_10) hr) ?_
    exact ⟨congrArg (fun z => some (Value.int z)) (show q1 = own_min q0 q1 from (show own_min q0 q1 = q1 from by unfold own_min; rw [if_pos hc2]).symm), N0, rfl⟩
  ·
    refine Goes.pre (U' := s₁.setTop (mkF m 10 #[.val (.int q0), .val (.int q1)] [(.int q0)])) (fun t k => XS.icmpNo X0.here hx rfl (hb hby d11_2) rfl (flt hc2).2.2.1 (XS.iloadN X0.here hx rfl (hb hby d11_5) rfl (XS.goto X0.here hx rfl (pc0 := 6) (pc' := 10) rfl (hb hby d11_6) (by decide) (by decide) k))) ?_
    refine Goes.ret X0 (v := (some (.int q0))) (fun h => by rw [hret] at h; cases h) hlk (by decide) (by decide) e0 (fun fs hr => retI X0 hx hret (hb hby d11_10) hr) ?_
    exact ⟨congrArg (fun z => some (Value.int z)) (show q0 = own_min q0 q1 from (show own_min q0 q1 = q0 from by unfold own_min; rw [if_neg hc2]).symm), N0, rfl⟩
theorem ef_rm_isSur (m : MethodId) (x0 : Int32) : entryFrame m #[(.int x0)] 1 = mkF m 0 #[.val (.int x0)] [] := by first | (simp [entryFrame, mkF, argsToLocals, Value.category]; done) | rfl
theorem pn_java_lang_Character : plainName "java/lang/Character" = true := by first | (simp [plainName, overriddenIn]; done) | decide +kernel
abbrev M31 : MethodName := ⟨"java/lang/Character", "isSurrogate", "(C)Z"⟩
theorem d31_0 : decode jdk_89_method_16_code 0 = .ok (.iload_n 0, 1) := by decide +kernel
theorem d31_1 : decode jdk_89_method_16_code 1 = .ok (.ldc 75, 2) := by decide +kernel
theorem d31_3 : decode jdk_89_method_16_code 3 = .ok (.if_icmp .lt 13, 3) := by decide +kernel
theorem d31_16 : decode jdk_89_method_16_code 16 = .ok (.iconst 0, 1) := by decide +kernel
theorem d31_17 : decode jdk_89_method_16_code 17 = .ok (.ireturn, 1) := by decide +kernel
theorem d31_6 : decode jdk_89_method_16_code 6 = .ok (.iload_n 0, 1) := by decide +kernel
theorem d31_7 : decode jdk_89_method_16_code 7 = .ok (.ldc 77, 2) := by decide +kernel
theorem d31_9 : decode jdk_89_method_16_code 9 = .ok (.if_icmp .ge 7, 3) := by decide +kernel
theorem d31_12 : decode jdk_89_method_16_code 12 = .ok (.iconst 1, 1) := by decide +kernel
theorem d31_13 : decode jdk_89_method_16_code 13 = .ok (.goto 4, 3) := by decide +kernel
def own_isSur (q0 : Int32) : Int32 := (if q0 < (55296 : Int32) then (0 : Int32) else (if q0 < (57344 : Int32) then (1 : Int32) else (0 : Int32)))
def Q_rm_isSur (Z : State) (q0 : Int32) (h0 : Heap) (n0 : Nat) (v : Option Value) (h : Heap) (L : List Loc) : Prop := v = some (.int (own_isSur q0)) ∧ Fr n0 L ∧ h = h0
set_option maxRecDepth 65536 in
set_option maxHeartbeats 40000000 in
theorem rm_isSur (l : Launch) (Z : State) (a0 : Array Value) (hw : ∀ d ∈ tables_1, d.before a0 Z = true) (ws : List Jvm.Cond) (q0 : Int32) (h0 : Heap) (n0 : Nat) (Z0 : n0 ≤ h0.size)  :
    Met l Z M31 jdk_89_method_16_code 1 (some .boolean) ws (Rm 0 0 0 0) #[(.int q0)] h0 (Q_rm_isSur Z q0 h0 n0) := by
  refine met_of (plainFor_of_name pn_java_lang_Character) (own := "java/lang/Character") rfl (fun m => ef_rm_isSur m q0) ?_
  intro p e s m below meth c s₁ hx hby hml hown hnm hZ X0 e0 hret hlk
  have N0 := Fr.nil n0
  show Goes p e below s _ _ _ (s₁.setTop (mkF m 0 #[.val (.int q0)] []))
  refine Goes.pre (U' := s₁.setTop (mkF m 3 #[.val (.int q0)] [(.int (55296 : Int32)), (.int q0)])) (fun t k => XS.iloadN X0.here hx rfl (hb hby d31_0) rfl (X0.ldcInt hx hown (mvT hZ (wq hw 133 rfl)) (g := (mkF m 1 #[.val (.int q0)] [(.int q0)])) rfl (hb hby d31_1) _ k)) ?_
  by_cases hc3 : q0 < (55296 : Int32)
  ·
    refine Goes.pre (U' := s₁.setTop (mkF m 17 #[.val (.int q0)] [(.int (0 : Int32))])) (fun t k => XS.icmpYes X0.here hx rfl (pc0 := 3) (pc' := 16) rfl (hb hby d31_3) rfl (tlt hc3).1 (by decide) (by decide) (XS.iconst X0.here hx rfl (hb hby d31_16) k)) ?_
    refine Goes.ret X0 (v := (some (.int (0 : Int32)))) (fun h => by rw [hret] at h; cases h) hlk (by decide) (by decide) e0 (fun fs hr => retN X0 hx (t := .boolean) hret (by simp) (hb hby d31_17) hr) ?_
    exact ⟨congrArg (fun z => some (Value.int z)) (show (0 : Int32) = own_isSur q0 from (show own_isSur q0 = (0 : Int32) from by unfold own_isSur; rw [if_pos hc3]).symm), N0, rfl⟩
  ·
    refine Goes.pre (U' := s₁.setTop (mkF m 9 #[.val (.int q0)] [(.int (57344 : Int32)), (.int q0)])) (fun t k => XS.icmpNo X0.here hx rfl (hb hby d31_3) rfl (flt hc3).1 (XS.iloadN X0.here hx rfl (hb hby d31_6) rfl (X0.ldcInt hx hown (mvT hZ (wq hw 134 rfl)) (g := (mkF m 7 #[.val (.int q0)] [(.int q0)])) rfl (hb hby d31_7) _ k))) ?_
    by_cases hc9 : q0 < (57344 : Int32)
    ·
      refine Goes.pre (U' := s₁.setTop (mkF m 17 #[.val (.int q0)] [(.int (1 : Int32))])) (fun t k => XS.icmpNo X0.here hx rfl (hb hby d31_9) rfl (tlt hc9).2.1 (XS.iconst X0.here hx rfl (hb hby d31_12) (XS.goto X0.here hx rfl (pc0 := 13) (pc' := 17) rfl (hb hby d31_13) (by decide) (by decide) k))) ?_
      refine Goes.ret X0 (v := (some (.int (1 : Int32)))) (fun h => by rw [hret] at h; cases h) hlk (by decide) (by decide) e0 (fun fs hr => retN X0 hx (t := .boolean) hret (by simp) (hb hby d31_17) hr) ?_
      exact ⟨congrArg (fun z => some (Value.int z)) (show (1 : Int32) = own_isSur q0 from (show own_isSur q0 = (1 : Int32) from by unfold own_isSur; rw [if_neg hc3, if_pos hc9]).symm), N0, rfl⟩
    ·
      refine Goes.pre (U' := s₁.setTop (mkF m 17 #[.val (.int q0)] [(.int (0 : Int32))])) (fun t k => XS.icmpYes X0.here hx rfl (pc0 := 9) (pc' := 16) rfl (hb hby d31_9) rfl (flt hc9).2.1 (by decide) (by decide) (XS.iconst X0.here hx rfl (hb hby d31_16) k)) ?_
      refine Goes.ret X0 (v := (some (.int (0 : Int32)))) (fun h => by rw [hret] at h; cases h) hlk (by decide) (by decide) e0 (fun fs hr => retN X0 hx (t := .boolean) hret (by simp) (hb hby d31_17) hr) ?_
      exact ⟨congrArg (fun z => some (Value.int z)) (show (0 : Int32) = own_isSur q0 from (show own_isSur q0 = (0 : Int32) from by unfold own_isSur; rw [if_neg hc3, if_neg hc9]).symm), N0, rfl⟩
theorem ef_rm_rank (m : MethodId) (x0 : Int32) : entryFrame m #[(.int x0)] 1 = mkF m 0 #[.val (.int x0)] [] := by first | (simp [entryFrame, mkF, argsToLocals, Value.category]; done) | rfl
theorem pn_com_example_bnodiff_bnodiff_model_CodePointOrder : plainName "com/example/bnodiff/bnodiff/model/CodePointOrder" = true := by first | (simp [plainName, overriddenIn]; done) | decide +kernel
abbrev M30 : MethodName := ⟨"com/example/bnodiff/bnodiff/model/CodePointOrder", "rank", "(C)I"⟩
theorem d30_0 : decode prog_43_method_3_code 0 = .ok (.iload_n 0, 1) := by decide +kernel
theorem d30_1 : decode prog_43_method_3_code 1 = .ok (.invokestatic 29, 3) := by decide +kernel
theorem pd__28C_29Z : parseMethodDescriptor "(C)Z" = some ⟨[.char], some .boolean⟩ := by decide +kernel
theorem d30_4 : decode prog_43_method_3_code 4 = .ok (.ifCond .eq 10, 3) := by decide +kernel
theorem d30_14 : decode prog_43_method_3_code 14 = .ok (.iload_n 0, 1) := by decide +kernel
theorem d30_15 : decode prog_43_method_3_code 15 = .ok (.ireturn, 1) := by decide +kernel
theorem d30_7 : decode prog_43_method_3_code 7 = .ok (.iload_n 0, 1) := by decide +kernel
theorem d30_8 : decode prog_43_method_3_code 8 = .ok (.ldc 35, 2) := by decide +kernel
theorem d30_10 : decode prog_43_method_3_code 10 = .ok (.iadd, 1) := by decide +kernel
theorem d30_11 : decode prog_43_method_3_code 11 = .ok (.goto 4, 3) := by decide +kernel
def own_rank (q0 : Int32) : Int32 := (if (own_isSur q0) = (0 : Int32) then q0 else (q0 + (65536 : Int32)))
def Q_rm_rank (Z : State) (q0 : Int32) (h0 : Heap) (n0 : Nat) (v : Option Value) (h : Heap) (L : List Loc) : Prop := v = some (.int (own_rank q0)) ∧ Fr n0 L ∧ h = h0
set_option maxRecDepth 65536 in
set_option maxHeartbeats 40000000 in
theorem rm_rank (l : Launch) (Z : State) (a0 : Array Value) (hw : ∀ d ∈ tables_1, d.before a0 Z = true) (ws : List Jvm.Cond) (q0 : Int32) (h0 : Heap) (n0 : Nat) (Z0 : n0 ≤ h0.size)  :
    Met l Z M30 prog_43_method_3_code 1 (some .int) ws (Rm 1 0 0 12) #[(.int q0)] h0 (Q_rm_rank Z q0 h0 n0) := by
  refine met_of (plainFor_of_name pn_com_example_bnodiff_bnodiff_model_CodePointOrder) (own := "com/example/bnodiff/bnodiff/model/CodePointOrder") rfl (fun m => ef_rm_rank m q0) ?_
  intro p e s m below meth c s₁ hx hby hml hown hnm hZ X0 e0 hret hlk
  have N0 := Fr.nil n0
  show Goes p e below s _ _ _ (s₁.setTop (mkF m 0 #[.val (.int q0)] []))
  refine Goes.pre (U' := s₁.setTop (mkF m 1 #[.val (.int q0)] [(.int q0)])) (fun t k => XS.iloadN X0.here hx rfl (hb hby d30_0) rfl k) ?_
  obtain ⟨_, _, ⟨T1, L1, k1, n1⟩, -, X1, ⟨Lc1, hQ1, l1, y1, z1⟩, st1⟩ := Jvm.LawKit.callS X0 hx (y := (⟨"java/lang/Character", "isSurrogate", "(C)Z"⟩ : MethodName)) hown (mvT hZ (wq hw 129 rfl)) (mvT hZ (wq hw 130 rfl)) (mvT hZ (wq hw 131 rfl)) (mvT hZ (wq hw 132 rfl)) (by decide) (backOf (W := 0) (rm_isSur l Z a0 hw [] q0 h0 n0 Z0) hZ (wq hw 132 rfl) (wq hw 131 rfl) (by decide) (by decide)) (g := (mkF m 1 #[.val (.int q0)] [(.int q0)])) rfl (by rw [hml]; rfl) (argsL := [(.int q0)]) (rest := []) (lenOf pd__28C_29Z rfl) rfl (by show 2 * 0 + _ ≤ _; exact Nat.le_of_eq rfl) (hb hby d30_1) (fun _ _ => ⟨rfl, e0, (by decide : 0 + 0 ≤ _), (by decide : 0 + 0 ≤ _)⟩)
  dsimp only [Pt.U, Pt.locs, Pt.cells, Pt.slots] at X1 l1 y1 z1 st1 hQ1
  subst l1 y1 z1
  obtain ⟨rfl, N1q, HQ1⟩ := hQ1
  have N1 := Fr.app N0 N1q
  refine Goes.pre (U' := T1.setTop (mkF m 4 #[.val (.int q0)] [(.int (own_isSur q0))])) (fun t k => st1 t k) ?_
  by_cases hc4 : (own_isSur q0) = (0 : Int32)
  ·
    refine Goes.pre (U' := T1.setTop (mkF m 15 #[.val (.int q0)] [(.int q0)])) (fun t k => XS.ifYes X1.here hx rfl (pc0 := 4) (pc' := 14) rfl (hb hby d30_4) rfl ((if0 _ _).trans (teq hc4).1) (by decide) (by decide) (XS.iloadN X1.here hx rfl (hb hby d30_14) rfl k)) ?_
    refine Goes.ret X1 (v := (some (.int q0))) (fun h => by rw [hret] at h; cases h) hlk (by decide) (by decide) HQ1 (fun fs hr => retI X1 hx hret (hb hby d30_15) hr) ?_
    exact ⟨congrArg (fun z => some (Value.int z)) (show q0 = own_rank q0 from (show own_rank q0 = q0 from by unfold own_rank; rw [if_pos hc4]).symm), N1, rfl⟩
  ·
    refine Goes.pre (U' := T1.setTop (mkF m 15 #[.val (.int q0)] [(.int (q0 + (65536 : Int32)))])) (fun t k => XS.ifNo X1.here hx rfl (hb hby d30_4) rfl ((if0 _ _).trans (feq hc4).1) (XS.iloadN X1.here hx rfl (hb hby d30_7) rfl (X1.ldcInt hx hown (mvT hZ (wq hw 135 rfl)) (g := (mkF m 8 #[.val (.int q0)] [(.int q0)])) rfl (hb hby d30_8) _ (XS.iadd X1.here hx rfl (hb hby d30_10) rfl (XS.goto X1.here hx rfl (pc0 := 11) (pc' := 15) rfl (hb hby d30_11) (by decide) (by decide) k))))) ?_
    refine Goes.ret X1 (v := (some (.int (q0 + (65536 : Int32))))) (fun h => by rw [hret] at h; cases h) hlk (by decide) (by decide) HQ1 (fun fs hr => retI X1 hx hret (hb hby d30_15) hr) ?_
    exact ⟨congrArg (fun z => some (Value.int z)) (show (q0 + (65536 : Int32)) = own_rank q0 from (show own_rank q0 = (q0 + (65536 : Int32)) from by unfold own_rank; rw [if_neg hc4]).symm), N1, rfl⟩
theorem ef_rm_sign (m : MethodId) (x0 : Int32) : entryFrame m #[(.int x0)] 1 = mkF m 0 #[.val (.int x0)] [] := by first | (simp [entryFrame, mkF, argsToLocals, Value.category]; done) | rfl
theorem pn_com_example_bnodiff_bnodiff_model_CodePointOrderComparePinLaw : plainName "com/example/bnodiff/bnodiff/model/CodePointOrderComparePinLaw" = true := by first | (simp [plainName, overriddenIn]; done) | decide +kernel
abbrev M7 : MethodName := ⟨"com/example/bnodiff/bnodiff/model/CodePointOrderComparePinLaw", "sign", "(I)I"⟩
theorem d7_0 : decode method_8_code 0 = .ok (.iload_n 0, 1) := by decide +kernel
theorem d7_1 : decode method_8_code 1 = .ok (.ifCond .ge 7, 3) := by decide +kernel
theorem d7_4 : decode method_8_code 4 = .ok (.iconst (-1), 1) := by decide +kernel
theorem d7_5 : decode method_8_code 5 = .ok (.goto 12, 3) := by decide +kernel
theorem d7_17 : decode method_8_code 17 = .ok (.ireturn, 1) := by decide +kernel
theorem d7_8 : decode method_8_code 8 = .ok (.iload_n 0, 1) := by decide +kernel
theorem d7_9 : decode method_8_code 9 = .ok (.ifCond .le 7, 3) := by decide +kernel
theorem d7_12 : decode method_8_code 12 = .ok (.iconst 1, 1) := by decide +kernel
theorem d7_13 : decode method_8_code 13 = .ok (.goto 4, 3) := by decide +kernel
theorem d7_16 : decode method_8_code 16 = .ok (.iconst 0, 1) := by decide +kernel
def own_sign (q0 : Int32) : Int32 := (if q0 < (0 : Int32) then (-1 : Int32) else (if (0 : Int32) < q0 then (1 : Int32) else (0 : Int32)))
def Q_rm_sign (Z : State) (q0 : Int32) (h0 : Heap) (n0 : Nat) (v : Option Value) (h : Heap) (L : List Loc) : Prop := v = some (.int (own_sign q0)) ∧ Fr n0 L ∧ h = h0
set_option maxRecDepth 65536 in
set_option maxHeartbeats 40000000 in
theorem rm_sign (l : Launch) (Z : State) (a0 : Array Value) (hw : ∀ d ∈ tables_1, d.before a0 Z = true) (ws : List Jvm.Cond) (q0 : Int32) (h0 : Heap) (n0 : Nat) (Z0 : n0 ≤ h0.size)  :
    Met l Z M7 method_8_code 1 (some .int) ws (Rm 0 0 0 0) #[(.int q0)] h0 (Q_rm_sign Z q0 h0 n0) := by
  refine met_of (plainFor_of_name pn_com_example_bnodiff_bnodiff_model_CodePointOrderComparePinLaw) (own := "com/example/bnodiff/bnodiff/model/CodePointOrderComparePinLaw") rfl (fun m => ef_rm_sign m q0) ?_
  intro p e s m below meth c s₁ hx hby hml hown hnm hZ X0 e0 hret hlk
  have N0 := Fr.nil n0
  show Goes p e below s _ _ _ (s₁.setTop (mkF m 0 #[.val (.int q0)] []))
  refine Goes.pre (U' := s₁.setTop (mkF m 1 #[.val (.int q0)] [(.int q0)])) (fun t k => XS.iloadN X0.here hx rfl (hb hby d7_0) rfl k) ?_
  by_cases hc1 : q0 < (0 : Int32)
  ·
    refine Goes.pre (U' := s₁.setTop (mkF m 17 #[.val (.int q0)] [(.int (-1 : Int32))])) (fun t k => XS.ifNo X0.here hx rfl (hb hby d7_1) rfl ((if0 _ _).trans (tlt hc1).2.1) (XS.iconst X0.here hx rfl (hb hby d7_4) (XS.goto X0.here hx rfl (pc0 := 5) (pc' := 17) rfl (hb hby d7_5) (by decide) (by decide) k))) ?_
    refine Goes.ret X0 (v := (some (.int (-1 : Int32)))) (fun h => by rw [hret] at h; cases h) hlk (by decide) (by decide) e0 (fun fs hr => retI X0 hx hret (hb hby d7_17) hr) ?_
    exact ⟨congrArg (fun z => some (Value.int z)) (show (-1 : Int32) = own_sign q0 from (show own_sign q0 = (-1 : Int32) from by unfold own_sign; rw [if_pos hc1]).symm), N0, rfl⟩
  ·
    refine Goes.pre (U' := s₁.setTop (mkF m 9 #[.val (.int q0)] [(.int q0)])) (fun t k => XS.ifYes X0.here hx rfl (pc0 := 1) (pc' := 8) rfl (hb hby d7_1) rfl ((if0 _ _).trans (flt hc1).2.1) (by decide) (by decide) (XS.iloadN X0.here hx rfl (hb hby d7_8) rfl k)) ?_
    by_cases hc9 : (0 : Int32) < q0
    ·
      refine Goes.pre (U' := s₁.setTop (mkF m 17 #[.val (.int q0)] [(.int (1 : Int32))])) (fun t k => XS.ifNo X0.here hx rfl (hb hby d7_9) rfl ((if0 _ _).trans (tlt hc9).2.2.2) (XS.iconst X0.here hx rfl (hb hby d7_12) (XS.goto X0.here hx rfl (pc0 := 13) (pc' := 17) rfl (hb hby d7_13) (by decide) (by decide) k))) ?_
      refine Goes.ret X0 (v := (some (.int (1 : Int32)))) (fun h => by rw [hret] at h; cases h) hlk (by decide) (by decide) e0 (fun fs hr => retI X0 hx hret (hb hby d7_17) hr) ?_
      exact ⟨congrArg (fun z => some (Value.int z)) (show (1 : Int32) = own_sign q0 from (show own_sign q0 = (1 : Int32) from by unfold own_sign; rw [if_neg hc1, if_pos hc9]).symm), N0, rfl⟩
    ·
      refine Goes.pre (U' := s₁.setTop (mkF m 17 #[.val (.int q0)] [(.int (0 : Int32))])) (fun t k => XS.ifYes X0.here hx rfl (pc0 := 9) (pc' := 16) rfl (hb hby d7_9) rfl ((if0 _ _).trans (flt hc9).2.2.2) (by decide) (by decide) (XS.iconst X0.here hx rfl (hb hby d7_16) k)) ?_
      refine Goes.ret X0 (v := (some (.int (0 : Int32)))) (fun h => by rw [hret] at h; cases h) hlk (by decide) (by decide) e0 (fun fs hr => retI X0 hx hret (hb hby d7_17) hr) ?_
      exact ⟨congrArg (fun z => some (Value.int z)) (show (0 : Int32) = own_sign q0 from (show own_sign q0 = (0 : Int32) from by unfold own_sign; rw [if_neg hc1, if_neg hc9]).symm), N0, rfl⟩
theorem ef_rm_hi (m : MethodId) (x0 : Int32) : entryFrame m #[(.int x0)] 1 = mkF m 0 #[.val (.int x0)] [] := by first | (simp [entryFrame, mkF, argsToLocals, Value.category]; done) | rfl
abbrev M12 : MethodName := ⟨"com/example/bnodiff/bnodiff/model/CodePointOrderComparePinLaw", "hi", "(I)C"⟩
theorem d12_0 : decode method_4_code 0 = .ok (.iload_n 0, 1) := by decide +kernel
theorem d12_1 : decode method_4_code 1 = .ok (.ldc 28, 2) := by decide +kernel
theorem d12_3 : decode method_4_code 3 = .ok (.if_icmp .lt 17, 3) := by decide +kernel
theorem d12_20 : decode method_4_code 20 = .ok (.iload_n 0, 1) := by decide +kernel
theorem d12_21 : decode method_4_code 21 = .ok (.i2c, 1) := by decide +kernel
theorem d12_22 : decode method_4_code 22 = .ok (.ireturn, 1) := by decide +kernel
theorem d12_6 : decode method_4_code 6 = .ok (.ldc 27, 2) := by decide +kernel
theorem d12_8 : decode method_4_code 8 = .ok (.iload_n 0, 1) := by decide +kernel
theorem d12_9 : decode method_4_code 9 = .ok (.ldc 28, 2) := by decide +kernel
theorem d12_11 : decode method_4_code 11 = .ok (.isub, 1) := by decide +kernel
theorem d12_12 : decode method_4_code 12 = .ok (.bipush 10, 2) := by decide +kernel
theorem d12_14 : decode method_4_code 14 = .ok (.iushr, 1) := by decide +kernel
theorem d12_15 : decode method_4_code 15 = .ok (.iadd, 1) := by decide +kernel
theorem d12_16 : decode method_4_code 16 = .ok (.i2c, 1) := by decide +kernel
theorem d12_17 : decode method_4_code 17 = .ok (.goto 5, 3) := by decide +kernel
def own_hi (q0 : Int32) : Int32 := (if q0 < (65536 : Int32) then (nar .char (q0.toUInt32.toUInt16.toUInt32.toInt32)) else (nar .char (((55296 : Int32) + (((q0 - (65536 : Int32)).toUInt32 >>> ((10 : Int32) &&& 31).toUInt32).toInt32)).toUInt32.toUInt16.toUInt32.toInt32)))
def Q_rm_hi (Z : State) (q0 : Int32) (h0 : Heap) (n0 : Nat) (v : Option Value) (h : Heap) (L : List Loc) : Prop := v = some (.int (own_hi q0)) ∧ Fr n0 L ∧ h = h0
set_option maxRecDepth 65536 in
set_option maxHeartbeats 40000000 in
theorem rm_hi (l : Launch) (Z : State) (a0 : Array Value) (hw : ∀ d ∈ tables_1, d.before a0 Z = true) (ws : List Jvm.Cond) (q0 : Int32) (h0 : Heap) (n0 : Nat) (Z0 : n0 ≤ h0.size)  :
    Met l Z M12 method_4_code 1 (some .char) ws (Rm 0 0 0 0) #[(.int q0)] h0 (Q_rm_hi Z q0 h0 n0) := by
  refine met_of (plainFor_of_name pn_com_example_bnodiff_bnodiff_model_CodePointOrderComparePinLaw) (own := "com/example/bnodiff/bnodiff/model/CodePointOrderComparePinLaw") rfl (fun m => ef_rm_hi m q0) ?_
  intro p e s m below meth c s₁ hx hby hml hown hnm hZ X0 e0 hret hlk
  have N0 := Fr.nil n0
  show Goes p e below s _ _ _ (s₁.setTop (mkF m 0 #[.val (.int q0)] []))
  refine Goes.pre (U' := s₁.setTop (mkF m 3 #[.val (.int q0)] [(.int (65536 : Int32)), (.int q0)])) (fun t k => XS.iloadN X0.here hx rfl (hb hby d12_0) rfl (X0.ldcInt hx hown (mvT hZ (wq hw 4 rfl)) (g := (mkF m 1 #[.val (.int q0)] [(.int q0)])) rfl (hb hby d12_1) _ k)) ?_
  by_cases hc3 : q0 < (65536 : Int32)
  ·
    refine Goes.pre (U' := s₁.setTop (mkF m 22 #[.val (.int q0)] [(.int (q0.toUInt32.toUInt16.toUInt32.toInt32))])) (fun t k => XS.icmpYes X0.here hx rfl (pc0 := 3) (pc' := 20) rfl (hb hby d12_3) rfl (tlt hc3).1 (by decide) (by decide) (XS.iloadN X0.here hx rfl (hb hby d12_20) rfl (XS.i2c X0.here hx rfl (hb hby d12_21) rfl k))) ?_
    refine Goes.ret X0 (v := (some (.int (nar .char (q0.toUInt32.toUInt16.toUInt32.toInt32))))) (fun h => by rw [hret] at h; cases h) hlk (by decide) (by decide) e0 (fun fs hr => retN X0 hx (t := .char) hret (by simp) (hb hby d12_22) (by rw [show nar .char (q0.toUInt32.toUInt16.toUInt32.toInt32) = (nar .char (q0.toUInt32.toUInt16.toUInt32.toInt32)) from rfl]; exact hr)) ?_
    exact ⟨congrArg (fun z => some (Value.int z)) (show (nar .char (q0.toUInt32.toUInt16.toUInt32.toInt32)) = own_hi q0 from (show own_hi q0 = (nar .char (q0.toUInt32.toUInt16.toUInt32.toInt32)) from by unfold own_hi; rw [if_pos hc3]).symm), N0, rfl⟩
  ·
    refine Goes.pre (U' := s₁.setTop (mkF m 22 #[.val (.int q0)] [(.int (((55296 : Int32) + (((q0 - (65536 : Int32)).toUInt32 >>> ((10 : Int32) &&& 31).toUInt32).toInt32)).toUInt32.toUInt16.toUInt32.toInt32))])) (fun t k => XS.icmpNo X0.here hx rfl (hb hby d12_3) rfl (flt hc3).1 (X0.ldcInt hx hown (mvT hZ (wq hw 6 rfl)) (g := (mkF m 6 #[.val (.int q0)] [])) rfl (hb hby d12_6) _ (XS.iloadN X0.here hx rfl (hb hby d12_8) rfl (X0.ldcInt hx hown (mvT hZ (wq hw 4 rfl)) (g := (mkF m 9 #[.val (.int q0)] [(.int q0), (.int (55296 : Int32))])) rfl (hb hby d12_9) _ (XS.isub X0.here hx rfl (hb hby d12_11) rfl (XS.bipush X0.here hx rfl (hb hby d12_12) (XS.iushr X0.here hx rfl (hb hby d12_14) rfl (XS.iadd X0.here hx rfl (hb hby d12_15) rfl (XS.i2c X0.here hx rfl (hb hby d12_16) rfl (XS.goto X0.here hx rfl (pc0 := 17) (pc' := 22) rfl (hb hby d12_17) (by decide) (by decide) k)))))))))) ?_
    refine Goes.ret X0 (v := (some (.int (nar .char (((55296 : Int32) + (((q0 - (65536 : Int32)).toUInt32 >>> ((10 : Int32) &&& 31).toUInt32).toInt32)).toUInt32.toUInt16.toUInt32.toInt32))))) (fun h => by rw [hret] at h; cases h) hlk (by decide) (by decide) e0 (fun fs hr => retN X0 hx (t := .char) hret (by simp) (hb hby d12_22) (by rw [show nar .char (((55296 : Int32) + (((q0 - (65536 : Int32)).toUInt32 >>> ((10 : Int32) &&& 31).toUInt32).toInt32)).toUInt32.toUInt16.toUInt32.toInt32) = (nar .char (((55296 : Int32) + (((q0 - (65536 : Int32)).toUInt32 >>> ((10 : Int32) &&& 31).toUInt32).toInt32)).toUInt32.toUInt16.toUInt32.toInt32)) from rfl]; exact hr)) ?_
    exact ⟨congrArg (fun z => some (Value.int z)) (show (nar .char (((55296 : Int32) + (((q0 - (65536 : Int32)).toUInt32 >>> ((10 : Int32) &&& 31).toUInt32).toInt32)).toUInt32.toUInt16.toUInt32.toInt32)) = own_hi q0 from (show own_hi q0 = (nar .char (((55296 : Int32) + (((q0 - (65536 : Int32)).toUInt32 >>> ((10 : Int32) &&& 31).toUInt32).toInt32)).toUInt32.toUInt16.toUInt32.toInt32)) from by unfold own_hi; rw [if_neg hc3]).symm), N0, rfl⟩
theorem ef_rm_lo (m : MethodId) (x0 : Int32) : entryFrame m #[(.int x0)] 1 = mkF m 0 #[.val (.int x0)] [] := by first | (simp [entryFrame, mkF, argsToLocals, Value.category]; done) | rfl
abbrev M21 : MethodName := ⟨"com/example/bnodiff/bnodiff/model/CodePointOrderComparePinLaw", "lo", "(I)C"⟩
theorem d21_0 : decode method_5_code 0 = .ok (.ldc 30, 2) := by decide +kernel
theorem d21_2 : decode method_5_code 2 = .ok (.iload_n 0, 1) := by decide +kernel
theorem d21_3 : decode method_5_code 3 = .ok (.ldc 28, 2) := by decide +kernel
theorem d21_5 : decode method_5_code 5 = .ok (.isub, 1) := by decide +kernel
theorem d21_6 : decode method_5_code 6 = .ok (.sipush 1023, 3) := by decide +kernel
theorem d21_9 : decode method_5_code 9 = .ok (.iand, 1) := by decide +kernel
theorem d21_10 : decode method_5_code 10 = .ok (.iadd, 1) := by decide +kernel
theorem d21_11 : decode method_5_code 11 = .ok (.i2c, 1) := by decide +kernel
theorem d21_12 : decode method_5_code 12 = .ok (.ireturn, 1) := by decide +kernel
def own_lo (q0 : Int32) : Int32 := (nar .char (((56320 : Int32) + ((q0 - (65536 : Int32)) &&& (1023 : Int32))).toUInt32.toUInt16.toUInt32.toInt32))
def Q_rm_lo (Z : State) (q0 : Int32) (h0 : Heap) (n0 : Nat) (v : Option Value) (h : Heap) (L : List Loc) : Prop := v = some (.int (own_lo q0)) ∧ Fr n0 L ∧ h = h0
set_option maxRecDepth 65536 in
set_option maxHeartbeats 40000000 in
theorem rm_lo (l : Launch) (Z : State) (a0 : Array Value) (hw : ∀ d ∈ tables_1, d.before a0 Z = true) (ws : List Jvm.Cond) (q0 : Int32) (h0 : Heap) (n0 : Nat) (Z0 : n0 ≤ h0.size)  :
    Met l Z M21 method_5_code 1 (some .char) ws (Rm 0 0 0 0) #[(.int q0)] h0 (Q_rm_lo Z q0 h0 n0) := by
  refine met_of (plainFor_of_name pn_com_example_bnodiff_bnodiff_model_CodePointOrderComparePinLaw) (own := "com/example/bnodiff/bnodiff/model/CodePointOrderComparePinLaw") rfl (fun m => ef_rm_lo m q0) ?_
  intro p e s m below meth c s₁ hx hby hml hown hnm hZ X0 e0 hret hlk
  have N0 := Fr.nil n0
  show Goes p e below s _ _ _ (s₁.setTop (mkF m 0 #[.val (.int q0)] []))
  refine Goes.pre (U' := s₁.setTop (mkF m 12 #[.val (.int q0)] [(.int (((56320 : Int32) + ((q0 - (65536 : Int32)) &&& (1023 : Int32))).toUInt32.toUInt16.toUInt32.toInt32))])) (fun t k => X0.ldcInt hx hown (mvT hZ (wq hw 93 rfl)) (g := (mkF m 0 #[.val (.int q0)] [])) rfl (hb hby d21_0) _ (XS.iloadN X0.here hx rfl (hb hby d21_2) rfl (X0.ldcInt hx hown (mvT hZ (wq hw 4 rfl)) (g := (mkF m 3 #[.val (.int q0)] [(.int q0), (.int (56320 : Int32))])) rfl (hb hby d21_3) _ (XS.isub X0.here hx rfl (hb hby d21_5) rfl (XS.sipush X0.here hx rfl (hb hby d21_6) (XS.iand X0.here hx rfl (hb hby d21_9) rfl (XS.iadd X0.here hx rfl (hb hby d21_10) rfl (XS.i2c X0.here hx rfl (hb hby d21_11) rfl k)))))))) ?_
  refine Goes.ret X0 (v := (some (.int (nar .char (((56320 : Int32) + ((q0 - (65536 : Int32)) &&& (1023 : Int32))).toUInt32.toUInt16.toUInt32.toInt32))))) (fun h => by rw [hret] at h; cases h) hlk (by decide) (by decide) e0 (fun fs hr => retN X0 hx (t := .char) hret (by simp) (hb hby d21_12) (by rw [show nar .char (((56320 : Int32) + ((q0 - (65536 : Int32)) &&& (1023 : Int32))).toUInt32.toUInt16.toUInt32.toInt32) = (nar .char (((56320 : Int32) + ((q0 - (65536 : Int32)) &&& (1023 : Int32))).toUInt32.toUInt16.toUInt32.toInt32)) from rfl]; exact hr)) ?_
  exact ⟨congrArg (fun z => some (Value.int z)) (show (nar .char (((56320 : Int32) + ((q0 - (65536 : Int32)) &&& (1023 : Int32))).toUInt32.toUInt16.toUInt32.toInt32)) = own_lo q0 from (show own_lo q0 = (nar .char (((56320 : Int32) + ((q0 - (65536 : Int32)) &&& (1023 : Int32))).toUInt32.toUInt16.toUInt32.toInt32)) from by unfold own_lo; rfl).symm), N0, rfl⟩
theorem ef_rm_cp (m : MethodId) (x0 : Int32) : entryFrame m #[(.int x0)] 3 = mkF m 0 #[.val (.int x0), .unset, .unset] [] := by first | (simp [entryFrame, mkF, argsToLocals, Value.category]; done) | rfl
abbrev M1 : MethodName := ⟨"com/example/bnodiff/bnodiff/model/CodePointOrderComparePinLaw", "cp", "(I)I"⟩
theorem d1_0 : decode method_3_code 0 = .ok (.iload_n 0, 1) := by decide +kernel
theorem d1_1 : decode method_3_code 1 = .ok (.iconst 3, 1) := by decide +kernel
theorem d1_2 : decode method_3_code 2 = .ok (.iand, 1) := by decide +kernel
theorem d1_3 : decode method_3_code 3 = .ok (.istore_n 1, 1) := by decide +kernel
theorem d1_4 : decode method_3_code 4 = .ok (.iload_n 0, 1) := by decide +kernel
theorem d1_5 : decode method_3_code 5 = .ok (.iconst 2, 1) := by decide +kernel
theorem d1_6 : decode method_3_code 6 = .ok (.iushr, 1) := by decide +kernel
theorem d1_7 : decode method_3_code 7 = .ok (.istore_n 2, 1) := by decide +kernel
theorem d1_8 : decode method_3_code 8 = .ok (.iload_n 1, 1) := by decide +kernel
theorem d1_9 : decode method_3_code 9 = .ok (.ifCond .ne 8, 3) := by decide +kernel
theorem d1_12 : decode method_3_code 12 = .ok (.iload_n 2, 1) := by decide +kernel
theorem d1_13 : decode method_3_code 13 = .ok (.bipush 127, 2) := by decide +kernel
theorem d1_15 : decode method_3_code 15 = .ok (.iand, 1) := by decide +kernel
theorem d1_16 : decode method_3_code 16 = .ok (.ireturn, 1) := by decide +kernel
theorem d1_17 : decode method_3_code 17 = .ok (.iload_n 1, 1) := by decide +kernel
theorem d1_18 : decode method_3_code 18 = .ok (.iconst 1, 1) := by decide +kernel
theorem d1_19 : decode method_3_code 19 = .ok (.if_icmp .ne 12, 3) := by decide +kernel
theorem d1_22 : decode method_3_code 22 = .ok (.ldc 26, 2) := by decide +kernel
theorem d1_24 : decode method_3_code 24 = .ok (.iload_n 2, 1) := by decide +kernel
theorem d1_25 : decode method_3_code 25 = .ok (.sipush 8191, 3) := by decide +kernel
theorem d1_28 : decode method_3_code 28 = .ok (.iand, 1) := by decide +kernel
theorem d1_29 : decode method_3_code 29 = .ok (.iadd, 1) := by decide +kernel
theorem d1_30 : decode method_3_code 30 = .ok (.ireturn, 1) := by decide +kernel
theorem d1_31 : decode method_3_code 31 = .ok (.iload_n 1, 1) := by decide +kernel
theorem d1_32 : decode method_3_code 32 = .ok (.iconst 2, 1) := by decide +kernel
theorem d1_33 : decode method_3_code 33 = .ok (.if_icmp .ne 8, 3) := by decide +kernel
theorem d1_36 : decode method_3_code 36 = .ok (.iload_n 2, 1) := by decide +kernel
theorem d1_37 : decode method_3_code 37 = .ok (.ldc 27, 2) := by decide +kernel
theorem d1_39 : decode method_3_code 39 = .ok (.irem, 1) := by decide +kernel
theorem d1_40 : decode method_3_code 40 = .ok (.ireturn, 1) := by decide +kernel
theorem d1_41 : decode method_3_code 41 = .ok (.ldc 28, 2) := by decide +kernel
theorem d1_43 : decode method_3_code 43 = .ok (.iload_n 2, 1) := by decide +kernel
theorem d1_44 : decode method_3_code 44 = .ok (.ldc 29, 2) := by decide +kernel
theorem d1_46 : decode method_3_code 46 = .ok (.irem, 1) := by decide +kernel
theorem d1_47 : decode method_3_code 47 = .ok (.iadd, 1) := by decide +kernel
theorem d1_48 : decode method_3_code 48 = .ok (.ireturn, 1) := by decide +kernel
def own_cp (q0 : Int32) : Int32 := (if (q0 &&& (3 : Int32)) = (0 : Int32) then (((q0.toUInt32 >>> ((2 : Int32) &&& 31).toUInt32).toInt32) &&& (127 : Int32)) else (if (q0 &&& (3 : Int32)) = (1 : Int32) then ((57344 : Int32) + (((q0.toUInt32 >>> ((2 : Int32) &&& 31).toUInt32).toInt32) &&& (8191 : Int32))) else (if (q0 &&& (3 : Int32)) = (2 : Int32) then (((q0.toUInt32 >>> ((2 : Int32) &&& 31).toUInt32).toInt32) % (55296 : Int32)) else ((65536 : Int32) + (((q0.toUInt32 >>> ((2 : Int32) &&& 31).toUInt32).toInt32) % (1048576 : Int32))))))
def Q_rm_cp (Z : State) (q0 : Int32) (h0 : Heap) (n0 : Nat) (v : Option Value) (h : Heap) (L : List Loc) : Prop := v = some (.int (own_cp q0)) ∧ Fr n0 L ∧ h = h0
set_option maxRecDepth 65536 in
set_option maxHeartbeats 40000000 in
theorem rm_cp (l : Launch) (Z : State) (a0 : Array Value) (hw : ∀ d ∈ tables_1, d.before a0 Z = true) (ws : List Jvm.Cond) (q0 : Int32) (h0 : Heap) (n0 : Nat) (Z0 : n0 ≤ h0.size)  :
    Met l Z M1 method_3_code 3 (some .int) ws (Rm 0 0 0 0) #[(.int q0)] h0 (Q_rm_cp Z q0 h0 n0) := by
  refine met_of (plainFor_of_name pn_com_example_bnodiff_bnodiff_model_CodePointOrderComparePinLaw) (own := "com/example/bnodiff/bnodiff/model/CodePointOrderComparePinLaw") rfl (fun m => ef_rm_cp m q0) ?_
  intro p e s m below meth c s₁ hx hby hml hown hnm hZ X0 e0 hret hlk
  have N0 := Fr.nil n0
  show Goes p e below s _ _ _ (s₁.setTop (mkF m 0 #[.val (.int q0), .unset, .unset] []))
  refine Goes.pre (U' := s₁.setTop (mkF m 9 #[.val (.int q0), .val (.int (q0 &&& (3 : Int32))), .val (.int ((q0.toUInt32 >>> ((2 : Int32) &&& 31).toUInt32).toInt32))] [(.int (q0 &&& (3 : Int32)))])) (fun t k => XS.iloadN X0.here hx rfl (hb hby d1_0) rfl (XS.iconst X0.here hx rfl (hb hby d1_1) (XS.iand X0.here hx rfl (hb hby d1_2) rfl (XS.istoreN X0.here hx rfl (hb hby d1_3) rfl (l' := #[.val (.int q0), .val (.int (q0 &&& (3 : Int32))), .unset]) rfl (XS.iloadN X0.here hx rfl (hb hby d1_4) rfl (XS.iconst X0.here hx rfl (hb hby d1_5) (XS.iushr X0.here hx rfl (hb hby d1_6) rfl (XS.istoreN X0.here hx rfl (hb hby d1_7) rfl (l' := #[.val (.int q0), .val (.int (q0 &&& (3 : Int32))), .val (.int ((q0.toUInt32 >>> ((2 : Int32) &&& 31).toUInt32).toInt32))]) rfl (XS.iloadN X0.here hx rfl (hb hby d1_8) rfl k))))))))) ?_
  by_cases hc9 : (q0 &&& (3 : Int32)) = (0 : Int32)
  ·
    refine Goes.pre (U' := s₁.setTop (mkF m 16 #[.val (.int q0), .val (.int (q0 &&& (3 : Int32))), .val (.int ((q0.toUInt32 >>> ((2 : Int32) &&& 31).toUInt32).toInt32))] [(.int (((q0.toUInt32 >>> ((2 : Int32) &&& 31).toUInt32).toInt32) &&& (127 : Int32)))])) (fun t k => XS.ifNo X0.here hx rfl (hb hby d1_9) rfl ((if0 _ _).trans (teq hc9).2) (XS.iloadN X0.here hx rfl (hb hby d1_12) rfl (XS.bipush X0.here hx rfl (hb hby d1_13) (XS.iand X0.here hx rfl (hb hby d1_15) rfl k)))) ?_
    refine Goes.ret X0 (v := (some (.int (((q0.toUInt32 >>> ((2 : Int32) &&& 31).toUInt32).toInt32) &&& (127 : Int32))))) (fun h => by rw [hret] at h; cases h) hlk (by decide) (by decide) e0 (fun fs hr => retI X0 hx hret (hb hby d1_16) hr) ?_
    exact ⟨congrArg (fun z => some (Value.int z)) (show (((q0.toUInt32 >>> ((2 : Int32) &&& 31).toUInt32).toInt32) &&& (127 : Int32)) = own_cp q0 from (show own_cp q0 = (((q0.toUInt32 >>> ((2 : Int32) &&& 31).toUInt32).toInt32) &&& (127 : Int32)) from by unfold own_cp; rw [if_pos hc9]).symm), N0, rfl⟩
  ·
    refine Goes.pre (U' := s₁.setTop (mkF m 19 #[.val (.int q0), .val (.int (q0 &&& (3 : Int32))), .val (.int ((q0.toUInt32 >>> ((2 : Int32) &&& 31).toUInt32).toInt32))] [(.int (1 : Int32)), (.int (q0 &&& (3 : Int32)))])) (fun t k => XS.ifYes X0.here hx rfl (pc0 := 9) (pc' := 17) rfl (hb hby d1_9) rfl ((if0 _ _).trans (feq hc9).2) (by decide) (by decide) (XS.iloadN X0.here hx rfl (hb hby d1_17) rfl (XS.iconst X0.here hx rfl (hb hby d1_18) k))) ?_
    by_cases hc19 : (q0 &&& (3 : Int32)) = (1 : Int32)
    ·
      refine Goes.pre (U' := s₁.setTop (mkF m 30 #[.val (.int q0), .val (.int (q0 &&& (3 : Int32))), .val (.int ((q0.toUInt32 >>> ((2 : Int32) &&& 31).toUInt32).toInt32))] [(.int ((57344 : Int32) + (((q0.toUInt32 >>> ((2 : Int32) &&& 31).toUInt32).toInt32) &&& (8191 : Int32))))])) (fun t k => XS.icmpNo X0.here hx rfl (hb hby d1_19) rfl (teq hc19).2 (X0.ldcInt hx hown (mvT hZ (wq hw 7 rfl)) (g := (mkF m 22 #[.val (.int q0), .val (.int (q0 &&& (3 : Int32))), .val (.int ((q0.toUInt32 >>> ((2 : Int32) &&& 31).toUInt32).toInt32))] [])) rfl (hb hby d1_22) _ (XS.iloadN X0.here hx rfl (hb hby d1_24) rfl (XS.sipush X0.here hx rfl (hb hby d1_25) (XS.iand X0.here hx rfl (hb hby d1_28) rfl (XS.iadd X0.here hx rfl (hb hby d1_29) rfl k)))))) ?_
      refine Goes.ret X0 (v := (some (.int ((57344 : Int32) + (((q0.toUInt32 >>> ((2 : Int32) &&& 31).toUInt32).toInt32) &&& (8191 : Int32)))))) (fun h => by rw [hret] at h; cases h) hlk (by decide) (by decide) e0 (fun fs hr => retI X0 hx hret (hb hby d1_30) hr) ?_
      exact ⟨congrArg (fun z => some (Value.int z)) (show ((57344 : Int32) + (((q0.toUInt32 >>> ((2 : Int32) &&& 31).toUInt32).toInt32) &&& (8191 : Int32))) = own_cp q0 from (show own_cp q0 = ((57344 : Int32) + (((q0.toUInt32 >>> ((2 : Int32) &&& 31).toUInt32).toInt32) &&& (8191 : Int32))) from by unfold own_cp; rw [if_neg hc9, if_pos hc19]).symm), N0, rfl⟩
    ·
      refine Goes.pre (U' := s₁.setTop (mkF m 33 #[.val (.int q0), .val (.int (q0 &&& (3 : Int32))), .val (.int ((q0.toUInt32 >>> ((2 : Int32) &&& 31).toUInt32).toInt32))] [(.int (2 : Int32)), (.int (q0 &&& (3 : Int32)))])) (fun t k => XS.icmpYes X0.here hx rfl (pc0 := 19) (pc' := 31) rfl (hb hby d1_19) rfl (feq hc19).2 (by decide) (by decide) (XS.iloadN X0.here hx rfl (hb hby d1_31) rfl (XS.iconst X0.here hx rfl (hb hby d1_32) k))) ?_
      by_cases hc33 : (q0 &&& (3 : Int32)) = (2 : Int32)
      ·
        refine Goes.pre (U' := s₁.setTop (mkF m 40 #[.val (.int q0), .val (.int (q0 &&& (3 : Int32))), .val (.int ((q0.toUInt32 >>> ((2 : Int32) &&& 31).toUInt32).toInt32))] [(.int (((q0.toUInt32 >>> ((2 : Int32) &&& 31).toUInt32).toInt32) % (55296 : Int32)))])) (fun t k => XS.icmpNo X0.here hx rfl (hb hby d1_33) rfl (teq hc33).2 (XS.iloadN X0.here hx rfl (hb hby d1_36) rfl (X0.ldcInt hx hown (mvT hZ (wq hw 6 rfl)) (g := (mkF m 37 #[.val (.int q0), .val (.int (q0 &&& (3 : Int32))), .val (.int ((q0.toUInt32 >>> ((2 : Int32) &&& 31).toUInt32).toInt32))] [(.int ((q0.toUInt32 >>> ((2 : Int32) &&& 31).toUInt32).toInt32))])) rfl (hb hby d1_37) _ (Jvm.RoadKit.iremM X0 hx rfl (hb hby d1_39) rfl (by decide) k)))) ?_
        refine Goes.ret X0 (v := (some (.int (((q0.toUInt32 >>> ((2 : Int32) &&& 31).toUInt32).toInt32) % (55296 : Int32))))) (fun h => by rw [hret] at h; cases h) hlk (by decide) (by decide) e0 (fun fs hr => retI X0 hx hret (hb hby d1_40) hr) ?_
        exact ⟨congrArg (fun z => some (Value.int z)) (show (((q0.toUInt32 >>> ((2 : Int32) &&& 31).toUInt32).toInt32) % (55296 : Int32)) = own_cp q0 from (show own_cp q0 = (((q0.toUInt32 >>> ((2 : Int32) &&& 31).toUInt32).toInt32) % (55296 : Int32)) from by unfold own_cp; rw [if_neg hc9, if_neg hc19, if_pos hc33]).symm), N0, rfl⟩
      ·
        refine Goes.pre (U' := s₁.setTop (mkF m 48 #[.val (.int q0), .val (.int (q0 &&& (3 : Int32))), .val (.int ((q0.toUInt32 >>> ((2 : Int32) &&& 31).toUInt32).toInt32))] [(.int ((65536 : Int32) + (((q0.toUInt32 >>> ((2 : Int32) &&& 31).toUInt32).toInt32) % (1048576 : Int32))))])) (fun t k => XS.icmpYes X0.here hx rfl (pc0 := 33) (pc' := 41) rfl (hb hby d1_33) rfl (feq hc33).2 (by decide) (by decide) (X0.ldcInt hx hown (mvT hZ (wq hw 4 rfl)) (g := (mkF m 41 #[.val (.int q0), .val (.int (q0 &&& (3 : Int32))), .val (.int ((q0.toUInt32 >>> ((2 : Int32) &&& 31).toUInt32).toInt32))] [])) rfl (hb hby d1_41) _ (XS.iloadN X0.here hx rfl (hb hby d1_43) rfl (X0.ldcInt hx hown (mvT hZ (wq hw 5 rfl)) (g := (mkF m 44 #[.val (.int q0), .val (.int (q0 &&& (3 : Int32))), .val (.int ((q0.toUInt32 >>> ((2 : Int32) &&& 31).toUInt32).toInt32))] [(.int ((q0.toUInt32 >>> ((2 : Int32) &&& 31).toUInt32).toInt32)), (.int (65536 : Int32))])) rfl (hb hby d1_44) _ (Jvm.RoadKit.iremM X0 hx rfl (hb hby d1_46) rfl (by decide) (XS.iadd X0.here hx rfl (hb hby d1_47) rfl k)))))) ?_
        refine Goes.ret X0 (v := (some (.int ((65536 : Int32) + (((q0.toUInt32 >>> ((2 : Int32) &&& 31).toUInt32).toInt32) % (1048576 : Int32)))))) (fun h => by rw [hret] at h; cases h) hlk (by decide) (by decide) e0 (fun fs hr => retI X0 hx hret (hb hby d1_48) hr) ?_
        exact ⟨congrArg (fun z => some (Value.int z)) (show ((65536 : Int32) + (((q0.toUInt32 >>> ((2 : Int32) &&& 31).toUInt32).toInt32) % (1048576 : Int32))) = own_cp q0 from (show own_cp q0 = ((65536 : Int32) + (((q0.toUInt32 >>> ((2 : Int32) &&& 31).toUInt32).toInt32) % (1048576 : Int32))) from by unfold own_cp; rw [if_neg hc9, if_neg hc19, if_neg hc33]).symm), N0, rfl⟩
theorem own_hich (q : Int32) : OwnCh (own_hi q) := by
  unfold own_hi
  split <;> exact (c_i2c _).2
theorem own_loch (q : Int32) : OwnCh (own_lo q) := by
  unfold own_lo
  exact (c_i2c _).2
theorem own_lt12 (n : Int32) (h : n < (1 : Int32)) : n < (2 : Int32) := by
  have k1 : (1 : Int32).toInt = 1 := by decide
  have k2 : (2 : Int32).toInt = 2 := by decide
  rw [Int32.lt_iff_toInt_lt] at h ⊢
  omega
def own_units (q : Int32) : List Int32 := if q < (65536 : Int32) then [own_hi q] else [own_hi q, own_lo q]
def own_enc (n q0 q1 : Int32) : List Int32 := (if n < (1 : Int32) then [] else own_units q0) ++ (if n < (2 : Int32) then [] else own_units q1)
theorem own_enc_len (n q0 q1 : Int32) : (own_enc n q0 q1).length ≤ 4 := by
  unfold own_enc own_units
  repeat' split
  all_goals simp
theorem ef_rm_take0 (m : MethodId) (x0 : Addr) (x1 : Int32) : entryFrame m #[(.ref x0), (.int x1)] 2 = mkF m 0 #[.val (.ref x0), .val (.int x1)] [] := by first | (simp [entryFrame, mkF, argsToLocals, Value.category]; done) | rfl
abbrev M3 : MethodName := ⟨"com/example/bnodiff/bnodiff/model/CodePointOrderComparePinLaw", "take", "([CI)Ljava/lang/String;"⟩
theorem d3_0 : decode method_7_code 0 = .ok (.iload_n 1, 1) := by decide +kernel
theorem d3_1 : decode method_7_code 1 = .ok (.ifCond .ne 14, 3) := by decide +kernel
theorem d3_4 : decode method_7_code 4 = .ok (.new 42, 3) := by decide +kernel
theorem d3_7 : decode method_7_code 7 = .ok (.dup, 1) := by decide +kernel
theorem d3_8 : decode method_7_code 8 = .ok (.iconst 0, 1) := by decide +kernel
theorem d3_9 : decode method_7_code 9 = .ok (.newarray .char, 2) := by decide +kernel
theorem d3_11 : decode method_7_code 11 = .ok (.invokespecial 44, 3) := by decide +kernel
theorem pd__28_5bC_29V : parseMethodDescriptor "([C)V" = some ⟨[(.array .char)], none⟩ := by decide +kernel
theorem d3_14 : decode method_7_code 14 = .ok (.areturn, 1) := by decide +kernel
def Q_rm_take0 (Z : State) (u : Addr) (ku : ClassId) (c0 : Int32) (c1 : Int32) (c2 : Int32) (c3 : Int32) (h0 : Heap) (n0 : Nat) (v : Option Value) (h : Heap) (L : List Loc) : Prop := ∃ (r : Addr) (b : Addr) (kb : ClassId), v = some (.ref r) ∧ Fr n0 L ∧ Keep h0 h [] ∧ OwnStr Z h r b kb []
set_option maxRecDepth 65536 in
set_option maxHeartbeats 40000000 in
theorem rm_take0 (l : Launch) (Z : State) (a0 : Array Value) (hw : ∀ d ∈ tables_1, d.before a0 Z = true) (hEL : EW Z a0 own_EL) (ws : List Jvm.Cond) (u : Addr) (ku : ClassId) (c0 : Int32) (c1 : Int32) (c2 : Int32) (c3 : Int32) (h0 : Heap) (n0 : Nat) (Z0 : n0 ≤ h0.size) (V_u : Arv Z h0 u ku .char (4 : Int32) [(.int c0), (.int c1), (.int c2), (.int c3)] (.int (0 : Int32))) :
    MetW l Z own_EL M3 method_7_code 2 (some (.object "java/lang/String")) ws (Rm 3 4 8 43) #[(.ref u), (.int (0 : Int32))] [] h0 (Q_rm_take0 Z u ku c0 c1 c2 c3 h0 n0) := by
  refine metW_of (plainFor_of_name pn_com_example_bnodiff_bnodiff_model_CodePointOrderComparePinLaw) (own := "com/example/bnodiff/bnodiff/model/CodePointOrderComparePinLaw") rfl (fun m => ef_rm_take0 m u (0 : Int32)) ?_
  intro p e s m below meth c s₁ hx hby hml hown hnm hZ X0 e0 hret hlk H hSf CR hS
  have N0 := Fr.nil n0
  have K0 := Keep.refl h0 []
  have hk := Nat.le_refl h0.size
  show GoesW p e below s Z own_EL _ _ _ (s₁.setTop (mkF m 0 #[.val (.ref u), .val (.int (0 : Int32))] []))
  refine GoesW.pre (U' := s₁.setTop (mkF m 1 #[.val (.ref u), .val (.int (0 : Int32))] [(.int (0 : Int32))])) (fun t k => XS.iloadN X0.here hx rfl (hb hby d3_0) rfl k) ?_
  have hc1 : (0 : Int32) = (0 : Int32) := rfl
  refine GoesW.pre (U' := s₁.setTop (mkF m 4 #[.val (.ref u), .val (.int (0 : Int32))] [])) (fun t k => XS.ifNo X0.here hx rfl (hb hby d3_1) rfl ((if0 _ _).trans (teq hc1).2) k) ?_
  obtain ⟨T1, h1, X1, e1, E1, A1, D1, -, st1⟩ := newO X0 hx hZ hown (wq hw 15 rfl) (wq hw 16 rfl) (wq hw 17 rfl) e0 (g := (mkF m 4 #[.val (.ref u), .val (.int (0 : Int32))] [])) rfl (hb hby d3_4) (by decide) (by decide)
  obtain ⟨sr, g1⟩ : ∃ z, z = h0.size := ⟨_, rfl⟩
  rw [← g1] at A1 D1 st1
  have ne_u_sr : u ≠ sr := Nat.ne_of_lt (Nat.lt_of_lt_of_le V_u.lt (Nat.le_of_eq g1.symm))
  have ne_sr_u := ne_u_sr.symm
  have g_sr : n0 ≤ sr := Nat.le_trans Z0 (Nat.le_of_eq g1.symm)
  have sz_sr : h0.size ≤ sr := Nat.le_trans K0.1 (Nat.le_of_eq g1.symm)
  have V_u := V_u.ext E1
  have SF_sr := Safe.ext E1 H (Safe.new (x := sr) (Nat.le_of_eq g1.symm))
  have CR := CR.trans (CHr.ext E1 H)
  have H := H.ext E1
  have hk := Nat.le_trans hk E1.1
  have Z1 : n0 ≤ h1.size := Nat.le_trans Z0 E1.1
  have K1 := K0.ext E1
  have E_sr := A1
  have F_value_sr : Fld Z h1 sr "java/lang/String" "value" "[B" .null := D1 (Or.inr (wq hw 30 rfl)) (ty := (.array .byte)) (by decide)
  have F_coder_sr : Fld Z h1 sr "java/lang/String" "coder" "B" (.int (0 : Int32)) := D1 (Or.inr (wq hw 31 rfl)) (ty := .byte) (by decide)
  refine GoesW.pre (U' := T1.setTop (mkF m 9 #[.val (.ref u), .val (.int (0 : Int32))] [(.int (0 : Int32)), (.ref sr), (.ref sr)])) (fun t k => st1 t (XS.dup X1.here hx rfl (hb hby d3_7) rfl rfl (XS.iconst X1.here hx rfl (hb hby d3_8) k))) ?_
  obtain ⟨T2, h2, k2, X2, e2, E2, A2, B2, st2⟩ := newPE X1 hx hZ (wq hw 11 rfl) e1 (g := (mkF m 9 #[.val (.ref u), .val (.int (0 : Int32))] [(.int (0 : Int32)), (.ref sr), (.ref sr)])) rfl (hb hby d3_9) rfl (by decide) (cap := 0) (by decide) (by decide) (by decide) (by decide) (ad := "[C") (by decide)
  obtain ⟨sd, g2⟩ : ∃ z, z = h1.size := ⟨_, rfl⟩
  rw [← g2] at A2 B2 st2
  have ne_sr_sd : sr ≠ sd := Nat.ne_of_lt (Nat.lt_of_lt_of_le E_sr.lt (Nat.le_of_eq g2.symm))
  have ne_sd_sr := ne_sr_sd.symm
  have ne_u_sd : u ≠ sd := Nat.ne_of_lt (Nat.lt_of_lt_of_le V_u.lt (Nat.le_of_eq g2.symm))
  have ne_sd_u := ne_u_sd.symm
  have g_sd : n0 ≤ sd := Nat.le_trans Z1 (Nat.le_of_eq g2.symm)
  have sz_sd : h0.size ≤ sd := Nat.le_trans K1.1 (Nat.le_of_eq g2.symm)
  have V_u := V_u.ext E2
  have E_sr := E_sr.ext E2
  have F_value_sr := F_value_sr.ext E2
  have F_coder_sr := F_coder_sr.ext E2
  have SF_sr := Safe.ext E2 H SF_sr
  have SF_sd := Safe.ext E2 H (Safe.new (x := sd) (Nat.le_of_eq g2.symm))
  have CR := CR.trans (CHr.ext E2 H)
  have H := H.ext E2
  have hk := Nat.le_trans hk E2.1
  have Z2 : n0 ≤ h2.size := Nat.le_trans Z1 E2.1
  have K2 := K1.ext E2
  have E_sd := B2
  have V_sd : Arv Z h2 sd k2 .char (0 : Int32) [] (.int (0 : Int32)) := (Arv.new A2 (by decide)).pad (pad_rep [] (.int (0 : Int32)) 0)
  refine GoesW.pre (U' := T2.setTop (mkF m 11 #[.val (.ref u), .val (.int (0 : Int32))] [(.ref sd), (.ref sr), (.ref sr)])) (fun t k => st2 t k) ?_
  obtain ⟨_, _, ⟨T3, L3, k3, n3⟩, -, X3, hS3, hge3, ⟨Lc3, hQ3, l3, y3, z3, CQ3⟩, st3⟩ := X2.specialBackS hx (y := (⟨"java/lang/String", "<init>", "([C)V"⟩ : MethodName)) rfl hown (mvT hZ (wq hw 18 rfl)) (mvT hZ (wq hw 19 rfl)) (mvT hZ (wq hw 20 rfl)) (by decide) (own_backSH (s := s) (W := 1) (rm_init1_0 l Z a0 hw hEL [] sr sd k2 h2 n0 Z2 E_sr F_value_sr F_coder_sr V_sd ne_sd_sr g_sr) hZ (wq hw 20 rfl) (wq hw 17 rfl) (by decide) (by decide) hEL H (allS (P := fun x => Safe Z own_EL s.vm h2 x ∧ x < h2.size) ⟨SF_sr, E_sr.lt⟩ all0)) (g := (mkF m 11 #[.val (.ref u), .val (.int (0 : Int32))] [(.ref sd), (.ref sr), (.ref sr)])) rfl (by rw [hml]; rfl) (Steps.refl _) (a := sr) (argsL := [(.ref sd)]) (rest := [(.ref sr)]) (lenOf pd__28_5bC_29V rfl) rfl (by show 2 * 0 + _ ≤ _; exact Nat.le_of_eq rfl) (hb hby d3_11) (fun _ _ => ⟨rfl, e2, (by decide : 2 + 2 ≤ _), (by decide : 4 + 4 ≤ _)⟩)
  dsimp only [Pt.U, Pt.locs, Pt.cells, Pt.slots] at X3 l3 y3 z3 st3 hQ3 hS3 hge3 CQ3
  subst l3 y3 z3
  obtain ⟨b3, kb3, rfl, N3q, KQ3, fo0_3⟩ := hQ3
  have N3 := Fr.app N0 N3q
  have SF_sr := CQ3.safe E_sr.lt SF_sr
  have SF_sd := CQ3.safe E_sd.lt SF_sd
  have hS := foldS (T := T2) hS (by rw [e2]; exact hk) hS3 hge3
  have hZ : Z.Warmed39 (s.setVm T3.vm).vm := State.Warmed39.trans (t := s.setVm s.vm) hZ hS3.1
  have hown := own_found hS3 hown
  have H := CQ3.1
  have CR := CR.trans CQ3
  have hk := Nat.le_refl T3.heap.size
  have V_u := V_u.keep KQ3 (ninS ne_u_sr nin0)
  have E_sr := E_sr.keep KQ3
  have E_sd := E_sd.keep KQ3
  have V_sd := V_sd.keep KQ3 (ninS ne_sd_sr nin0)
  have Z4 : n0 ≤ T3.heap.size := Nat.le_trans Z2 KQ3.1
  have K4 := K2.trans KQ3 (allS (P := fun x => x ∈ [] ∨ h0.size ≤ x) (Or.inr sz_sr) all0)
  have S_sr := fo0_3
  refine GoesW.pre (U' := T3.setTop (mkF m 14 #[.val (.ref u), .val (.int (0 : Int32))] [(.ref sr)])) (fun t k => st3.trans k) ?_
  refine GoesW.ret X3 hZ hEL hS hk H CR (v := (some (.ref sr))) (fun h => by rw [hret] at h; cases h) hlk (by decide) (by decide) rfl (fun fs hr => retOut X3 hx hret rfl (Or.inr (Or.inr (Or.inr (Or.inr ⟨rfl, rfl, rfl⟩)))) (hb hby d3_14) hr) ?_
  exact ⟨sr, b3, kb3, rfl, N3, K4, S_sr⟩
theorem ef_rm_take1 (m : MethodId) (x0 : Addr) (x1 : Int32) : entryFrame m #[(.ref x0), (.int x1)] 2 = mkF m 0 #[.val (.ref x0), .val (.int x1)] [] := by first | (simp [entryFrame, mkF, argsToLocals, Value.category]; done) | rfl
theorem d3_15 : decode method_7_code 15 = .ok (.iload_n 1, 1) := by decide +kernel
theorem d3_16 : decode method_7_code 16 = .ok (.iconst 1, 1) := by decide +kernel
theorem d3_17 : decode method_7_code 17 = .ok (.if_icmp .ne 20, 3) := by decide +kernel
theorem d3_20 : decode method_7_code 20 = .ok (.new 42, 3) := by decide +kernel
theorem d3_23 : decode method_7_code 23 = .ok (.dup, 1) := by decide +kernel
theorem d3_24 : decode method_7_code 24 = .ok (.iconst 1, 1) := by decide +kernel
theorem d3_25 : decode method_7_code 25 = .ok (.newarray .char, 2) := by decide +kernel
theorem d3_27 : decode method_7_code 27 = .ok (.dup, 1) := by decide +kernel
theorem d3_28 : decode method_7_code 28 = .ok (.iconst 0, 1) := by decide +kernel
theorem d3_29 : decode method_7_code 29 = .ok (.aload_n 0, 1) := by decide +kernel
theorem d3_30 : decode method_7_code 30 = .ok (.iconst 0, 1) := by decide +kernel
theorem d3_31 : decode method_7_code 31 = .ok (.caload, 1) := by decide +kernel
theorem d3_32 : decode method_7_code 32 = .ok (.castore, 1) := by decide +kernel
theorem d3_33 : decode method_7_code 33 = .ok (.invokespecial 44, 3) := by decide +kernel
theorem d3_36 : decode method_7_code 36 = .ok (.areturn, 1) := by decide +kernel
def Q_rm_take1 (Z : State) (u : Addr) (ku : ClassId) (c0 : Int32) (c1 : Int32) (c2 : Int32) (c3 : Int32) (cs : Int32) (h0 : Heap) (n0 : Nat) (v : Option Value) (h : Heap) (L : List Loc) : Prop := ∃ (r : Addr) (b : Addr) (kb : ClassId), v = some (.ref r) ∧ Fr n0 L ∧ Keep h0 h [] ∧ OwnStr Z h r b kb [c0]
set_option maxRecDepth 65536 in
set_option maxHeartbeats 40000000 in
theorem rm_take1 (l : Launch) (Z : State) (a0 : Array Value) (hw : ∀ d ∈ tables_1, d.before a0 Z = true) (ws : List Jvm.Cond) (u : Addr) (ku : ClassId) (c0 : Int32) (c1 : Int32) (c2 : Int32) (c3 : Int32) (cs : Int32) (h0 : Heap) (n0 : Nat) (Z0 : n0 ≤ h0.size) (V_u : Arv Z h0 u ku .char (4 : Int32) [(.int c0), (.int c1), (.int c2), (.int c3)] (.int (0 : Int32))) (S_COMPACT_STRINGS : Sta Z Z.heap "java/lang/String" "COMPACT_STRINGS" "Z" (.int cs)) (S__assertionsDisabled : Sta Z Z.heap "java/lang/StringUTF16" "$assertionsDisabled" "Z" (.int (1 : Int32))) (S_HI_BYTE_SHIFT : Sta Z Z.heap "java/lang/StringUTF16" "HI_BYTE_SHIFT" "I" (.int (0 : Int32))) (S_LO_BYTE_SHIFT : Sta Z Z.heap "java/lang/StringUTF16" "LO_BYTE_SHIFT" "I" (.int (8 : Int32))) (hch0 : OwnCh c0) (hcs : ¬ (cs = (0 : Int32))) (O : Old Z n0 h0) :
    Met l Z M3 method_7_code 2 (some (.object "java/lang/String")) ws (Rm 6 4 17 88) #[(.ref u), (.int (1 : Int32))] h0 (Q_rm_take1 Z u ku c0 c1 c2 c3 cs h0 n0) := by
  refine met_of (plainFor_of_name pn_com_example_bnodiff_bnodiff_model_CodePointOrderComparePinLaw) (own := "com/example/bnodiff/bnodiff/model/CodePointOrderComparePinLaw") rfl (fun m => ef_rm_take1 m u (1 : Int32)) ?_
  intro p e s m below meth c s₁ hx hby hml hown hnm hZ X0 e0 hret hlk
  have N0 := Fr.nil n0
  have K0 := Keep.refl h0 []
  show Goes p e below s _ _ _ (s₁.setTop (mkF m 0 #[.val (.ref u), .val (.int (1 : Int32))] []))
  refine Goes.pre (U' := s₁.setTop (mkF m 1 #[.val (.ref u), .val (.int (1 : Int32))] [(.int (1 : Int32))])) (fun t k => XS.iloadN X0.here hx rfl (hb hby d3_0) rfl k) ?_
  have hc1 : ¬ ((1 : Int32) = (0 : Int32)) := by decide
  refine Goes.pre (U' := s₁.setTop (mkF m 17 #[.val (.ref u), .val (.int (1 : Int32))] [(.int (1 : Int32)), (.int (1 : Int32))])) (fun t k => XS.ifYes X0.here hx rfl (pc0 := 1) (pc' := 15) rfl (hb hby d3_1) rfl ((if0 _ _).trans (feq hc1).2) (by decide) (by decide) (XS.iloadN X0.here hx rfl (hb hby d3_15) rfl (XS.iconst X0.here hx rfl (hb hby d3_16) k))) ?_
  have hc17 : (1 : Int32) = (1 : Int32) := rfl
  refine Goes.pre (U' := s₁.setTop (mkF m 20 #[.val (.ref u), .val (.int (1 : Int32))] [])) (fun t k => XS.icmpNo X0.here hx rfl (hb hby d3_17) rfl (teq hc17).2 k) ?_
  obtain ⟨T1, h1, X1, e1, E1, A1, D1, -, st1⟩ := newO X0 hx hZ hown (wq hw 15 rfl) (wq hw 16 rfl) (wq hw 17 rfl) e0 (g := (mkF m 20 #[.val (.ref u), .val (.int (1 : Int32))] [])) rfl (hb hby d3_20) (by decide) (by decide)
  obtain ⟨sr, g1⟩ : ∃ z, z = h0.size := ⟨_, rfl⟩
  rw [← g1] at A1 D1 st1
  have ne_u_sr : u ≠ sr := Nat.ne_of_lt (Nat.lt_of_lt_of_le V_u.lt (Nat.le_of_eq g1.symm))
  have ne_sr_u := ne_u_sr.symm
  have g_sr : n0 ≤ sr := Nat.le_trans Z0 (Nat.le_of_eq g1.symm)
  have sz_sr : h0.size ≤ sr := Nat.le_trans K0.1 (Nat.le_of_eq g1.symm)
  have V_u := V_u.ext E1
  have O := O.ext E1
  have Z1 : n0 ≤ h1.size := Nat.le_trans Z0 E1.1
  have K1 := K0.ext E1
  have E_sr := A1
  have F_value_sr : Fld Z h1 sr "java/lang/String" "value" "[B" .null := D1 (Or.inr (wq hw 30 rfl)) (ty := (.array .byte)) (by decide)
  have F_coder_sr : Fld Z h1 sr "java/lang/String" "coder" "B" (.int (0 : Int32)) := D1 (Or.inr (wq hw 31 rfl)) (ty := .byte) (by decide)
  refine Goes.pre (U' := T1.setTop (mkF m 25 #[.val (.ref u), .val (.int (1 : Int32))] [(.int (1 : Int32)), (.ref sr), (.ref sr)])) (fun t k => st1 t (XS.dup X1.here hx rfl (hb hby d3_23) rfl rfl (XS.iconst X1.here hx rfl (hb hby d3_24) k))) ?_
  obtain ⟨T2, h2, k2, X2, e2, E2, A2, B2, st2⟩ := newPE X1 hx hZ (wq hw 11 rfl) e1 (g := (mkF m 25 #[.val (.ref u), .val (.int (1 : Int32))] [(.int (1 : Int32)), (.ref sr), (.ref sr)])) rfl (hb hby d3_25) rfl (by decide) (cap := 1) (by decide) (by decide) (by decide) (by decide) (ad := "[C") (by decide)
  obtain ⟨sd, g2⟩ : ∃ z, z = h1.size := ⟨_, rfl⟩
  rw [← g2] at A2 B2 st2
  have ne_sr_sd : sr ≠ sd := Nat.ne_of_lt (Nat.lt_of_lt_of_le E_sr.lt (Nat.le_of_eq g2.symm))
  have ne_sd_sr := ne_sr_sd.symm
  have ne_u_sd : u ≠ sd := Nat.ne_of_lt (Nat.lt_of_lt_of_le V_u.lt (Nat.le_of_eq g2.symm))
  have ne_sd_u := ne_u_sd.symm
  have g_sd : n0 ≤ sd := Nat.le_trans Z1 (Nat.le_of_eq g2.symm)
  have sz_sd : h0.size ≤ sd := Nat.le_trans K1.1 (Nat.le_of_eq g2.symm)
  have V_u := V_u.ext E2
  have E_sr := E_sr.ext E2
  have F_value_sr := F_value_sr.ext E2
  have F_coder_sr := F_coder_sr.ext E2
  have O := O.ext E2
  have Z2 : n0 ≤ h2.size := Nat.le_trans Z1 E2.1
  have K2 := K1.ext E2
  have E_sd := B2
  have V_sd : Arv Z h2 sd k2 .char (1 : Int32) [(.int (0 : Int32))] (.int (0 : Int32)) := (Arv.new A2 (by decide)).pad (pad_rep [] (.int (0 : Int32)) 1)
  refine Goes.pre (U' := T2.setTop (mkF m 31 #[.val (.ref u), .val (.int (1 : Int32))] [(.int (0 : Int32)), (.ref u), (.int (0 : Int32)), (.ref sd), (.ref sd), (.ref sr), (.ref sr)])) (fun t k => st2 t (XS.dup X2.here hx rfl (hb hby d3_27) rfl rfl (XS.iconst X2.here hx rfl (hb hby d3_28) (XS.aloadN X2.here hx rfl (hb hby d3_29) rfl rfl (XS.iconst X2.here hx rfl (hb hby d3_30) k))))) ?_
  obtain ⟨cl3, Ar3, q3, Sz3, Ng3, Hs3, Ft3⟩ := id V_u
  have hin3 := inb_of (j := (0 : Int32)) Sz3 ⟨by decide, by decide⟩
  refine Goes.pre (U' := T2.setTop (mkF m 32 #[.val (.ref u), .val (.int (1 : Int32))] [(.int c0), (.int (0 : Int32)), (.ref sd), (.ref sd), (.ref sr), (.ref sr)])) (fun t k => X2.caload hx (j := (0 : Int32)) (v := (.int c0)) (by rw [e2]; exact Ar3.1) (State.isArrayOf_alike hZ.alike Ar3.2.1) Ar3.2.2 hin3 (Has.at Hs3 hin3 rfl) (g := (mkF m 31 #[.val (.ref u), .val (.int (1 : Int32))] [(.int (0 : Int32)), (.ref u), (.int (0 : Int32)), (.ref sd), (.ref sd), (.ref sr), (.ref sr)])) rfl rfl (hb hby d3_31) _ k) ?_
  obtain ⟨cl4, Ar4, q4, Sz4, Ng4, Hs4, Ft4⟩ := id V_sd
  obtain ⟨T4, h4, X4, e4, W4, st4⟩ := stC X2 hx hZ e2 Ar4 (j := (0 : Int32)) (inb_of Sz4 ⟨by decide, by decide⟩) (g := (mkF m 32 #[.val (.ref u), .val (.int (1 : Int32))] [(.int c0), (.int (0 : Int32)), (.ref sd), (.ref sd), (.ref sr), (.ref sr)])) rfl rfl (hb hby d3_32)
  have nr4 : nar .char c0 = c0 := own_nch _ (hch0)
  have ft4 : fits .char (.int c0) = true := nr4 ▸ (fits_nar_char c0 : fits .char (.int (nar .char c0)) = true)
  rw [nr4] at W4
  have V_u := V_u.other W4 ne_u_sd
  have E_sr := E_sr.wr W4
  have F_value_sr := F_value_sr.other W4 (Or.inl ne_sr_sd)
  have F_coder_sr := F_coder_sr.other W4 (Or.inl ne_sr_sd)
  have E_sd := E_sd.wr W4
  have Z4 : n0 ≤ h4.size := Nat.le_trans Z2 (Keep.of_wr W4).1
  have O := O.wr W4 g_sd
  have V_sd : Arv Z h4 sd k2 .char (1 : Int32) [(.int c0)] (.int (0 : Int32)) := Arv.set Ar4 q4 Sz4 Ng4 Hs4 Ft4 ft4 W4 0 rfl (Nat.le_of_ble_eq_true rfl)
  have K4 := K2.wr W4 (Or.inr sz_sd)
  have N4 := Fr.snoc X4 N0 g_sd
  refine Goes.pre (U' := T4.setTop (mkF m 33 #[.val (.ref u), .val (.int (1 : Int32))] [(.ref sd), (.ref sr), (.ref sr)])) (fun t k => st4 t k) ?_
  have lt_sd := E_sd.lt
  have lt_sr := E_sr.lt
  have lt_u := V_u.lt
  obtain ⟨_, _, ⟨T5, L5, k5, n5⟩, -, X5, ⟨Lc5, hQ5, l5, y5, z5⟩, st5⟩ := X4.specialBack hx (y := (⟨"java/lang/String", "<init>", "([C)V"⟩ : MethodName)) rfl hown (mvT hZ (wq hw 18 rfl)) (mvT hZ (wq hw 19 rfl)) (mvT hZ (wq hw 20 rfl)) (by decide) (backOf (W := 1) (rm_init1G l Z a0 hw [] sr sd k2 [c0] cs h4 n0 Z4 E_sr F_value_sr F_coder_sr V_sd S_COMPACT_STRINGS S__assertionsDisabled S_HI_BYTE_SHIFT S_LO_BYTE_SHIFT (Nat.le_of_ble_eq_true rfl) (own_cA (hch0) own_cN) (by simp) hcs ne_sd_sr g_sr O) hZ (wq hw 20 rfl) (wq hw 17 rfl) (by decide) (by decide)) (g := (mkF m 33 #[.val (.ref u), .val (.int (1 : Int32))] [(.ref sd), (.ref sr), (.ref sr)])) rfl (by rw [hml]; rfl) (Steps.refl _) (a := sr) (argsL := [(.ref sd)]) (rest := [(.ref sr)]) (lenOf pd__28_5bC_29V rfl) rfl (by show 2 * 0 + _ ≤ _; exact Nat.le_of_eq rfl) (hb hby d3_33) (fun _ _ => ⟨rfl, e4, (by decide : 2 + 2 ≤ _), (by decide : 5 + 12 ≤ _)⟩)
  dsimp only [Pt.U, Pt.locs, Pt.cells, Pt.slots] at X5 l5 y5 z5 st5 hQ5
  subst l5 y5 z5
  obtain ⟨b5, kb5, rfl, N5q, KQ5, fo0_5, g_b5, sl_b5⟩ := hQ5
  have N5 := Fr.app N4 N5q
  have V_u := V_u.keep KQ5 (ninS ne_u_sr nin0)
  have E_sr := E_sr.keep KQ5
  have E_sd := E_sd.keep KQ5
  have V_sd := V_sd.keep KQ5 (ninS ne_sd_sr nin0)
  have Z6 : n0 ≤ T5.heap.size := Nat.le_trans Z4 KQ5.1
  have O := O.keep KQ5 (allS (P := fun x => n0 ≤ x) g_sr all0)
  have K6 := K4.trans KQ5 (allS (P := fun x => x ∈ [] ∨ h0.size ≤ x) (Or.inr sz_sr) all0)
  have ne_sd_b5 : sd ≠ b5 := Nat.ne_of_lt (Nat.lt_of_lt_of_le lt_sd sl_b5)
  have ne_b5_sd := ne_sd_b5.symm
  have ne_sr_b5 : sr ≠ b5 := Nat.ne_of_lt (Nat.lt_of_lt_of_le lt_sr sl_b5)
  have ne_b5_sr := ne_sr_b5.symm
  have ne_u_b5 : u ≠ b5 := Nat.ne_of_lt (Nat.lt_of_lt_of_le lt_u sl_b5)
  have ne_b5_u := ne_u_b5.symm
  have sz_b5 : h0.size ≤ b5 := Nat.le_trans K4.1 sl_b5
  have S_sr := fo0_5
  refine Goes.pre (U' := T5.setTop (mkF m 36 #[.val (.ref u), .val (.int (1 : Int32))] [(.ref sr)])) (fun t k => st5.trans k) ?_
  refine Goes.ret X5 (v := (some (.ref sr))) (fun h => by rw [hret] at h; cases h) hlk (by decide) (by decide) rfl (fun fs hr => retOut X5 hx hret rfl (Or.inr (Or.inr (Or.inr (Or.inr ⟨rfl, rfl, rfl⟩)))) (hb hby d3_36) hr) ?_
  exact ⟨sr, b5, kb5, rfl, N5, K6, S_sr⟩
theorem ef_rm_take2 (m : MethodId) (x0 : Addr) (x1 : Int32) : entryFrame m #[(.ref x0), (.int x1)] 2 = mkF m 0 #[.val (.ref x0), .val (.int x1)] [] := by first | (simp [entryFrame, mkF, argsToLocals, Value.category]; done) | rfl
theorem d3_37 : decode method_7_code 37 = .ok (.iload_n 1, 1) := by decide +kernel
theorem d3_38 : decode method_7_code 38 = .ok (.iconst 2, 1) := by decide +kernel
theorem d3_39 : decode method_7_code 39 = .ok (.if_icmp .ne 26, 3) := by decide +kernel
theorem d3_42 : decode method_7_code 42 = .ok (.new 42, 3) := by decide +kernel
theorem d3_45 : decode method_7_code 45 = .ok (.dup, 1) := by decide +kernel
theorem d3_46 : decode method_7_code 46 = .ok (.iconst 2, 1) := by decide +kernel
theorem d3_47 : decode method_7_code 47 = .ok (.newarray .char, 2) := by decide +kernel
theorem d3_49 : decode method_7_code 49 = .ok (.dup, 1) := by decide +kernel
theorem d3_50 : decode method_7_code 50 = .ok (.iconst 0, 1) := by decide +kernel
theorem d3_51 : decode method_7_code 51 = .ok (.aload_n 0, 1) := by decide +kernel
theorem d3_52 : decode method_7_code 52 = .ok (.iconst 0, 1) := by decide +kernel
theorem d3_53 : decode method_7_code 53 = .ok (.caload, 1) := by decide +kernel
theorem d3_54 : decode method_7_code 54 = .ok (.castore, 1) := by decide +kernel
theorem d3_55 : decode method_7_code 55 = .ok (.dup, 1) := by decide +kernel
theorem d3_56 : decode method_7_code 56 = .ok (.iconst 1, 1) := by decide +kernel
theorem d3_57 : decode method_7_code 57 = .ok (.aload_n 0, 1) := by decide +kernel
theorem d3_58 : decode method_7_code 58 = .ok (.iconst 1, 1) := by decide +kernel
theorem d3_59 : decode method_7_code 59 = .ok (.caload, 1) := by decide +kernel
theorem d3_60 : decode method_7_code 60 = .ok (.castore, 1) := by decide +kernel
theorem d3_61 : decode method_7_code 61 = .ok (.invokespecial 44, 3) := by decide +kernel
theorem d3_64 : decode method_7_code 64 = .ok (.areturn, 1) := by decide +kernel
def Q_rm_take2 (Z : State) (u : Addr) (ku : ClassId) (c0 : Int32) (c1 : Int32) (c2 : Int32) (c3 : Int32) (cs : Int32) (h0 : Heap) (n0 : Nat) (v : Option Value) (h : Heap) (L : List Loc) : Prop := ∃ (r : Addr) (b : Addr) (kb : ClassId), v = some (.ref r) ∧ Fr n0 L ∧ Keep h0 h [] ∧ OwnStr Z h r b kb [c0, c1]
set_option maxRecDepth 65536 in
set_option maxHeartbeats 40000000 in
theorem rm_take2 (l : Launch) (Z : State) (a0 : Array Value) (hw : ∀ d ∈ tables_1, d.before a0 Z = true) (ws : List Jvm.Cond) (u : Addr) (ku : ClassId) (c0 : Int32) (c1 : Int32) (c2 : Int32) (c3 : Int32) (cs : Int32) (h0 : Heap) (n0 : Nat) (Z0 : n0 ≤ h0.size) (V_u : Arv Z h0 u ku .char (4 : Int32) [(.int c0), (.int c1), (.int c2), (.int c3)] (.int (0 : Int32))) (S_COMPACT_STRINGS : Sta Z Z.heap "java/lang/String" "COMPACT_STRINGS" "Z" (.int cs)) (S__assertionsDisabled : Sta Z Z.heap "java/lang/StringUTF16" "$assertionsDisabled" "Z" (.int (1 : Int32))) (S_HI_BYTE_SHIFT : Sta Z Z.heap "java/lang/StringUTF16" "HI_BYTE_SHIFT" "I" (.int (0 : Int32))) (S_LO_BYTE_SHIFT : Sta Z Z.heap "java/lang/StringUTF16" "LO_BYTE_SHIFT" "I" (.int (8 : Int32))) (hch0 : OwnCh c0) (hch1 : OwnCh c1) (hcs : ¬ (cs = (0 : Int32))) (O : Old Z n0 h0) :
    Met l Z M3 method_7_code 2 (some (.object "java/lang/String")) ws (Rm 6 4 18 88) #[(.ref u), (.int (2 : Int32))] h0 (Q_rm_take2 Z u ku c0 c1 c2 c3 cs h0 n0) := by
  refine met_of (plainFor_of_name pn_com_example_bnodiff_bnodiff_model_CodePointOrderComparePinLaw) (own := "com/example/bnodiff/bnodiff/model/CodePointOrderComparePinLaw") rfl (fun m => ef_rm_take2 m u (2 : Int32)) ?_
  intro p e s m below meth c s₁ hx hby hml hown hnm hZ X0 e0 hret hlk
  have N0 := Fr.nil n0
  have K0 := Keep.refl h0 []
  show Goes p e below s _ _ _ (s₁.setTop (mkF m 0 #[.val (.ref u), .val (.int (2 : Int32))] []))
  refine Goes.pre (U' := s₁.setTop (mkF m 1 #[.val (.ref u), .val (.int (2 : Int32))] [(.int (2 : Int32))])) (fun t k => XS.iloadN X0.here hx rfl (hb hby d3_0) rfl k) ?_
  have hc1 : ¬ ((2 : Int32) = (0 : Int32)) := by decide
  refine Goes.pre (U' := s₁.setTop (mkF m 17 #[.val (.ref u), .val (.int (2 : Int32))] [(.int (1 : Int32)), (.int (2 : Int32))])) (fun t k => XS.ifYes X0.here hx rfl (pc0 := 1) (pc' := 15) rfl (hb hby d3_1) rfl ((if0 _ _).trans (feq hc1).2) (by decide) (by decide) (XS.iloadN X0.here hx rfl (hb hby d3_15) rfl (XS.iconst X0.here hx rfl (hb hby d3_16) k))) ?_
  have hc17 : ¬ ((2 : Int32) = (1 : Int32)) := by decide
  refine Goes.pre (U' := s₁.setTop (mkF m 39 #[.val (.ref u), .val (.int (2 : Int32))] [(.int (2 : Int32)), (.int (2 : Int32))])) (fun t k => XS.icmpYes X0.here hx rfl (pc0 := 17) (pc' := 37) rfl (hb hby d3_17) rfl (feq hc17).2 (by decide) (by decide) (XS.iloadN X0.here hx rfl (hb hby d3_37) rfl (XS.iconst X0.here hx rfl (hb hby d3_38) k))) ?_
  have hc39 : (2 : Int32) = (2 : Int32) := rfl
  refine Goes.pre (U' := s₁.setTop (mkF m 42 #[.val (.ref u), .val (.int (2 : Int32))] [])) (fun t k => XS.icmpNo X0.here hx rfl (hb hby d3_39) rfl (teq hc39).2 k) ?_
  obtain ⟨T1, h1, X1, e1, E1, A1, D1, -, st1⟩ := newO X0 hx hZ hown (wq hw 15 rfl) (wq hw 16 rfl) (wq hw 17 rfl) e0 (g := (mkF m 42 #[.val (.ref u), .val (.int (2 : Int32))] [])) rfl (hb hby d3_42) (by decide) (by decide)
  obtain ⟨sr, g1⟩ : ∃ z, z = h0.size := ⟨_, rfl⟩
  rw [← g1] at A1 D1 st1
  have ne_u_sr : u ≠ sr := Nat.ne_of_lt (Nat.lt_of_lt_of_le V_u.lt (Nat.le_of_eq g1.symm))
  have ne_sr_u := ne_u_sr.symm
  have g_sr : n0 ≤ sr := Nat.le_trans Z0 (Nat.le_of_eq g1.symm)
  have sz_sr : h0.size ≤ sr := Nat.le_trans K0.1 (Nat.le_of_eq g1.symm)
  have V_u := V_u.ext E1
  have O := O.ext E1
  have Z1 : n0 ≤ h1.size := Nat.le_trans Z0 E1.1
  have K1 := K0.ext E1
  have E_sr := A1
  have F_value_sr : Fld Z h1 sr "java/lang/String" "value" "[B" .null := D1 (Or.inr (wq hw 30 rfl)) (ty := (.array .byte)) (by decide)
  have F_coder_sr : Fld Z h1 sr "java/lang/String" "coder" "B" (.int (0 : Int32)) := D1 (Or.inr (wq hw 31 rfl)) (ty := .byte) (by decide)
  refine Goes.pre (U' := T1.setTop (mkF m 47 #[.val (.ref u), .val (.int (2 : Int32))] [(.int (2 : Int32)), (.ref sr), (.ref sr)])) (fun t k => st1 t (XS.dup X1.here hx rfl (hb hby d3_45) rfl rfl (XS.iconst X1.here hx rfl (hb hby d3_46) k))) ?_
  obtain ⟨T2, h2, k2, X2, e2, E2, A2, B2, st2⟩ := newPE X1 hx hZ (wq hw 11 rfl) e1 (g := (mkF m 47 #[.val (.ref u), .val (.int (2 : Int32))] [(.int (2 : Int32)), (.ref sr), (.ref sr)])) rfl (hb hby d3_47) rfl (by decide) (cap := 2) (by decide) (by decide) (by decide) (by decide) (ad := "[C") (by decide)
  obtain ⟨sd, g2⟩ : ∃ z, z = h1.size := ⟨_, rfl⟩
  rw [← g2] at A2 B2 st2
  have ne_sr_sd : sr ≠ sd := Nat.ne_of_lt (Nat.lt_of_lt_of_le E_sr.lt (Nat.le_of_eq g2.symm))
  have ne_sd_sr := ne_sr_sd.symm
  have ne_u_sd : u ≠ sd := Nat.ne_of_lt (Nat.lt_of_lt_of_le V_u.lt (Nat.le_of_eq g2.symm))
  have ne_sd_u := ne_u_sd.symm
  have g_sd : n0 ≤ sd := Nat.le_trans Z1 (Nat.le_of_eq g2.symm)
  have sz_sd : h0.size ≤ sd := Nat.le_trans K1.1 (Nat.le_of_eq g2.symm)
  have V_u := V_u.ext E2
  have E_sr := E_sr.ext E2
  have F_value_sr := F_value_sr.ext E2
  have F_coder_sr := F_coder_sr.ext E2
  have O := O.ext E2
  have Z2 : n0 ≤ h2.size := Nat.le_trans Z1 E2.1
  have K2 := K1.ext E2
  have E_sd := B2
  have V_sd : Arv Z h2 sd k2 .char (2 : Int32) [(.int (0 : Int32)), (.int (0 : Int32))] (.int (0 : Int32)) := (Arv.new A2 (by decide)).pad (pad_rep [] (.int (0 : Int32)) 2)
  refine Goes.pre (U' := T2.setTop (mkF m 53 #[.val (.ref u), .val (.int (2 : Int32))] [(.int (0 : Int32)), (.ref u), (.int (0 : Int32)), (.ref sd), (.ref sd), (.ref sr), (.ref sr)])) (fun t k => st2 t (XS.dup X2.here hx rfl (hb hby d3_49) rfl rfl (XS.iconst X2.here hx rfl (hb hby d3_50) (XS.aloadN X2.here hx rfl (hb hby d3_51) rfl rfl (XS.iconst X2.here hx rfl (hb hby d3_52) k))))) ?_
  obtain ⟨cl3, Ar3, q3, Sz3, Ng3, Hs3, Ft3⟩ := id V_u
  have hin3 := inb_of (j := (0 : Int32)) Sz3 ⟨by decide, by decide⟩
  refine Goes.pre (U' := T2.setTop (mkF m 54 #[.val (.ref u), .val (.int (2 : Int32))] [(.int c0), (.int (0 : Int32)), (.ref sd), (.ref sd), (.ref sr), (.ref sr)])) (fun t k => X2.caload hx (j := (0 : Int32)) (v := (.int c0)) (by rw [e2]; exact Ar3.1) (State.isArrayOf_alike hZ.alike Ar3.2.1) Ar3.2.2 hin3 (Has.at Hs3 hin3 rfl) (g := (mkF m 53 #[.val (.ref u), .val (.int (2 : Int32))] [(.int (0 : Int32)), (.ref u), (.int (0 : Int32)), (.ref sd), (.ref sd), (.ref sr), (.ref sr)])) rfl rfl (hb hby d3_53) _ k) ?_
  obtain ⟨cl4, Ar4, q4, Sz4, Ng4, Hs4, Ft4⟩ := id V_sd
  obtain ⟨T4, h4, X4, e4, W4, st4⟩ := stC X2 hx hZ e2 Ar4 (j := (0 : Int32)) (inb_of Sz4 ⟨by decide, by decide⟩) (g := (mkF m 54 #[.val (.ref u), .val (.int (2 : Int32))] [(.int c0), (.int (0 : Int32)), (.ref sd), (.ref sd), (.ref sr), (.ref sr)])) rfl rfl (hb hby d3_54)
  have nr4 : nar .char c0 = c0 := own_nch _ (hch0)
  have ft4 : fits .char (.int c0) = true := nr4 ▸ (fits_nar_char c0 : fits .char (.int (nar .char c0)) = true)
  rw [nr4] at W4
  have V_u := V_u.other W4 ne_u_sd
  have E_sr := E_sr.wr W4
  have F_value_sr := F_value_sr.other W4 (Or.inl ne_sr_sd)
  have F_coder_sr := F_coder_sr.other W4 (Or.inl ne_sr_sd)
  have E_sd := E_sd.wr W4
  have Z4 : n0 ≤ h4.size := Nat.le_trans Z2 (Keep.of_wr W4).1
  have O := O.wr W4 g_sd
  have V_sd : Arv Z h4 sd k2 .char (2 : Int32) [(.int c0), (.int (0 : Int32))] (.int (0 : Int32)) := Arv.set Ar4 q4 Sz4 Ng4 Hs4 Ft4 ft4 W4 0 rfl (Nat.le_of_ble_eq_true rfl)
  have K4 := K2.wr W4 (Or.inr sz_sd)
  have N4 := Fr.snoc X4 N0 g_sd
  refine Goes.pre (U' := T4.setTop (mkF m 59 #[.val (.ref u), .val (.int (2 : Int32))] [(.int (1 : Int32)), (.ref u), (.int (1 : Int32)), (.ref sd), (.ref sd), (.ref sr), (.ref sr)])) (fun t k => st4 t (XS.dup X4.here hx rfl (hb hby d3_55) rfl rfl (XS.iconst X4.here hx rfl (hb hby d3_56) (XS.aloadN X4.here hx rfl (hb hby d3_57) rfl rfl (XS.iconst X4.here hx rfl (hb hby d3_58) k))))) ?_
  obtain ⟨cl5, Ar5, q5, Sz5, Ng5, Hs5, Ft5⟩ := id V_u
  have hin5 := inb_of (j := (1 : Int32)) Sz5 ⟨by decide, by decide⟩
  refine Goes.pre (U' := T4.setTop (mkF m 60 #[.val (.ref u), .val (.int (2 : Int32))] [(.int c1), (.int (1 : Int32)), (.ref sd), (.ref sd), (.ref sr), (.ref sr)])) (fun t k => X4.caload hx (j := (1 : Int32)) (v := (.int c1)) (by rw [e4]; exact Ar5.1) (State.isArrayOf_alike hZ.alike Ar5.2.1) Ar5.2.2 hin5 (Has.at Hs5 hin5 rfl) (g := (mkF m 59 #[.val (.ref u), .val (.int (2 : Int32))] [(.int (1 : Int32)), (.ref u), (.int (1 : Int32)), (.ref sd), (.ref sd), (.ref sr), (.ref sr)])) rfl rfl (hb hby d3_59) _ k) ?_
  obtain ⟨cl6, Ar6, q6, Sz6, Ng6, Hs6, Ft6⟩ := id V_sd
  obtain ⟨T6, h6, X6, e6, W6, st6⟩ := stC X4 hx hZ e4 Ar6 (j := (1 : Int32)) (inb_of Sz6 ⟨by decide, by decide⟩) (g := (mkF m 60 #[.val (.ref u), .val (.int (2 : Int32))] [(.int c1), (.int (1 : Int32)), (.ref sd), (.ref sd), (.ref sr), (.ref sr)])) rfl rfl (hb hby d3_60)
  have nr6 : nar .char c1 = c1 := own_nch _ (hch1)
  have ft6 : fits .char (.int c1) = true := nr6 ▸ (fits_nar_char c1 : fits .char (.int (nar .char c1)) = true)
  rw [nr6] at W6
  have V_u := V_u.other W6 ne_u_sd
  have E_sr := E_sr.wr W6
  have F_value_sr := F_value_sr.other W6 (Or.inl ne_sr_sd)
  have F_coder_sr := F_coder_sr.other W6 (Or.inl ne_sr_sd)
  have E_sd := E_sd.wr W6
  have Z6 : n0 ≤ h6.size := Nat.le_trans Z4 (Keep.of_wr W6).1
  have O := O.wr W6 g_sd
  have V_sd : Arv Z h6 sd k2 .char (2 : Int32) [(.int c0), (.int c1)] (.int (0 : Int32)) := Arv.set Ar6 q6 Sz6 Ng6 Hs6 Ft6 ft6 W6 1 rfl (Nat.le_of_ble_eq_true rfl)
  have K6 := K4.wr W6 (Or.inr sz_sd)
  have N6 := Fr.snoc X6 N4 g_sd
  refine Goes.pre (U' := T6.setTop (mkF m 61 #[.val (.ref u), .val (.int (2 : Int32))] [(.ref sd), (.ref sr), (.ref sr)])) (fun t k => st6 t k) ?_
  have lt_sd := E_sd.lt
  have lt_sr := E_sr.lt
  have lt_u := V_u.lt
  obtain ⟨_, _, ⟨T7, L7, k7, n7⟩, -, X7, ⟨Lc7, hQ7, l7, y7, z7⟩, st7⟩ := X6.specialBack hx (y := (⟨"java/lang/String", "<init>", "([C)V"⟩ : MethodName)) rfl hown (mvT hZ (wq hw 18 rfl)) (mvT hZ (wq hw 19 rfl)) (mvT hZ (wq hw 20 rfl)) (by decide) (backOf (W := 1) (rm_init1G l Z a0 hw [] sr sd k2 ([c0, c1]) cs h6 n0 Z6 E_sr F_value_sr F_coder_sr V_sd S_COMPACT_STRINGS S__assertionsDisabled S_HI_BYTE_SHIFT S_LO_BYTE_SHIFT (Nat.le_of_ble_eq_true rfl) (own_cA (hch0) (own_cA (hch1) own_cN)) (by simp) hcs ne_sd_sr g_sr O) hZ (wq hw 20 rfl) (wq hw 17 rfl) (by decide) (by decide)) (g := (mkF m 61 #[.val (.ref u), .val (.int (2 : Int32))] [(.ref sd), (.ref sr), (.ref sr)])) rfl (by rw [hml]; rfl) (Steps.refl _) (a := sr) (argsL := [(.ref sd)]) (rest := [(.ref sr)]) (lenOf pd__28_5bC_29V rfl) rfl (by show 2 * 0 + _ ≤ _; exact Nat.le_of_eq rfl) (hb hby d3_61) (fun _ _ => ⟨rfl, e6, (by decide : 2 + 2 ≤ _), (by decide : 6 + 12 ≤ _)⟩)
  dsimp only [Pt.U, Pt.locs, Pt.cells, Pt.slots] at X7 l7 y7 z7 st7 hQ7
  subst l7 y7 z7
  obtain ⟨b7, kb7, rfl, N7q, KQ7, fo0_7, g_b7, sl_b7⟩ := hQ7
  have N7 := Fr.app N6 N7q
  have V_u := V_u.keep KQ7 (ninS ne_u_sr nin0)
  have E_sr := E_sr.keep KQ7
  have E_sd := E_sd.keep KQ7
  have V_sd := V_sd.keep KQ7 (ninS ne_sd_sr nin0)
  have Z8 : n0 ≤ T7.heap.size := Nat.le_trans Z6 KQ7.1
  have O := O.keep KQ7 (allS (P := fun x => n0 ≤ x) g_sr all0)
  have K8 := K6.trans KQ7 (allS (P := fun x => x ∈ [] ∨ h0.size ≤ x) (Or.inr sz_sr) all0)
  have ne_sd_b7 : sd ≠ b7 := Nat.ne_of_lt (Nat.lt_of_lt_of_le lt_sd sl_b7)
  have ne_b7_sd := ne_sd_b7.symm
  have ne_sr_b7 : sr ≠ b7 := Nat.ne_of_lt (Nat.lt_of_lt_of_le lt_sr sl_b7)
  have ne_b7_sr := ne_sr_b7.symm
  have ne_u_b7 : u ≠ b7 := Nat.ne_of_lt (Nat.lt_of_lt_of_le lt_u sl_b7)
  have ne_b7_u := ne_u_b7.symm
  have sz_b7 : h0.size ≤ b7 := Nat.le_trans K6.1 sl_b7
  have S_sr := fo0_7
  refine Goes.pre (U' := T7.setTop (mkF m 64 #[.val (.ref u), .val (.int (2 : Int32))] [(.ref sr)])) (fun t k => st7.trans k) ?_
  refine Goes.ret X7 (v := (some (.ref sr))) (fun h => by rw [hret] at h; cases h) hlk (by decide) (by decide) rfl (fun fs hr => retOut X7 hx hret rfl (Or.inr (Or.inr (Or.inr (Or.inr ⟨rfl, rfl, rfl⟩)))) (hb hby d3_64) hr) ?_
  exact ⟨sr, b7, kb7, rfl, N7, K8, S_sr⟩
theorem ef_rm_take3 (m : MethodId) (x0 : Addr) (x1 : Int32) : entryFrame m #[(.ref x0), (.int x1)] 2 = mkF m 0 #[.val (.ref x0), .val (.int x1)] [] := by first | (simp [entryFrame, mkF, argsToLocals, Value.category]; done) | rfl
theorem d3_65 : decode method_7_code 65 = .ok (.iload_n 1, 1) := by decide +kernel
theorem d3_66 : decode method_7_code 66 = .ok (.iconst 3, 1) := by decide +kernel
theorem d3_67 : decode method_7_code 67 = .ok (.if_icmp .ne 32, 3) := by decide +kernel
theorem d3_70 : decode method_7_code 70 = .ok (.new 42, 3) := by decide +kernel
theorem d3_73 : decode method_7_code 73 = .ok (.dup, 1) := by decide +kernel
theorem d3_74 : decode method_7_code 74 = .ok (.iconst 3, 1) := by decide +kernel
theorem d3_75 : decode method_7_code 75 = .ok (.newarray .char, 2) := by decide +kernel
theorem d3_77 : decode method_7_code 77 = .ok (.dup, 1) := by decide +kernel
theorem d3_78 : decode method_7_code 78 = .ok (.iconst 0, 1) := by decide +kernel
theorem d3_79 : decode method_7_code 79 = .ok (.aload_n 0, 1) := by decide +kernel
theorem d3_80 : decode method_7_code 80 = .ok (.iconst 0, 1) := by decide +kernel
theorem d3_81 : decode method_7_code 81 = .ok (.caload, 1) := by decide +kernel
theorem d3_82 : decode method_7_code 82 = .ok (.castore, 1) := by decide +kernel
theorem d3_83 : decode method_7_code 83 = .ok (.dup, 1) := by decide +kernel
theorem d3_84 : decode method_7_code 84 = .ok (.iconst 1, 1) := by decide +kernel
theorem d3_85 : decode method_7_code 85 = .ok (.aload_n 0, 1) := by decide +kernel
theorem d3_86 : decode method_7_code 86 = .ok (.iconst 1, 1) := by decide +kernel
theorem d3_87 : decode method_7_code 87 = .ok (.caload, 1) := by decide +kernel
theorem d3_88 : decode method_7_code 88 = .ok (.castore, 1) := by decide +kernel
theorem d3_89 : decode method_7_code 89 = .ok (.dup, 1) := by decide +kernel
theorem d3_90 : decode method_7_code 90 = .ok (.iconst 2, 1) := by decide +kernel
theorem d3_91 : decode method_7_code 91 = .ok (.aload_n 0, 1) := by decide +kernel
theorem d3_92 : decode method_7_code 92 = .ok (.iconst 2, 1) := by decide +kernel
theorem d3_93 : decode method_7_code 93 = .ok (.caload, 1) := by decide +kernel
theorem d3_94 : decode method_7_code 94 = .ok (.castore, 1) := by decide +kernel
theorem d3_95 : decode method_7_code 95 = .ok (.invokespecial 44, 3) := by decide +kernel
theorem d3_98 : decode method_7_code 98 = .ok (.areturn, 1) := by decide +kernel
def Q_rm_take3 (Z : State) (u : Addr) (ku : ClassId) (c0 : Int32) (c1 : Int32) (c2 : Int32) (c3 : Int32) (cs : Int32) (h0 : Heap) (n0 : Nat) (v : Option Value) (h : Heap) (L : List Loc) : Prop := ∃ (r : Addr) (b : Addr) (kb : ClassId), v = some (.ref r) ∧ Fr n0 L ∧ Keep h0 h [] ∧ OwnStr Z h r b kb [c0, c1, c2]
set_option maxRecDepth 65536 in
set_option maxHeartbeats 40000000 in
theorem rm_take3 (l : Launch) (Z : State) (a0 : Array Value) (hw : ∀ d ∈ tables_1, d.before a0 Z = true) (ws : List Jvm.Cond) (u : Addr) (ku : ClassId) (c0 : Int32) (c1 : Int32) (c2 : Int32) (c3 : Int32) (cs : Int32) (h0 : Heap) (n0 : Nat) (Z0 : n0 ≤ h0.size) (V_u : Arv Z h0 u ku .char (4 : Int32) [(.int c0), (.int c1), (.int c2), (.int c3)] (.int (0 : Int32))) (S_COMPACT_STRINGS : Sta Z Z.heap "java/lang/String" "COMPACT_STRINGS" "Z" (.int cs)) (S__assertionsDisabled : Sta Z Z.heap "java/lang/StringUTF16" "$assertionsDisabled" "Z" (.int (1 : Int32))) (S_HI_BYTE_SHIFT : Sta Z Z.heap "java/lang/StringUTF16" "HI_BYTE_SHIFT" "I" (.int (0 : Int32))) (S_LO_BYTE_SHIFT : Sta Z Z.heap "java/lang/StringUTF16" "LO_BYTE_SHIFT" "I" (.int (8 : Int32))) (hch0 : OwnCh c0) (hch1 : OwnCh c1) (hch2 : OwnCh c2) (hcs : ¬ (cs = (0 : Int32))) (O : Old Z n0 h0) :
    Met l Z M3 method_7_code 2 (some (.object "java/lang/String")) ws (Rm 6 4 19 88) #[(.ref u), (.int (3 : Int32))] h0 (Q_rm_take3 Z u ku c0 c1 c2 c3 cs h0 n0) := by
  refine met_of (plainFor_of_name pn_com_example_bnodiff_bnodiff_model_CodePointOrderComparePinLaw) (own := "com/example/bnodiff/bnodiff/model/CodePointOrderComparePinLaw") rfl (fun m => ef_rm_take3 m u (3 : Int32)) ?_
  intro p e s m below meth c s₁ hx hby hml hown hnm hZ X0 e0 hret hlk
  have N0 := Fr.nil n0
  have K0 := Keep.refl h0 []
  show Goes p e below s _ _ _ (s₁.setTop (mkF m 0 #[.val (.ref u), .val (.int (3 : Int32))] []))
  refine Goes.pre (U' := s₁.setTop (mkF m 1 #[.val (.ref u), .val (.int (3 : Int32))] [(.int (3 : Int32))])) (fun t k => XS.iloadN X0.here hx rfl (hb hby d3_0) rfl k) ?_
  have hc1 : ¬ ((3 : Int32) = (0 : Int32)) := by decide
  refine Goes.pre (U' := s₁.setTop (mkF m 17 #[.val (.ref u), .val (.int (3 : Int32))] [(.int (1 : Int32)), (.int (3 : Int32))])) (fun t k => XS.ifYes X0.here hx rfl (pc0 := 1) (pc' := 15) rfl (hb hby d3_1) rfl ((if0 _ _).trans (feq hc1).2) (by decide) (by decide) (XS.iloadN X0.here hx rfl (hb hby d3_15) rfl (XS.iconst X0.here hx rfl (hb hby d3_16) k))) ?_
  have hc17 : ¬ ((3 : Int32) = (1 : Int32)) := by decide
  refine Goes.pre (U' := s₁.setTop (mkF m 39 #[.val (.ref u), .val (.int (3 : Int32))] [(.int (2 : Int32)), (.int (3 : Int32))])) (fun t k => XS.icmpYes X0.here hx rfl (pc0 := 17) (pc' := 37) rfl (hb hby d3_17) rfl (feq hc17).2 (by decide) (by decide) (XS.iloadN X0.here hx rfl (hb hby d3_37) rfl (XS.iconst X0.here hx rfl (hb hby d3_38) k))) ?_
  have hc39 : ¬ ((3 : Int32) = (2 : Int32)) := by decide
  refine Goes.pre (U' := s₁.setTop (mkF m 67 #[.val (.ref u), .val (.int (3 : Int32))] [(.int (3 : Int32)), (.int (3 : Int32))])) (fun t k => XS.icmpYes X0.here hx rfl (pc0 := 39) (pc' := 65) rfl (hb hby d3_39) rfl (feq hc39).2 (by decide) (by decide) (XS.iloadN X0.here hx rfl (hb hby d3_65) rfl (XS.iconst X0.here hx rfl (hb hby d3_66) k))) ?_
  have hc67 : (3 : Int32) = (3 : Int32) := rfl
  refine Goes.pre (U' := s₁.setTop (mkF m 70 #[.val (.ref u), .val (.int (3 : Int32))] [])) (fun t k => XS.icmpNo X0.here hx rfl (hb hby d3_67) rfl (teq hc67).2 k) ?_
  obtain ⟨T1, h1, X1, e1, E1, A1, D1, -, st1⟩ := newO X0 hx hZ hown (wq hw 15 rfl) (wq hw 16 rfl) (wq hw 17 rfl) e0 (g := (mkF m 70 #[.val (.ref u), .val (.int (3 : Int32))] [])) rfl (hb hby d3_70) (by decide) (by decide)
  obtain ⟨sr, g1⟩ : ∃ z, z = h0.size := ⟨_, rfl⟩
  rw [← g1] at A1 D1 st1
  have ne_u_sr : u ≠ sr := Nat.ne_of_lt (Nat.lt_of_lt_of_le V_u.lt (Nat.le_of_eq g1.symm))
  have ne_sr_u := ne_u_sr.symm
  have g_sr : n0 ≤ sr := Nat.le_trans Z0 (Nat.le_of_eq g1.symm)
  have sz_sr : h0.size ≤ sr := Nat.le_trans K0.1 (Nat.le_of_eq g1.symm)
  have V_u := V_u.ext E1
  have O := O.ext E1
  have Z1 : n0 ≤ h1.size := Nat.le_trans Z0 E1.1
  have K1 := K0.ext E1
  have E_sr := A1
  have F_value_sr : Fld Z h1 sr "java/lang/String" "value" "[B" .null := D1 (Or.inr (wq hw 30 rfl)) (ty := (.array .byte)) (by decide)
  have F_coder_sr : Fld Z h1 sr "java/lang/String" "coder" "B" (.int (0 : Int32)) := D1 (Or.inr (wq hw 31 rfl)) (ty := .byte) (by decide)
  refine Goes.pre (U' := T1.setTop (mkF m 75 #[.val (.ref u), .val (.int (3 : Int32))] [(.int (3 : Int32)), (.ref sr), (.ref sr)])) (fun t k => st1 t (XS.dup X1.here hx rfl (hb hby d3_73) rfl rfl (XS.iconst X1.here hx rfl (hb hby d3_74) k))) ?_
  obtain ⟨T2, h2, k2, X2, e2, E2, A2, B2, st2⟩ := newPE X1 hx hZ (wq hw 11 rfl) e1 (g := (mkF m 75 #[.val (.ref u), .val (.int (3 : Int32))] [(.int (3 : Int32)), (.ref sr), (.ref sr)])) rfl (hb hby d3_75) rfl (by decide) (cap := 3) (by decide) (by decide) (by decide) (by decide) (ad := "[C") (by decide)
  obtain ⟨sd, g2⟩ : ∃ z, z = h1.size := ⟨_, rfl⟩
  rw [← g2] at A2 B2 st2
  have ne_sr_sd : sr ≠ sd := Nat.ne_of_lt (Nat.lt_of_lt_of_le E_sr.lt (Nat.le_of_eq g2.symm))
  have ne_sd_sr := ne_sr_sd.symm
  have ne_u_sd : u ≠ sd := Nat.ne_of_lt (Nat.lt_of_lt_of_le V_u.lt (Nat.le_of_eq g2.symm))
  have ne_sd_u := ne_u_sd.symm
  have g_sd : n0 ≤ sd := Nat.le_trans Z1 (Nat.le_of_eq g2.symm)
  have sz_sd : h0.size ≤ sd := Nat.le_trans K1.1 (Nat.le_of_eq g2.symm)
  have V_u := V_u.ext E2
  have E_sr := E_sr.ext E2
  have F_value_sr := F_value_sr.ext E2
  have F_coder_sr := F_coder_sr.ext E2
  have O := O.ext E2
  have Z2 : n0 ≤ h2.size := Nat.le_trans Z1 E2.1
  have K2 := K1.ext E2
  have E_sd := B2
  have V_sd : Arv Z h2 sd k2 .char (3 : Int32) [(.int (0 : Int32)), (.int (0 : Int32)), (.int (0 : Int32))] (.int (0 : Int32)) := (Arv.new A2 (by decide)).pad (pad_rep [] (.int (0 : Int32)) 3)
  refine Goes.pre (U' := T2.setTop (mkF m 81 #[.val (.ref u), .val (.int (3 : Int32))] [(.int (0 : Int32)), (.ref u), (.int (0 : Int32)), (.ref sd), (.ref sd), (.ref sr), (.ref sr)])) (fun t k => st2 t (XS.dup X2.here hx rfl (hb hby d3_77) rfl rfl (XS.iconst X2.here hx rfl (hb hby d3_78) (XS.aloadN X2.here hx rfl (hb hby d3_79) rfl rfl (XS.iconst X2.here hx rfl (hb hby d3_80) k))))) ?_
  obtain ⟨cl3, Ar3, q3, Sz3, Ng3, Hs3, Ft3⟩ := id V_u
  have hin3 := inb_of (j := (0 : Int32)) Sz3 ⟨by decide, by decide⟩
  refine Goes.pre (U' := T2.setTop (mkF m 82 #[.val (.ref u), .val (.int (3 : Int32))] [(.int c0), (.int (0 : Int32)), (.ref sd), (.ref sd), (.ref sr), (.ref sr)])) (fun t k => X2.caload hx (j := (0 : Int32)) (v := (.int c0)) (by rw [e2]; exact Ar3.1) (State.isArrayOf_alike hZ.alike Ar3.2.1) Ar3.2.2 hin3 (Has.at Hs3 hin3 rfl) (g := (mkF m 81 #[.val (.ref u), .val (.int (3 : Int32))] [(.int (0 : Int32)), (.ref u), (.int (0 : Int32)), (.ref sd), (.ref sd), (.ref sr), (.ref sr)])) rfl rfl (hb hby d3_81) _ k) ?_
  obtain ⟨cl4, Ar4, q4, Sz4, Ng4, Hs4, Ft4⟩ := id V_sd
  obtain ⟨T4, h4, X4, e4, W4, st4⟩ := stC X2 hx hZ e2 Ar4 (j := (0 : Int32)) (inb_of Sz4 ⟨by decide, by decide⟩) (g := (mkF m 82 #[.val (.ref u), .val (.int (3 : Int32))] [(.int c0), (.int (0 : Int32)), (.ref sd), (.ref sd), (.ref sr), (.ref sr)])) rfl rfl (hb hby d3_82)
  have nr4 : nar .char c0 = c0 := own_nch _ (hch0)
  have ft4 : fits .char (.int c0) = true := nr4 ▸ (fits_nar_char c0 : fits .char (.int (nar .char c0)) = true)
  rw [nr4] at W4
  have V_u := V_u.other W4 ne_u_sd
  have E_sr := E_sr.wr W4
  have F_value_sr := F_value_sr.other W4 (Or.inl ne_sr_sd)
  have F_coder_sr := F_coder_sr.other W4 (Or.inl ne_sr_sd)
  have E_sd := E_sd.wr W4
  have Z4 : n0 ≤ h4.size := Nat.le_trans Z2 (Keep.of_wr W4).1
  have O := O.wr W4 g_sd
  have V_sd : Arv Z h4 sd k2 .char (3 : Int32) [(.int c0), (.int (0 : Int32)), (.int (0 : Int32))] (.int (0 : Int32)) := Arv.set Ar4 q4 Sz4 Ng4 Hs4 Ft4 ft4 W4 0 rfl (Nat.le_of_ble_eq_true rfl)
  have K4 := K2.wr W4 (Or.inr sz_sd)
  have N4 := Fr.snoc X4 N0 g_sd
  refine Goes.pre (U' := T4.setTop (mkF m 87 #[.val (.ref u), .val (.int (3 : Int32))] [(.int (1 : Int32)), (.ref u), (.int (1 : Int32)), (.ref sd), (.ref sd), (.ref sr), (.ref sr)])) (fun t k => st4 t (XS.dup X4.here hx rfl (hb hby d3_83) rfl rfl (XS.iconst X4.here hx rfl (hb hby d3_84) (XS.aloadN X4.here hx rfl (hb hby d3_85) rfl rfl (XS.iconst X4.here hx rfl (hb hby d3_86) k))))) ?_
  obtain ⟨cl5, Ar5, q5, Sz5, Ng5, Hs5, Ft5⟩ := id V_u
  have hin5 := inb_of (j := (1 : Int32)) Sz5 ⟨by decide, by decide⟩
  refine Goes.pre (U' := T4.setTop (mkF m 88 #[.val (.ref u), .val (.int (3 : Int32))] [(.int c1), (.int (1 : Int32)), (.ref sd), (.ref sd), (.ref sr), (.ref sr)])) (fun t k => X4.caload hx (j := (1 : Int32)) (v := (.int c1)) (by rw [e4]; exact Ar5.1) (State.isArrayOf_alike hZ.alike Ar5.2.1) Ar5.2.2 hin5 (Has.at Hs5 hin5 rfl) (g := (mkF m 87 #[.val (.ref u), .val (.int (3 : Int32))] [(.int (1 : Int32)), (.ref u), (.int (1 : Int32)), (.ref sd), (.ref sd), (.ref sr), (.ref sr)])) rfl rfl (hb hby d3_87) _ k) ?_
  obtain ⟨cl6, Ar6, q6, Sz6, Ng6, Hs6, Ft6⟩ := id V_sd
  obtain ⟨T6, h6, X6, e6, W6, st6⟩ := stC X4 hx hZ e4 Ar6 (j := (1 : Int32)) (inb_of Sz6 ⟨by decide, by decide⟩) (g := (mkF m 88 #[.val (.ref u), .val (.int (3 : Int32))] [(.int c1), (.int (1 : Int32)), (.ref sd), (.ref sd), (.ref sr), (.ref sr)])) rfl rfl (hb hby d3_88)
  have nr6 : nar .char c1 = c1 := own_nch _ (hch1)
  have ft6 : fits .char (.int c1) = true := nr6 ▸ (fits_nar_char c1 : fits .char (.int (nar .char c1)) = true)
  rw [nr6] at W6
  have V_u := V_u.other W6 ne_u_sd
  have E_sr := E_sr.wr W6
  have F_value_sr := F_value_sr.other W6 (Or.inl ne_sr_sd)
  have F_coder_sr := F_coder_sr.other W6 (Or.inl ne_sr_sd)
  have E_sd := E_sd.wr W6
  have Z6 : n0 ≤ h6.size := Nat.le_trans Z4 (Keep.of_wr W6).1
  have O := O.wr W6 g_sd
  have V_sd : Arv Z h6 sd k2 .char (3 : Int32) [(.int c0), (.int c1), (.int (0 : Int32))] (.int (0 : Int32)) := Arv.set Ar6 q6 Sz6 Ng6 Hs6 Ft6 ft6 W6 1 rfl (Nat.le_of_ble_eq_true rfl)
  have K6 := K4.wr W6 (Or.inr sz_sd)
  have N6 := Fr.snoc X6 N4 g_sd
  refine Goes.pre (U' := T6.setTop (mkF m 93 #[.val (.ref u), .val (.int (3 : Int32))] [(.int (2 : Int32)), (.ref u), (.int (2 : Int32)), (.ref sd), (.ref sd), (.ref sr), (.ref sr)])) (fun t k => st6 t (XS.dup X6.here hx rfl (hb hby d3_89) rfl rfl (XS.iconst X6.here hx rfl (hb hby d3_90) (XS.aloadN X6.here hx rfl (hb hby d3_91) rfl rfl (XS.iconst X6.here hx rfl (hb hby d3_92) k))))) ?_
  obtain ⟨cl7, Ar7, q7, Sz7, Ng7, Hs7, Ft7⟩ := id V_u
  have hin7 := inb_of (j := (2 : Int32)) Sz7 ⟨by decide, by decide⟩
  refine Goes.pre (U' := T6.setTop (mkF m 94 #[.val (.ref u), .val (.int (3 : Int32))] [(.int c2), (.int (2 : Int32)), (.ref sd), (.ref sd), (.ref sr), (.ref sr)])) (fun t k => X6.caload hx (j := (2 : Int32)) (v := (.int c2)) (by rw [e6]; exact Ar7.1) (State.isArrayOf_alike hZ.alike Ar7.2.1) Ar7.2.2 hin7 (Has.at Hs7 hin7 rfl) (g := (mkF m 93 #[.val (.ref u), .val (.int (3 : Int32))] [(.int (2 : Int32)), (.ref u), (.int (2 : Int32)), (.ref sd), (.ref sd), (.ref sr), (.ref sr)])) rfl rfl (hb hby d3_93) _ k) ?_
  obtain ⟨cl8, Ar8, q8, Sz8, Ng8, Hs8, Ft8⟩ := id V_sd
  obtain ⟨T8, h8, X8, e8, W8, st8⟩ := stC X6 hx hZ e6 Ar8 (j := (2 : Int32)) (inb_of Sz8 ⟨by decide, by decide⟩) (g := (mkF m 94 #[.val (.ref u), .val (.int (3 : Int32))] [(.int c2), (.int (2 : Int32)), (.ref sd), (.ref sd), (.ref sr), (.ref sr)])) rfl rfl (hb hby d3_94)
  have nr8 : nar .char c2 = c2 := own_nch _ (hch2)
  have ft8 : fits .char (.int c2) = true := nr8 ▸ (fits_nar_char c2 : fits .char (.int (nar .char c2)) = true)
  rw [nr8] at W8
  have V_u := V_u.other W8 ne_u_sd
  have E_sr := E_sr.wr W8
  have F_value_sr := F_value_sr.other W8 (Or.inl ne_sr_sd)
  have F_coder_sr := F_coder_sr.other W8 (Or.inl ne_sr_sd)
  have E_sd := E_sd.wr W8
  have Z8 : n0 ≤ h8.size := Nat.le_trans Z6 (Keep.of_wr W8).1
  have O := O.wr W8 g_sd
  have V_sd : Arv Z h8 sd k2 .char (3 : Int32) [(.int c0), (.int c1), (.int c2)] (.int (0 : Int32)) := Arv.set Ar8 q8 Sz8 Ng8 Hs8 Ft8 ft8 W8 2 rfl (Nat.le_of_ble_eq_true rfl)
  have K8 := K6.wr W8 (Or.inr sz_sd)
  have N8 := Fr.snoc X8 N6 g_sd
  refine Goes.pre (U' := T8.setTop (mkF m 95 #[.val (.ref u), .val (.int (3 : Int32))] [(.ref sd), (.ref sr), (.ref sr)])) (fun t k => st8 t k) ?_
  have lt_sd := E_sd.lt
  have lt_sr := E_sr.lt
  have lt_u := V_u.lt
  obtain ⟨_, _, ⟨T9, L9, k9, n9⟩, -, X9, ⟨Lc9, hQ9, l9, y9, z9⟩, st9⟩ := X8.specialBack hx (y := (⟨"java/lang/String", "<init>", "([C)V"⟩ : MethodName)) rfl hown (mvT hZ (wq hw 18 rfl)) (mvT hZ (wq hw 19 rfl)) (mvT hZ (wq hw 20 rfl)) (by decide) (backOf (W := 1) (rm_init1G l Z a0 hw [] sr sd k2 ([c0, c1, c2]) cs h8 n0 Z8 E_sr F_value_sr F_coder_sr V_sd S_COMPACT_STRINGS S__assertionsDisabled S_HI_BYTE_SHIFT S_LO_BYTE_SHIFT (Nat.le_of_ble_eq_true rfl) (own_cA (hch0) (own_cA (hch1) (own_cA (hch2) own_cN))) (by simp) hcs ne_sd_sr g_sr O) hZ (wq hw 20 rfl) (wq hw 17 rfl) (by decide) (by decide)) (g := (mkF m 95 #[.val (.ref u), .val (.int (3 : Int32))] [(.ref sd), (.ref sr), (.ref sr)])) rfl (by rw [hml]; rfl) (Steps.refl _) (a := sr) (argsL := [(.ref sd)]) (rest := [(.ref sr)]) (lenOf pd__28_5bC_29V rfl) rfl (by show 2 * 0 + _ ≤ _; exact Nat.le_of_eq rfl) (hb hby d3_95) (fun _ _ => ⟨rfl, e8, (by decide : 2 + 2 ≤ _), (by decide : 7 + 12 ≤ _)⟩)
  dsimp only [Pt.U, Pt.locs, Pt.cells, Pt.slots] at X9 l9 y9 z9 st9 hQ9
  subst l9 y9 z9
  obtain ⟨b9, kb9, rfl, N9q, KQ9, fo0_9, g_b9, sl_b9⟩ := hQ9
  have N9 := Fr.app N8 N9q
  have V_u := V_u.keep KQ9 (ninS ne_u_sr nin0)
  have E_sr := E_sr.keep KQ9
  have E_sd := E_sd.keep KQ9
  have V_sd := V_sd.keep KQ9 (ninS ne_sd_sr nin0)
  have Z10 : n0 ≤ T9.heap.size := Nat.le_trans Z8 KQ9.1
  have O := O.keep KQ9 (allS (P := fun x => n0 ≤ x) g_sr all0)
  have K10 := K8.trans KQ9 (allS (P := fun x => x ∈ [] ∨ h0.size ≤ x) (Or.inr sz_sr) all0)
  have ne_sd_b9 : sd ≠ b9 := Nat.ne_of_lt (Nat.lt_of_lt_of_le lt_sd sl_b9)
  have ne_b9_sd := ne_sd_b9.symm
  have ne_sr_b9 : sr ≠ b9 := Nat.ne_of_lt (Nat.lt_of_lt_of_le lt_sr sl_b9)
  have ne_b9_sr := ne_sr_b9.symm
  have ne_u_b9 : u ≠ b9 := Nat.ne_of_lt (Nat.lt_of_lt_of_le lt_u sl_b9)
  have ne_b9_u := ne_u_b9.symm
  have sz_b9 : h0.size ≤ b9 := Nat.le_trans K8.1 sl_b9
  have S_sr := fo0_9
  refine Goes.pre (U' := T9.setTop (mkF m 98 #[.val (.ref u), .val (.int (3 : Int32))] [(.ref sr)])) (fun t k => st9.trans k) ?_
  refine Goes.ret X9 (v := (some (.ref sr))) (fun h => by rw [hret] at h; cases h) hlk (by decide) (by decide) rfl (fun fs hr => retOut X9 hx hret rfl (Or.inr (Or.inr (Or.inr (Or.inr ⟨rfl, rfl, rfl⟩)))) (hb hby d3_98) hr) ?_
  exact ⟨sr, b9, kb9, rfl, N9, K10, S_sr⟩
theorem ef_rm_take4 (m : MethodId) (x0 : Addr) (x1 : Int32) : entryFrame m #[(.ref x0), (.int x1)] 2 = mkF m 0 #[.val (.ref x0), .val (.int x1)] [] := by first | (simp [entryFrame, mkF, argsToLocals, Value.category]; done) | rfl
theorem d3_99 : decode method_7_code 99 = .ok (.new 42, 3) := by decide +kernel
theorem d3_102 : decode method_7_code 102 = .ok (.dup, 1) := by decide +kernel
theorem d3_103 : decode method_7_code 103 = .ok (.iconst 4, 1) := by decide +kernel
theorem d3_104 : decode method_7_code 104 = .ok (.newarray .char, 2) := by decide +kernel
theorem d3_106 : decode method_7_code 106 = .ok (.dup, 1) := by decide +kernel
theorem d3_107 : decode method_7_code 107 = .ok (.iconst 0, 1) := by decide +kernel
theorem d3_108 : decode method_7_code 108 = .ok (.aload_n 0, 1) := by decide +kernel
theorem d3_109 : decode method_7_code 109 = .ok (.iconst 0, 1) := by decide +kernel
theorem d3_110 : decode method_7_code 110 = .ok (.caload, 1) := by decide +kernel
theorem d3_111 : decode method_7_code 111 = .ok (.castore, 1) := by decide +kernel
theorem d3_112 : decode method_7_code 112 = .ok (.dup, 1) := by decide +kernel
theorem d3_113 : decode method_7_code 113 = .ok (.iconst 1, 1) := by decide +kernel
theorem d3_114 : decode method_7_code 114 = .ok (.aload_n 0, 1) := by decide +kernel
theorem d3_115 : decode method_7_code 115 = .ok (.iconst 1, 1) := by decide +kernel
theorem d3_116 : decode method_7_code 116 = .ok (.caload, 1) := by decide +kernel
theorem d3_117 : decode method_7_code 117 = .ok (.castore, 1) := by decide +kernel
theorem d3_118 : decode method_7_code 118 = .ok (.dup, 1) := by decide +kernel
theorem d3_119 : decode method_7_code 119 = .ok (.iconst 2, 1) := by decide +kernel
theorem d3_120 : decode method_7_code 120 = .ok (.aload_n 0, 1) := by decide +kernel
theorem d3_121 : decode method_7_code 121 = .ok (.iconst 2, 1) := by decide +kernel
theorem d3_122 : decode method_7_code 122 = .ok (.caload, 1) := by decide +kernel
theorem d3_123 : decode method_7_code 123 = .ok (.castore, 1) := by decide +kernel
theorem d3_124 : decode method_7_code 124 = .ok (.dup, 1) := by decide +kernel
theorem d3_125 : decode method_7_code 125 = .ok (.iconst 3, 1) := by decide +kernel
theorem d3_126 : decode method_7_code 126 = .ok (.aload_n 0, 1) := by decide +kernel
theorem d3_127 : decode method_7_code 127 = .ok (.iconst 3, 1) := by decide +kernel
theorem d3_128 : decode method_7_code 128 = .ok (.caload, 1) := by decide +kernel
theorem d3_129 : decode method_7_code 129 = .ok (.castore, 1) := by decide +kernel
theorem d3_130 : decode method_7_code 130 = .ok (.invokespecial 44, 3) := by decide +kernel
theorem d3_133 : decode method_7_code 133 = .ok (.areturn, 1) := by decide +kernel
def Q_rm_take4 (Z : State) (u : Addr) (ku : ClassId) (c0 : Int32) (c1 : Int32) (c2 : Int32) (c3 : Int32) (cs : Int32) (h0 : Heap) (n0 : Nat) (v : Option Value) (h : Heap) (L : List Loc) : Prop := ∃ (r : Addr) (b : Addr) (kb : ClassId), v = some (.ref r) ∧ Fr n0 L ∧ Keep h0 h [] ∧ OwnStr Z h r b kb [c0, c1, c2, c3]
set_option maxRecDepth 65536 in
set_option maxHeartbeats 40000000 in
theorem rm_take4 (l : Launch) (Z : State) (a0 : Array Value) (hw : ∀ d ∈ tables_1, d.before a0 Z = true) (ws : List Jvm.Cond) (u : Addr) (ku : ClassId) (c0 : Int32) (c1 : Int32) (c2 : Int32) (c3 : Int32) (cs : Int32) (h0 : Heap) (n0 : Nat) (Z0 : n0 ≤ h0.size) (V_u : Arv Z h0 u ku .char (4 : Int32) [(.int c0), (.int c1), (.int c2), (.int c3)] (.int (0 : Int32))) (S_COMPACT_STRINGS : Sta Z Z.heap "java/lang/String" "COMPACT_STRINGS" "Z" (.int cs)) (S__assertionsDisabled : Sta Z Z.heap "java/lang/StringUTF16" "$assertionsDisabled" "Z" (.int (1 : Int32))) (S_HI_BYTE_SHIFT : Sta Z Z.heap "java/lang/StringUTF16" "HI_BYTE_SHIFT" "I" (.int (0 : Int32))) (S_LO_BYTE_SHIFT : Sta Z Z.heap "java/lang/StringUTF16" "LO_BYTE_SHIFT" "I" (.int (8 : Int32))) (hch0 : OwnCh c0) (hch1 : OwnCh c1) (hch2 : OwnCh c2) (hch3 : OwnCh c3) (hcs : ¬ (cs = (0 : Int32))) (O : Old Z n0 h0) :
    Met l Z M3 method_7_code 2 (some (.object "java/lang/String")) ws (Rm 6 4 20 88) #[(.ref u), (.int (4 : Int32))] h0 (Q_rm_take4 Z u ku c0 c1 c2 c3 cs h0 n0) := by
  refine met_of (plainFor_of_name pn_com_example_bnodiff_bnodiff_model_CodePointOrderComparePinLaw) (own := "com/example/bnodiff/bnodiff/model/CodePointOrderComparePinLaw") rfl (fun m => ef_rm_take4 m u (4 : Int32)) ?_
  intro p e s m below meth c s₁ hx hby hml hown hnm hZ X0 e0 hret hlk
  have N0 := Fr.nil n0
  have K0 := Keep.refl h0 []
  show Goes p e below s _ _ _ (s₁.setTop (mkF m 0 #[.val (.ref u), .val (.int (4 : Int32))] []))
  refine Goes.pre (U' := s₁.setTop (mkF m 1 #[.val (.ref u), .val (.int (4 : Int32))] [(.int (4 : Int32))])) (fun t k => XS.iloadN X0.here hx rfl (hb hby d3_0) rfl k) ?_
  have hc1 : ¬ ((4 : Int32) = (0 : Int32)) := by decide
  refine Goes.pre (U' := s₁.setTop (mkF m 17 #[.val (.ref u), .val (.int (4 : Int32))] [(.int (1 : Int32)), (.int (4 : Int32))])) (fun t k => XS.ifYes X0.here hx rfl (pc0 := 1) (pc' := 15) rfl (hb hby d3_1) rfl ((if0 _ _).trans (feq hc1).2) (by decide) (by decide) (XS.iloadN X0.here hx rfl (hb hby d3_15) rfl (XS.iconst X0.here hx rfl (hb hby d3_16) k))) ?_
  have hc17 : ¬ ((4 : Int32) = (1 : Int32)) := by decide
  refine Goes.pre (U' := s₁.setTop (mkF m 39 #[.val (.ref u), .val (.int (4 : Int32))] [(.int (2 : Int32)), (.int (4 : Int32))])) (fun t k => XS.icmpYes X0.here hx rfl (pc0 := 17) (pc' := 37) rfl (hb hby d3_17) rfl (feq hc17).2 (by decide) (by decide) (XS.iloadN X0.here hx rfl (hb hby d3_37) rfl (XS.iconst X0.here hx rfl (hb hby d3_38) k))) ?_
  have hc39 : ¬ ((4 : Int32) = (2 : Int32)) := by decide
  refine Goes.pre (U' := s₁.setTop (mkF m 67 #[.val (.ref u), .val (.int (4 : Int32))] [(.int (3 : Int32)), (.int (4 : Int32))])) (fun t k => XS.icmpYes X0.here hx rfl (pc0 := 39) (pc' := 65) rfl (hb hby d3_39) rfl (feq hc39).2 (by decide) (by decide) (XS.iloadN X0.here hx rfl (hb hby d3_65) rfl (XS.iconst X0.here hx rfl (hb hby d3_66) k))) ?_
  have hc67 : ¬ ((4 : Int32) = (3 : Int32)) := by decide
  refine Goes.pre (U' := s₁.setTop (mkF m 99 #[.val (.ref u), .val (.int (4 : Int32))] [])) (fun t k => XS.icmpYes X0.here hx rfl (pc0 := 67) (pc' := 99) rfl (hb hby d3_67) rfl (feq hc67).2 (by decide) (by decide) k) ?_
  obtain ⟨T1, h1, X1, e1, E1, A1, D1, -, st1⟩ := newO X0 hx hZ hown (wq hw 15 rfl) (wq hw 16 rfl) (wq hw 17 rfl) e0 (g := (mkF m 99 #[.val (.ref u), .val (.int (4 : Int32))] [])) rfl (hb hby d3_99) (by decide) (by decide)
  obtain ⟨sr, g1⟩ : ∃ z, z = h0.size := ⟨_, rfl⟩
  rw [← g1] at A1 D1 st1
  have ne_u_sr : u ≠ sr := Nat.ne_of_lt (Nat.lt_of_lt_of_le V_u.lt (Nat.le_of_eq g1.symm))
  have ne_sr_u := ne_u_sr.symm
  have g_sr : n0 ≤ sr := Nat.le_trans Z0 (Nat.le_of_eq g1.symm)
  have sz_sr : h0.size ≤ sr := Nat.le_trans K0.1 (Nat.le_of_eq g1.symm)
  have V_u := V_u.ext E1
  have O := O.ext E1
  have Z1 : n0 ≤ h1.size := Nat.le_trans Z0 E1.1
  have K1 := K0.ext E1
  have E_sr := A1
  have F_value_sr : Fld Z h1 sr "java/lang/String" "value" "[B" .null := D1 (Or.inr (wq hw 30 rfl)) (ty := (.array .byte)) (by decide)
  have F_coder_sr : Fld Z h1 sr "java/lang/String" "coder" "B" (.int (0 : Int32)) := D1 (Or.inr (wq hw 31 rfl)) (ty := .byte) (by decide)
  refine Goes.pre (U' := T1.setTop (mkF m 104 #[.val (.ref u), .val (.int (4 : Int32))] [(.int (4 : Int32)), (.ref sr), (.ref sr)])) (fun t k => st1 t (XS.dup X1.here hx rfl (hb hby d3_102) rfl rfl (XS.iconst X1.here hx rfl (hb hby d3_103) k))) ?_
  obtain ⟨T2, h2, k2, X2, e2, E2, A2, B2, st2⟩ := newPE X1 hx hZ (wq hw 11 rfl) e1 (g := (mkF m 104 #[.val (.ref u), .val (.int (4 : Int32))] [(.int (4 : Int32)), (.ref sr), (.ref sr)])) rfl (hb hby d3_104) rfl (by decide) (cap := 4) (by decide) (by decide) (by decide) (by decide) (ad := "[C") (by decide)
  obtain ⟨sd, g2⟩ : ∃ z, z = h1.size := ⟨_, rfl⟩
  rw [← g2] at A2 B2 st2
  have ne_sr_sd : sr ≠ sd := Nat.ne_of_lt (Nat.lt_of_lt_of_le E_sr.lt (Nat.le_of_eq g2.symm))
  have ne_sd_sr := ne_sr_sd.symm
  have ne_u_sd : u ≠ sd := Nat.ne_of_lt (Nat.lt_of_lt_of_le V_u.lt (Nat.le_of_eq g2.symm))
  have ne_sd_u := ne_u_sd.symm
  have g_sd : n0 ≤ sd := Nat.le_trans Z1 (Nat.le_of_eq g2.symm)
  have sz_sd : h0.size ≤ sd := Nat.le_trans K1.1 (Nat.le_of_eq g2.symm)
  have V_u := V_u.ext E2
  have E_sr := E_sr.ext E2
  have F_value_sr := F_value_sr.ext E2
  have F_coder_sr := F_coder_sr.ext E2
  have O := O.ext E2
  have Z2 : n0 ≤ h2.size := Nat.le_trans Z1 E2.1
  have K2 := K1.ext E2
  have E_sd := B2
  have V_sd : Arv Z h2 sd k2 .char (4 : Int32) [(.int (0 : Int32)), (.int (0 : Int32)), (.int (0 : Int32)), (.int (0 : Int32))] (.int (0 : Int32)) := (Arv.new A2 (by decide)).pad (pad_rep [] (.int (0 : Int32)) 4)
  refine Goes.pre (U' := T2.setTop (mkF m 110 #[.val (.ref u), .val (.int (4 : Int32))] [(.int (0 : Int32)), (.ref u), (.int (0 : Int32)), (.ref sd), (.ref sd), (.ref sr), (.ref sr)])) (fun t k => st2 t (XS.dup X2.here hx rfl (hb hby d3_106) rfl rfl (XS.iconst X2.here hx rfl (hb hby d3_107) (XS.aloadN X2.here hx rfl (hb hby d3_108) rfl rfl (XS.iconst X2.here hx rfl (hb hby d3_109) k))))) ?_
  obtain ⟨cl3, Ar3, q3, Sz3, Ng3, Hs3, Ft3⟩ := id V_u
  have hin3 := inb_of (j := (0 : Int32)) Sz3 ⟨by decide, by decide⟩
  refine Goes.pre (U' := T2.setTop (mkF m 111 #[.val (.ref u), .val (.int (4 : Int32))] [(.int c0), (.int (0 : Int32)), (.ref sd), (.ref sd), (.ref sr), (.ref sr)])) (fun t k => X2.caload hx (j := (0 : Int32)) (v := (.int c0)) (by rw [e2]; exact Ar3.1) (State.isArrayOf_alike hZ.alike Ar3.2.1) Ar3.2.2 hin3 (Has.at Hs3 hin3 rfl) (g := (mkF m 110 #[.val (.ref u), .val (.int (4 : Int32))] [(.int (0 : Int32)), (.ref u), (.int (0 : Int32)), (.ref sd), (.ref sd), (.ref sr), (.ref sr)])) rfl rfl (hb hby d3_110) _ k) ?_
  obtain ⟨cl4, Ar4, q4, Sz4, Ng4, Hs4, Ft4⟩ := id V_sd
  obtain ⟨T4, h4, X4, e4, W4, st4⟩ := stC X2 hx hZ e2 Ar4 (j := (0 : Int32)) (inb_of Sz4 ⟨by decide, by decide⟩) (g := (mkF m 111 #[.val (.ref u), .val (.int (4 : Int32))] [(.int c0), (.int (0 : Int32)), (.ref sd), (.ref sd), (.ref sr), (.ref sr)])) rfl rfl (hb hby d3_111)
  have nr4 : nar .char c0 = c0 := own_nch _ (hch0)
  have ft4 : fits .char (.int c0) = true := nr4 ▸ (fits_nar_char c0 : fits .char (.int (nar .char c0)) = true)
  rw [nr4] at W4
  have V_u := V_u.other W4 ne_u_sd
  have E_sr := E_sr.wr W4
  have F_value_sr := F_value_sr.other W4 (Or.inl ne_sr_sd)
  have F_coder_sr := F_coder_sr.other W4 (Or.inl ne_sr_sd)
  have E_sd := E_sd.wr W4
  have Z4 : n0 ≤ h4.size := Nat.le_trans Z2 (Keep.of_wr W4).1
  have O := O.wr W4 g_sd
  have V_sd : Arv Z h4 sd k2 .char (4 : Int32) [(.int c0), (.int (0 : Int32)), (.int (0 : Int32)), (.int (0 : Int32))] (.int (0 : Int32)) := Arv.set Ar4 q4 Sz4 Ng4 Hs4 Ft4 ft4 W4 0 rfl (Nat.le_of_ble_eq_true rfl)
  have K4 := K2.wr W4 (Or.inr sz_sd)
  have N4 := Fr.snoc X4 N0 g_sd
  refine Goes.pre (U' := T4.setTop (mkF m 116 #[.val (.ref u), .val (.int (4 : Int32))] [(.int (1 : Int32)), (.ref u), (.int (1 : Int32)), (.ref sd), (.ref sd), (.ref sr), (.ref sr)])) (fun t k => st4 t (XS.dup X4.here hx rfl (hb hby d3_112) rfl rfl (XS.iconst X4.here hx rfl (hb hby d3_113) (XS.aloadN X4.here hx rfl (hb hby d3_114) rfl rfl (XS.iconst X4.here hx rfl (hb hby d3_115) k))))) ?_
  obtain ⟨cl5, Ar5, q5, Sz5, Ng5, Hs5, Ft5⟩ := id V_u
  have hin5 := inb_of (j := (1 : Int32)) Sz5 ⟨by decide, by decide⟩
  refine Goes.pre (U' := T4.setTop (mkF m 117 #[.val (.ref u), .val (.int (4 : Int32))] [(.int c1), (.int (1 : Int32)), (.ref sd), (.ref sd), (.ref sr), (.ref sr)])) (fun t k => X4.caload hx (j := (1 : Int32)) (v := (.int c1)) (by rw [e4]; exact Ar5.1) (State.isArrayOf_alike hZ.alike Ar5.2.1) Ar5.2.2 hin5 (Has.at Hs5 hin5 rfl) (g := (mkF m 116 #[.val (.ref u), .val (.int (4 : Int32))] [(.int (1 : Int32)), (.ref u), (.int (1 : Int32)), (.ref sd), (.ref sd), (.ref sr), (.ref sr)])) rfl rfl (hb hby d3_116) _ k) ?_
  obtain ⟨cl6, Ar6, q6, Sz6, Ng6, Hs6, Ft6⟩ := id V_sd
  obtain ⟨T6, h6, X6, e6, W6, st6⟩ := stC X4 hx hZ e4 Ar6 (j := (1 : Int32)) (inb_of Sz6 ⟨by decide, by decide⟩) (g := (mkF m 117 #[.val (.ref u), .val (.int (4 : Int32))] [(.int c1), (.int (1 : Int32)), (.ref sd), (.ref sd), (.ref sr), (.ref sr)])) rfl rfl (hb hby d3_117)
  have nr6 : nar .char c1 = c1 := own_nch _ (hch1)
  have ft6 : fits .char (.int c1) = true := nr6 ▸ (fits_nar_char c1 : fits .char (.int (nar .char c1)) = true)
  rw [nr6] at W6
  have V_u := V_u.other W6 ne_u_sd
  have E_sr := E_sr.wr W6
  have F_value_sr := F_value_sr.other W6 (Or.inl ne_sr_sd)
  have F_coder_sr := F_coder_sr.other W6 (Or.inl ne_sr_sd)
  have E_sd := E_sd.wr W6
  have Z6 : n0 ≤ h6.size := Nat.le_trans Z4 (Keep.of_wr W6).1
  have O := O.wr W6 g_sd
  have V_sd : Arv Z h6 sd k2 .char (4 : Int32) [(.int c0), (.int c1), (.int (0 : Int32)), (.int (0 : Int32))] (.int (0 : Int32)) := Arv.set Ar6 q6 Sz6 Ng6 Hs6 Ft6 ft6 W6 1 rfl (Nat.le_of_ble_eq_true rfl)
  have K6 := K4.wr W6 (Or.inr sz_sd)
  have N6 := Fr.snoc X6 N4 g_sd
  refine Goes.pre (U' := T6.setTop (mkF m 122 #[.val (.ref u), .val (.int (4 : Int32))] [(.int (2 : Int32)), (.ref u), (.int (2 : Int32)), (.ref sd), (.ref sd), (.ref sr), (.ref sr)])) (fun t k => st6 t (XS.dup X6.here hx rfl (hb hby d3_118) rfl rfl (XS.iconst X6.here hx rfl (hb hby d3_119) (XS.aloadN X6.here hx rfl (hb hby d3_120) rfl rfl (XS.iconst X6.here hx rfl (hb hby d3_121) k))))) ?_
  obtain ⟨cl7, Ar7, q7, Sz7, Ng7, Hs7, Ft7⟩ := id V_u
  have hin7 := inb_of (j := (2 : Int32)) Sz7 ⟨by decide, by decide⟩
  refine Goes.pre (U' := T6.setTop (mkF m 123 #[.val (.ref u), .val (.int (4 : Int32))] [(.int c2), (.int (2 : Int32)), (.ref sd), (.ref sd), (.ref sr), (.ref sr)])) (fun t k => X6.caload hx (j := (2 : Int32)) (v := (.int c2)) (by rw [e6]; exact Ar7.1) (State.isArrayOf_alike hZ.alike Ar7.2.1) Ar7.2.2 hin7 (Has.at Hs7 hin7 rfl) (g := (mkF m 122 #[.val (.ref u), .val (.int (4 : Int32))] [(.int (2 : Int32)), (.ref u), (.int (2 : Int32)), (.ref sd), (.ref sd), (.ref sr), (.ref sr)])) rfl rfl (hb hby d3_122) _ k) ?_
  obtain ⟨cl8, Ar8, q8, Sz8, Ng8, Hs8, Ft8⟩ := id V_sd
  obtain ⟨T8, h8, X8, e8, W8, st8⟩ := stC X6 hx hZ e6 Ar8 (j := (2 : Int32)) (inb_of Sz8 ⟨by decide, by decide⟩) (g := (mkF m 123 #[.val (.ref u), .val (.int (4 : Int32))] [(.int c2), (.int (2 : Int32)), (.ref sd), (.ref sd), (.ref sr), (.ref sr)])) rfl rfl (hb hby d3_123)
  have nr8 : nar .char c2 = c2 := own_nch _ (hch2)
  have ft8 : fits .char (.int c2) = true := nr8 ▸ (fits_nar_char c2 : fits .char (.int (nar .char c2)) = true)
  rw [nr8] at W8
  have V_u := V_u.other W8 ne_u_sd
  have E_sr := E_sr.wr W8
  have F_value_sr := F_value_sr.other W8 (Or.inl ne_sr_sd)
  have F_coder_sr := F_coder_sr.other W8 (Or.inl ne_sr_sd)
  have E_sd := E_sd.wr W8
  have Z8 : n0 ≤ h8.size := Nat.le_trans Z6 (Keep.of_wr W8).1
  have O := O.wr W8 g_sd
  have V_sd : Arv Z h8 sd k2 .char (4 : Int32) [(.int c0), (.int c1), (.int c2), (.int (0 : Int32))] (.int (0 : Int32)) := Arv.set Ar8 q8 Sz8 Ng8 Hs8 Ft8 ft8 W8 2 rfl (Nat.le_of_ble_eq_true rfl)
  have K8 := K6.wr W8 (Or.inr sz_sd)
  have N8 := Fr.snoc X8 N6 g_sd
  refine Goes.pre (U' := T8.setTop (mkF m 128 #[.val (.ref u), .val (.int (4 : Int32))] [(.int (3 : Int32)), (.ref u), (.int (3 : Int32)), (.ref sd), (.ref sd), (.ref sr), (.ref sr)])) (fun t k => st8 t (XS.dup X8.here hx rfl (hb hby d3_124) rfl rfl (XS.iconst X8.here hx rfl (hb hby d3_125) (XS.aloadN X8.here hx rfl (hb hby d3_126) rfl rfl (XS.iconst X8.here hx rfl (hb hby d3_127) k))))) ?_
  obtain ⟨cl9, Ar9, q9, Sz9, Ng9, Hs9, Ft9⟩ := id V_u
  have hin9 := inb_of (j := (3 : Int32)) Sz9 ⟨by decide, by decide⟩
  refine Goes.pre (U' := T8.setTop (mkF m 129 #[.val (.ref u), .val (.int (4 : Int32))] [(.int c3), (.int (3 : Int32)), (.ref sd), (.ref sd), (.ref sr), (.ref sr)])) (fun t k => X8.caload hx (j := (3 : Int32)) (v := (.int c3)) (by rw [e8]; exact Ar9.1) (State.isArrayOf_alike hZ.alike Ar9.2.1) Ar9.2.2 hin9 (Has.at Hs9 hin9 rfl) (g := (mkF m 128 #[.val (.ref u), .val (.int (4 : Int32))] [(.int (3 : Int32)), (.ref u), (.int (3 : Int32)), (.ref sd), (.ref sd), (.ref sr), (.ref sr)])) rfl rfl (hb hby d3_128) _ k) ?_
  obtain ⟨cl10, Ar10, q10, Sz10, Ng10, Hs10, Ft10⟩ := id V_sd
  obtain ⟨T10, h10, X10, e10, W10, st10⟩ := stC X8 hx hZ e8 Ar10 (j := (3 : Int32)) (inb_of Sz10 ⟨by decide, by decide⟩) (g := (mkF m 129 #[.val (.ref u), .val (.int (4 : Int32))] [(.int c3), (.int (3 : Int32)), (.ref sd), (.ref sd), (.ref sr), (.ref sr)])) rfl rfl (hb hby d3_129)
  have nr10 : nar .char c3 = c3 := own_nch _ (hch3)
  have ft10 : fits .char (.int c3) = true := nr10 ▸ (fits_nar_char c3 : fits .char (.int (nar .char c3)) = true)
  rw [nr10] at W10
  have V_u := V_u.other W10 ne_u_sd
  have E_sr := E_sr.wr W10
  have F_value_sr := F_value_sr.other W10 (Or.inl ne_sr_sd)
  have F_coder_sr := F_coder_sr.other W10 (Or.inl ne_sr_sd)
  have E_sd := E_sd.wr W10
  have Z10 : n0 ≤ h10.size := Nat.le_trans Z8 (Keep.of_wr W10).1
  have O := O.wr W10 g_sd
  have V_sd : Arv Z h10 sd k2 .char (4 : Int32) [(.int c0), (.int c1), (.int c2), (.int c3)] (.int (0 : Int32)) := Arv.set Ar10 q10 Sz10 Ng10 Hs10 Ft10 ft10 W10 3 rfl (Nat.le_of_ble_eq_true rfl)
  have K10 := K8.wr W10 (Or.inr sz_sd)
  have N10 := Fr.snoc X10 N8 g_sd
  refine Goes.pre (U' := T10.setTop (mkF m 130 #[.val (.ref u), .val (.int (4 : Int32))] [(.ref sd), (.ref sr), (.ref sr)])) (fun t k => st10 t k) ?_
  have lt_sd := E_sd.lt
  have lt_sr := E_sr.lt
  have lt_u := V_u.lt
  obtain ⟨_, _, ⟨T11, L11, k11, n11⟩, -, X11, ⟨Lc11, hQ11, l11, y11, z11⟩, st11⟩ := X10.specialBack hx (y := (⟨"java/lang/String", "<init>", "([C)V"⟩ : MethodName)) rfl hown (mvT hZ (wq hw 18 rfl)) (mvT hZ (wq hw 19 rfl)) (mvT hZ (wq hw 20 rfl)) (by decide) (backOf (W := 1) (rm_init1G l Z a0 hw [] sr sd k2 ([c0, c1, c2, c3]) cs h10 n0 Z10 E_sr F_value_sr F_coder_sr V_sd S_COMPACT_STRINGS S__assertionsDisabled S_HI_BYTE_SHIFT S_LO_BYTE_SHIFT (Nat.le_of_ble_eq_true rfl) (own_cA (hch0) (own_cA (hch1) (own_cA (hch2) (own_cA (hch3) own_cN)))) (by simp) hcs ne_sd_sr g_sr O) hZ (wq hw 20 rfl) (wq hw 17 rfl) (by decide) (by decide)) (g := (mkF m 130 #[.val (.ref u), .val (.int (4 : Int32))] [(.ref sd), (.ref sr), (.ref sr)])) rfl (by rw [hml]; rfl) (Steps.refl _) (a := sr) (argsL := [(.ref sd)]) (rest := [(.ref sr)]) (lenOf pd__28_5bC_29V rfl) rfl (by show 2 * 0 + _ ≤ _; exact Nat.le_of_eq rfl) (hb hby d3_130) (fun _ _ => ⟨rfl, e10, (by decide : 2 + 2 ≤ _), (by decide : 8 + 12 ≤ _)⟩)
  dsimp only [Pt.U, Pt.locs, Pt.cells, Pt.slots] at X11 l11 y11 z11 st11 hQ11
  subst l11 y11 z11
  obtain ⟨b11, kb11, rfl, N11q, KQ11, fo0_11, g_b11, sl_b11⟩ := hQ11
  have N11 := Fr.app N10 N11q
  have V_u := V_u.keep KQ11 (ninS ne_u_sr nin0)
  have E_sr := E_sr.keep KQ11
  have E_sd := E_sd.keep KQ11
  have V_sd := V_sd.keep KQ11 (ninS ne_sd_sr nin0)
  have Z12 : n0 ≤ T11.heap.size := Nat.le_trans Z10 KQ11.1
  have O := O.keep KQ11 (allS (P := fun x => n0 ≤ x) g_sr all0)
  have K12 := K10.trans KQ11 (allS (P := fun x => x ∈ [] ∨ h0.size ≤ x) (Or.inr sz_sr) all0)
  have ne_sd_b11 : sd ≠ b11 := Nat.ne_of_lt (Nat.lt_of_lt_of_le lt_sd sl_b11)
  have ne_b11_sd := ne_sd_b11.symm
  have ne_sr_b11 : sr ≠ b11 := Nat.ne_of_lt (Nat.lt_of_lt_of_le lt_sr sl_b11)
  have ne_b11_sr := ne_sr_b11.symm
  have ne_u_b11 : u ≠ b11 := Nat.ne_of_lt (Nat.lt_of_lt_of_le lt_u sl_b11)
  have ne_b11_u := ne_u_b11.symm
  have sz_b11 : h0.size ≤ b11 := Nat.le_trans K10.1 sl_b11
  have S_sr := fo0_11
  refine Goes.pre (U' := T11.setTop (mkF m 133 #[.val (.ref u), .val (.int (4 : Int32))] [(.ref sr)])) (fun t k => st11.trans k) ?_
  refine Goes.ret X11 (v := (some (.ref sr))) (fun h => by rw [hret] at h; cases h) hlk (by decide) (by decide) rfl (fun fs hr => retOut X11 hx hret rfl (Or.inr (Or.inr (Or.inr (Or.inr ⟨rfl, rfl, rfl⟩)))) (hb hby d3_133) hr) ?_
  exact ⟨sr, b11, kb11, rfl, N11, K12, S_sr⟩
theorem ef_rm_enc (m : MethodId) (x0 : Int32) (x1 : Int32) (x2 : Int32) : entryFrame m #[(.int x0), (.int x1), (.int x2)] 5 = mkF m 0 #[.val (.int x0), .val (.int x1), .val (.int x2), .unset, .unset] [] := by first | (simp [entryFrame, mkF, argsToLocals, Value.category]; done) | rfl
abbrev M2 : MethodName := ⟨"com/example/bnodiff/bnodiff/model/CodePointOrderComparePinLaw", "enc", "(III)Ljava/lang/String;"⟩
theorem d2_0 : decode method_6_code 0 = .ok (.iconst 4, 1) := by decide +kernel
theorem d2_1 : decode method_6_code 1 = .ok (.newarray .char, 2) := by decide +kernel
theorem d2_3 : decode method_6_code 3 = .ok (.astore_n 3, 1) := by decide +kernel
theorem d2_4 : decode method_6_code 4 = .ok (.iconst 0, 1) := by decide +kernel
theorem d2_5 : decode method_6_code 5 = .ok (.istore 4, 2) := by decide +kernel
theorem d2_7 : decode method_6_code 7 = .ok (.iload_n 0, 1) := by decide +kernel
theorem d2_8 : decode method_6_code 8 = .ok (.iconst 1, 1) := by decide +kernel
theorem d2_9 : decode method_6_code 9 = .ok (.if_icmp .lt 31, 3) := by decide +kernel
theorem d2_40 : decode method_6_code 40 = .ok (.iload_n 0, 1) := by decide +kernel
theorem d2_41 : decode method_6_code 41 = .ok (.iconst 2, 1) := by decide +kernel
theorem d2_42 : decode method_6_code 42 = .ok (.if_icmp .lt 31, 3) := by decide +kernel
theorem d2_73 : decode method_6_code 73 = .ok (.aload_n 3, 1) := by decide +kernel
theorem d2_74 : decode method_6_code 74 = .ok (.iload 4, 2) := by decide +kernel
theorem d2_76 : decode method_6_code 76 = .ok (.invokestatic 38, 3) := by decide +kernel
theorem pd__28_5bCI_29Ljava_2flang_2fString_3b : parseMethodDescriptor "([CI)Ljava/lang/String;" = some ⟨[(.array .char), .int], some (.object "java/lang/String")⟩ := by decide +kernel
theorem d2_79 : decode method_6_code 79 = .ok (.areturn, 1) := by decide +kernel
theorem d2_12 : decode method_6_code 12 = .ok (.aload_n 3, 1) := by decide +kernel
theorem d2_13 : decode method_6_code 13 = .ok (.iload 4, 2) := by decide +kernel
theorem d2_15 : decode method_6_code 15 = .ok (.iload_n 1, 1) := by decide +kernel
theorem d2_16 : decode method_6_code 16 = .ok (.invokestatic 31, 3) := by decide +kernel
theorem pd__28I_29C : parseMethodDescriptor "(I)C" = some ⟨[.int], some .char⟩ := by decide +kernel
theorem d2_19 : decode method_6_code 19 = .ok (.castore, 1) := by decide +kernel
theorem d2_20 : decode method_6_code 20 = .ok (.iinc 4 1, 3) := by decide +kernel
theorem d2_23 : decode method_6_code 23 = .ok (.iload_n 1, 1) := by decide +kernel
theorem d2_24 : decode method_6_code 24 = .ok (.ldc 28, 2) := by decide +kernel
theorem d2_26 : decode method_6_code 26 = .ok (.if_icmp .lt 14, 3) := by decide +kernel
theorem d2_45 : decode method_6_code 45 = .ok (.aload_n 3, 1) := by decide +kernel
theorem d2_46 : decode method_6_code 46 = .ok (.iload 4, 2) := by decide +kernel
theorem d2_48 : decode method_6_code 48 = .ok (.iload_n 2, 1) := by decide +kernel
theorem d2_49 : decode method_6_code 49 = .ok (.invokestatic 31, 3) := by decide +kernel
theorem d2_52 : decode method_6_code 52 = .ok (.castore, 1) := by decide +kernel
theorem d2_53 : decode method_6_code 53 = .ok (.iinc 4 1, 3) := by decide +kernel
theorem d2_56 : decode method_6_code 56 = .ok (.iload_n 2, 1) := by decide +kernel
theorem d2_57 : decode method_6_code 57 = .ok (.ldc 28, 2) := by decide +kernel
theorem d2_59 : decode method_6_code 59 = .ok (.if_icmp .lt 14, 3) := by decide +kernel
theorem d2_62 : decode method_6_code 62 = .ok (.aload_n 3, 1) := by decide +kernel
theorem d2_63 : decode method_6_code 63 = .ok (.iload 4, 2) := by decide +kernel
theorem d2_65 : decode method_6_code 65 = .ok (.iload_n 2, 1) := by decide +kernel
theorem d2_66 : decode method_6_code 66 = .ok (.invokestatic 35, 3) := by decide +kernel
theorem d2_69 : decode method_6_code 69 = .ok (.castore, 1) := by decide +kernel
theorem d2_70 : decode method_6_code 70 = .ok (.iinc 4 1, 3) := by decide +kernel
theorem d2_29 : decode method_6_code 29 = .ok (.aload_n 3, 1) := by decide +kernel
theorem d2_30 : decode method_6_code 30 = .ok (.iload 4, 2) := by decide +kernel
theorem d2_32 : decode method_6_code 32 = .ok (.iload_n 1, 1) := by decide +kernel
theorem d2_33 : decode method_6_code 33 = .ok (.invokestatic 35, 3) := by decide +kernel
theorem d2_36 : decode method_6_code 36 = .ok (.castore, 1) := by decide +kernel
theorem d2_37 : decode method_6_code 37 = .ok (.iinc 4 1, 3) := by decide +kernel
def Q_rm_enc (Z : State) (q0 : Int32) (q1 : Int32) (q2 : Int32) (cs : Int32) (h0 : Heap) (n0 : Nat) (v : Option Value) (h : Heap) (L : List Loc) : Prop := ∃ (r : Addr) (b : Addr) (kb : ClassId), v = some (.ref r) ∧ Fr n0 L ∧ Keep h0 h [] ∧ OwnStr Z h r b kb (own_enc q0 q1 q2)
set_option maxRecDepth 65536 in
set_option maxHeartbeats 40000000 in
theorem rm_enc (l : Launch) (Z : State) (a0 : Array Value) (hw : ∀ d ∈ tables_1, d.before a0 Z = true) (hEL : EW Z a0 own_EL) (ws : List Jvm.Cond) (q0 : Int32) (q1 : Int32) (q2 : Int32) (cs : Int32) (h0 : Heap) (n0 : Nat) (Z0 : n0 ≤ h0.size) (S_COMPACT_STRINGS : Sta Z Z.heap "java/lang/String" "COMPACT_STRINGS" "Z" (.int cs)) (S__assertionsDisabled : Sta Z Z.heap "java/lang/StringUTF16" "$assertionsDisabled" "Z" (.int (1 : Int32))) (S_HI_BYTE_SHIFT : Sta Z Z.heap "java/lang/StringUTF16" "HI_BYTE_SHIFT" "I" (.int (0 : Int32))) (S_LO_BYTE_SHIFT : Sta Z Z.heap "java/lang/StringUTF16" "LO_BYTE_SHIFT" "I" (.int (8 : Int32))) (hcs : ¬ (cs = (0 : Int32))) (O : Old Z n0 h0) :
    MetW l Z own_EL M2 method_6_code 5 (some (.object "java/lang/String")) ws (Rm 7 5 24 101) #[(.int q0), (.int q1), (.int q2)] [] h0 (Q_rm_enc Z q0 q1 q2 cs h0 n0) := by
  refine metW_of (plainFor_of_name pn_com_example_bnodiff_bnodiff_model_CodePointOrderComparePinLaw) (own := "com/example/bnodiff/bnodiff/model/CodePointOrderComparePinLaw") rfl (fun m => ef_rm_enc m q0 q1 q2) ?_
  intro p e s m below meth c s₁ hx hby hml hown hnm hZ X0 e0 hret hlk H hSf CR hS
  have N0 := Fr.nil n0
  have K0 := Keep.refl h0 []
  have hk := Nat.le_refl h0.size
  show GoesW p e below s Z own_EL _ _ _ (s₁.setTop (mkF m 0 #[.val (.int q0), .val (.int q1), .val (.int q2), .unset, .unset] []))
  refine GoesW.pre (U' := s₁.setTop (mkF m 1 #[.val (.int q0), .val (.int q1), .val (.int q2), .unset, .unset] [(.int (4 : Int32))])) (fun t k => XS.iconst X0.here hx rfl (hb hby d2_0) k) ?_
  obtain ⟨T1, h1, k1, X1, e1, E1, A1, B1, st1⟩ := newPE X0 hx hZ (wq hw 11 rfl) e0 (g := (mkF m 1 #[.val (.int q0), .val (.int q1), .val (.int q2), .unset, .unset] [(.int (4 : Int32))])) rfl (hb hby d2_1) rfl (by decide) (cap := 4) (by decide) (by decide) (by decide) (by decide) (ad := "[C") (by decide)
  obtain ⟨u, g1⟩ : ∃ z, z = h0.size := ⟨_, rfl⟩
  rw [← g1] at A1 B1 st1
  have g_u : n0 ≤ u := Nat.le_trans Z0 (Nat.le_of_eq g1.symm)
  have sz_u : h0.size ≤ u := Nat.le_trans K0.1 (Nat.le_of_eq g1.symm)
  have O := O.ext E1
  have SF_u := Safe.ext E1 H (Safe.new (x := u) (Nat.le_of_eq g1.symm))
  have CR := CR.trans (CHr.ext E1 H)
  have H := H.ext E1
  have hk := Nat.le_trans hk E1.1
  have Z1 : n0 ≤ h1.size := Nat.le_trans Z0 E1.1
  have K1 := K0.ext E1
  have E_u := B1
  have V_u : Arv Z h1 u k1 .char (4 : Int32) [(.int (0 : Int32)), (.int (0 : Int32)), (.int (0 : Int32)), (.int (0 : Int32))] (.int (0 : Int32)) := (Arv.new A1 (by decide)).pad (pad_rep [] (.int (0 : Int32)) 4)
  refine GoesW.pre (U' := T1.setTop (mkF m 9 #[.val (.int q0), .val (.int q1), .val (.int q2), .val (.ref u), .val (.int (0 : Int32))] [(.int (1 : Int32)), (.int q0)])) (fun t k => st1 t (XS.astoreN X1.here hx rfl (hb hby d2_3) rfl rfl (l' := #[.val (.int q0), .val (.int q1), .val (.int q2), .val (.ref u), .unset]) rfl (XS.iconst X1.here hx rfl (hb hby d2_4) (XS.istore X1.here hx rfl (hb hby d2_5) rfl (l' := #[.val (.int q0), .val (.int q1), .val (.int q2), .val (.ref u), .val (.int (0 : Int32))]) rfl (XS.iloadN X1.here hx rfl (hb hby d2_7) rfl (XS.iconst X1.here hx rfl (hb hby d2_8) k)))))) ?_
  by_cases hc9 : q0 < (1 : Int32)
  ·
    refine GoesW.pre (U' := T1.setTop (mkF m 42 #[.val (.int q0), .val (.int q1), .val (.int q2), .val (.ref u), .val (.int (0 : Int32))] [(.int (2 : Int32)), (.int q0)])) (fun t k => XS.icmpYes X1.here hx rfl (pc0 := 9) (pc' := 40) rfl (hb hby d2_9) rfl (tlt hc9).1 (by decide) (by decide) (XS.iloadN X1.here hx rfl (hb hby d2_40) rfl (XS.iconst X1.here hx rfl (hb hby d2_41) k))) ?_
    have hc42 : q0 < (2 : Int32) := own_lt12 _ hc9
    refine GoesW.pre (U' := T1.setTop (mkF m 76 #[.val (.int q0), .val (.int q1), .val (.int q2), .val (.ref u), .val (.int (0 : Int32))] [(.int (0 : Int32)), (.ref u)])) (fun t k => XS.icmpYes X1.here hx rfl (pc0 := 42) (pc' := 73) rfl (hb hby d2_42) rfl (tlt hc42).1 (by decide) (by decide) (XS.aloadN X1.here hx rfl (hb hby d2_73) rfl rfl (XS.iload X1.here hx rfl (hb hby d2_74) rfl k))) ?_
    obtain ⟨_, _, ⟨T2, L2, k2, n2⟩, -, X2, hS2, hge2, ⟨Lc2, hQ2, l2, y2, z2, CQ2⟩, st2⟩ := Jvm.RoadKit.callSS X1 hx (y := (⟨"com/example/bnodiff/bnodiff/model/CodePointOrderComparePinLaw", "take", "([CI)Ljava/lang/String;"⟩ : MethodName)) hown (mvT hZ (wq hw 12 rfl)) (mvT hZ (wq hw 13 rfl)) (mvT hZ (wq hw 2 rfl)) (mvT hZ (wq hw 14 rfl)) (by decide) (own_backSH (s := s) (W := 0) (rm_take0 l Z a0 hw hEL [] u k1 (0 : Int32) (0 : Int32) (0 : Int32) (0 : Int32) h1 n0 Z1 V_u) hZ (wq hw 14 rfl) (wq hw 2 rfl) (by decide) (by decide) hEL H all0) (g := (mkF m 76 #[.val (.int q0), .val (.int q1), .val (.int q2), .val (.ref u), .val (.int (0 : Int32))] [(.int (0 : Int32)), (.ref u)])) rfl (by rw [hml]; rfl) (argsL := [(.ref u), (.int (0 : Int32))]) (rest := []) (lenOf pd__28_5bCI_29Ljava_2flang_2fString_3b rfl) rfl (by show 2 * 0 + _ ≤ _; exact Nat.le_of_eq rfl) (hb hby d2_76) (fun _ _ => ⟨rfl, e1, (by decide : 1 + 4 ≤ _), (by decide : 4 + 8 ≤ _)⟩)
    dsimp only [Pt.U, Pt.locs, Pt.cells, Pt.slots] at X2 l2 y2 z2 st2 hQ2 hS2 hge2 CQ2
    subst l2 y2 z2
    obtain ⟨r2, b2, kb2, rfl, N2q, KQ2, fo0_2⟩ := hQ2
    have N2 := Fr.app N0 N2q
    have SF_u := CQ2.safe E_u.lt SF_u
    have hS := foldS (T := T1) hS (by rw [e1]; exact hk) hS2 hge2
    have hZ : Z.Warmed39 (s.setVm T2.vm).vm := State.Warmed39.trans (t := s.setVm s.vm) hZ hS2.1
    have hown := own_found hS2 hown
    have H := CQ2.1
    have CR := CR.trans CQ2
    have hk := Nat.le_refl T2.heap.size
    have E_u := E_u.keep KQ2
    have V_u := V_u.keep KQ2 nin0
    have Z3 : n0 ≤ T2.heap.size := Nat.le_trans Z1 KQ2.1
    have O := O.keep KQ2 all0
    have K3 := K1.trans KQ2 all0
    have S_r2 := fo0_2
    refine GoesW.pre (U' := T2.setTop (mkF m 79 #[.val (.int q0), .val (.int q1), .val (.int q2), .val (.ref u), .val (.int (0 : Int32))] [(.ref r2)])) (fun t k => st2.trans k) ?_
    refine GoesW.ret X2 hZ hEL hS hk H CR (v := (some (.ref r2))) (fun h => by rw [hret] at h; cases h) hlk (by decide) (by decide) rfl (fun fs hr => retOut X2 hx hret rfl (Or.inr (Or.inr (Or.inr (Or.inr ⟨rfl, rfl, rfl⟩)))) (hb hby d2_79) hr) ?_
    have eE : own_enc q0 q1 q2 = [] := by simp [own_enc, own_units, hc9, own_lt12 _ hc9]
    rw [← eE] at S_r2
    exact ⟨r2, b2, kb2, rfl, N2, K3, S_r2⟩
  ·
    refine GoesW.pre (U' := T1.setTop (mkF m 16 #[.val (.int q0), .val (.int q1), .val (.int q2), .val (.ref u), .val (.int (0 : Int32))] [(.int q1), (.int (0 : Int32)), (.ref u)])) (fun t k => XS.icmpNo X1.here hx rfl (hb hby d2_9) rfl (flt hc9).1 (XS.aloadN X1.here hx rfl (hb hby d2_12) rfl rfl (XS.iload X1.here hx rfl (hb hby d2_13) rfl (XS.iloadN X1.here hx rfl (hb hby d2_15) rfl k)))) ?_
    obtain ⟨_, _, ⟨T4, L4, k4, n4⟩, -, X4, ⟨Lc4, hQ4, l4, y4, z4⟩, st4⟩ := Jvm.LawKit.callS X1 hx (y := (⟨"com/example/bnodiff/bnodiff/model/CodePointOrderComparePinLaw", "hi", "(I)C"⟩ : MethodName)) hown (mvT hZ (wq hw 58 rfl)) (mvT hZ (wq hw 59 rfl)) (mvT hZ (wq hw 2 rfl)) (mvT hZ (wq hw 60 rfl)) (by decide) (backOf (W := 2) (rm_hi l Z a0 hw [] q1 h1 n0 Z1) hZ (wq hw 60 rfl) (wq hw 2 rfl) (by decide) (by decide)) (g := (mkF m 16 #[.val (.int q0), .val (.int q1), .val (.int q2), .val (.ref u), .val (.int (0 : Int32))] [(.int q1), (.int (0 : Int32)), (.ref u)])) rfl (by rw [hml]; rfl) (argsL := [(.int q1)]) (rest := [(.int (0 : Int32)), (.ref u)]) (lenOf pd__28I_29C rfl) rfl (by show 2 * 0 + _ ≤ _; exact Nat.le_of_eq rfl) (hb hby d2_16) (fun _ _ => ⟨rfl, e1, (by decide : 1 + 0 ≤ _), (by decide : 4 + 0 ≤ _)⟩)
    dsimp only [Pt.U, Pt.locs, Pt.cells, Pt.slots] at X4 l4 y4 z4 st4 hQ4
    subst l4 y4 z4
    obtain ⟨rfl, N4q, HQ4⟩ := hQ4
    have N4 := Fr.app N0 N4q
    refine GoesW.pre (U' := T4.setTop (mkF m 19 #[.val (.int q0), .val (.int q1), .val (.int q2), .val (.ref u), .val (.int (0 : Int32))] [(.int (own_hi q1)), (.int (0 : Int32)), (.ref u)])) (fun t k => st4 t k) ?_
    obtain ⟨cl5, Ar5, q5, Sz5, Ng5, Hs5, Ft5⟩ := id V_u
    obtain ⟨T5, h5, X5, e5, W5, st5⟩ := stC X4 hx hZ HQ4 Ar5 (j := (0 : Int32)) (inb_of Sz5 ⟨by decide, by decide⟩) (g := (mkF m 19 #[.val (.int q0), .val (.int q1), .val (.int q2), .val (.ref u), .val (.int (0 : Int32))] [(.int (own_hi q1)), (.int (0 : Int32)), (.ref u)])) rfl rfl (hb hby d2_19)
    have nr5 : nar .char (own_hi q1) = (own_hi q1) := own_nch _ (own_hich _)
    have ft5 : fits .char (.int (own_hi q1)) = true := nr5 ▸ (fits_nar_char (own_hi q1) : fits .char (.int (nar .char (own_hi q1))) = true)
    rw [nr5] at W5
    have E_u := E_u.wr W5
    have Z5 : n0 ≤ h5.size := Nat.le_trans Z1 (Keep.of_wr W5).1
    have O := O.wr W5 g_u
    have SFo := SF_u
    have SF_u := Safe.wr W5 SFo H SF_u
    have CR := CR.trans (CHr.wr W5 SFo H)
    have H := H.wr W5 SFo
    have hk := Nat.le_trans hk (Keep.of_wr W5).1
    have V_u : Arv Z h5 u k1 .char (4 : Int32) [(.int (own_hi q1)), (.int (0 : Int32)), (.int (0 : Int32)), (.int (0 : Int32))] (.int (0 : Int32)) := Arv.set Ar5 q5 Sz5 Ng5 Hs5 Ft5 ft5 W5 0 rfl (Nat.le_of_ble_eq_true rfl)
    have K5 := K1.wr W5 (Or.inr sz_u)
    have N5 := Fr.snoc X5 N4 g_u
    refine GoesW.pre (U' := T5.setTop (mkF m 23 #[.val (.int q0), .val (.int q1), .val (.int q2), .val (.ref u), .val (.int ((0 : Int32) + (1 : Int32)))] [])) (fun t k => st5 t (XT.iincV X5.here hx rfl (1 : Int32) (hb hby d2_20) (by decide) rfl (l' := #[.val (.int q0), .val (.int q1), .val (.int q2), .val (.ref u), .val (.int ((0 : Int32) + (1 : Int32)))]) rfl k)) ?_
    rw [(by decide : ((0 : Int32) + (1 : Int32)) = (1 : Int32))]
    refine GoesW.pre (U' := T5.setTop (mkF m 26 #[.val (.int q0), .val (.int q1), .val (.int q2), .val (.ref u), .val (.int (1 : Int32))] [(.int (65536 : Int32)), (.int q1)])) (fun t k => XS.iloadN X5.here hx rfl (hb hby d2_23) rfl (X5.ldcInt hx hown (mvT hZ (wq hw 4 rfl)) (g := (mkF m 24 #[.val (.int q0), .val (.int q1), .val (.int q2), .val (.ref u), .val (.int (1 : Int32))] [(.int q1)])) rfl (hb hby d2_24) _ k)) ?_
    by_cases hc26 : q1 < (65536 : Int32)
    ·
      refine GoesW.pre (U' := T5.setTop (mkF m 42 #[.val (.int q0), .val (.int q1), .val (.int q2), .val (.ref u), .val (.int (1 : Int32))] [(.int (2 : Int32)), (.int q0)])) (fun t k => XS.icmpYes X5.here hx rfl (pc0 := 26) (pc' := 40) rfl (hb hby d2_26) rfl (tlt hc26).1 (by decide) (by decide) (XS.iloadN X5.here hx rfl (hb hby d2_40) rfl (XS.iconst X5.here hx rfl (hb hby d2_41) k))) ?_
      by_cases hc42 : q0 < (2 : Int32)
      ·
        refine GoesW.pre (U' := T5.setTop (mkF m 76 #[.val (.int q0), .val (.int q1), .val (.int q2), .val (.ref u), .val (.int (1 : Int32))] [(.int (1 : Int32)), (.ref u)])) (fun t k => XS.icmpYes X5.here hx rfl (pc0 := 42) (pc' := 73) rfl (hb hby d2_42) rfl (tlt hc42).1 (by decide) (by decide) (XS.aloadN X5.here hx rfl (hb hby d2_73) rfl rfl (XS.iload X5.here hx rfl (hb hby d2_74) rfl k))) ?_
        obtain ⟨_, _, ⟨T6, L6, k6, n6⟩, -, X6, ⟨Lc6, hQ6, l6, y6, z6⟩, st6⟩ := Jvm.LawKit.callS X5 hx (y := (⟨"com/example/bnodiff/bnodiff/model/CodePointOrderComparePinLaw", "take", "([CI)Ljava/lang/String;"⟩ : MethodName)) hown (mvT hZ (wq hw 12 rfl)) (mvT hZ (wq hw 13 rfl)) (mvT hZ (wq hw 2 rfl)) (mvT hZ (wq hw 14 rfl)) (by decide) (backOf (W := 0) (rm_take1 l Z a0 hw [] u k1 (own_hi q1) (0 : Int32) (0 : Int32) (0 : Int32) cs h5 n0 Z5 V_u S_COMPACT_STRINGS S__assertionsDisabled S_HI_BYTE_SHIFT S_LO_BYTE_SHIFT (own_hich _) hcs O) hZ (wq hw 14 rfl) (wq hw 2 rfl) (by decide) (by decide)) (g := (mkF m 76 #[.val (.int q0), .val (.int q1), .val (.int q2), .val (.ref u), .val (.int (1 : Int32))] [(.int (1 : Int32)), (.ref u)])) rfl (by rw [hml]; rfl) (argsL := [(.ref u), (.int (1 : Int32))]) (rest := []) (lenOf pd__28_5bCI_29Ljava_2flang_2fString_3b rfl) rfl (by show 2 * 0 + _ ≤ _; exact Nat.le_of_eq rfl) (hb hby d2_76) (fun _ _ => ⟨rfl, e5, (by decide : 1 + 4 ≤ _), (by decide : 4 + 17 ≤ _)⟩)
        dsimp only [Pt.U, Pt.locs, Pt.cells, Pt.slots] at X6 l6 y6 z6 st6 hQ6
        subst l6 y6 z6
        obtain ⟨r6, b6, kb6, rfl, N6q, KQ6, fo0_6⟩ := hQ6
        have N6 := Fr.app N5 N6q
        have E_u := E_u.keep KQ6
        have V_u := V_u.keep KQ6 nin0
        have Z7 : n0 ≤ T6.heap.size := Nat.le_trans Z5 KQ6.1
        have O := O.keep KQ6 all0
        have hsafe := (all0 : ∀ x ∈ ([] : List Addr), Safe Z own_EL s.vm h5 x)
        have SF_u := Safe.keep KQ6 hsafe H SF_u
        have CR := CR.trans (CHr.keep KQ6 hsafe H)
        have H := H.keep KQ6 hsafe
        have hk := Nat.le_trans hk KQ6.1
        have K7 := K5.trans KQ6 all0
        have S_r6 := fo0_6
        refine GoesW.pre (U' := T6.setTop (mkF m 79 #[.val (.int q0), .val (.int q1), .val (.int q2), .val (.ref u), .val (.int (1 : Int32))] [(.ref r6)])) (fun t k => st6 t k) ?_
        refine GoesW.ret X6 hZ hEL hS hk H CR (v := (some (.ref r6))) (fun h => by rw [hret] at h; cases h) hlk (by decide) (by decide) rfl (fun fs hr => retOut X6 hx hret rfl (Or.inr (Or.inr (Or.inr (Or.inr ⟨rfl, rfl, rfl⟩)))) (hb hby d2_79) hr) ?_
        have eE : own_enc q0 q1 q2 = [(own_hi q1)] := by simp [own_enc, own_units, hc9, hc26, hc42]
        rw [← eE] at S_r6
        exact ⟨r6, b6, kb6, rfl, N6, K7, S_r6⟩
      ·
        refine GoesW.pre (U' := T5.setTop (mkF m 49 #[.val (.int q0), .val (.int q1), .val (.int q2), .val (.ref u), .val (.int (1 : Int32))] [(.int q2), (.int (1 : Int32)), (.ref u)])) (fun t k => XS.icmpNo X5.here hx rfl (hb hby d2_42) rfl (flt hc42).1 (XS.aloadN X5.here hx rfl (hb hby d2_45) rfl rfl (XS.iload X5.here hx rfl (hb hby d2_46) rfl (XS.iloadN X5.here hx rfl (hb hby d2_48) rfl k)))) ?_
        obtain ⟨_, _, ⟨T8, L8, k8, n8⟩, -, X8, ⟨Lc8, hQ8, l8, y8, z8⟩, st8⟩ := Jvm.LawKit.callS X5 hx (y := (⟨"com/example/bnodiff/bnodiff/model/CodePointOrderComparePinLaw", "hi", "(I)C"⟩ : MethodName)) hown (mvT hZ (wq hw 58 rfl)) (mvT hZ (wq hw 59 rfl)) (mvT hZ (wq hw 2 rfl)) (mvT hZ (wq hw 60 rfl)) (by decide) (backOf (W := 2) (rm_hi l Z a0 hw [] q2 h5 n0 Z5) hZ (wq hw 60 rfl) (wq hw 2 rfl) (by decide) (by decide)) (g := (mkF m 49 #[.val (.int q0), .val (.int q1), .val (.int q2), .val (.ref u), .val (.int (1 : Int32))] [(.int q2), (.int (1 : Int32)), (.ref u)])) rfl (by rw [hml]; rfl) (argsL := [(.int q2)]) (rest := [(.int (1 : Int32)), (.ref u)]) (lenOf pd__28I_29C rfl) rfl (by show 2 * 0 + _ ≤ _; exact Nat.le_of_eq rfl) (hb hby d2_49) (fun _ _ => ⟨rfl, e5, (by decide : 1 + 0 ≤ _), (by decide : 4 + 0 ≤ _)⟩)
        dsimp only [Pt.U, Pt.locs, Pt.cells, Pt.slots] at X8 l8 y8 z8 st8 hQ8
        subst l8 y8 z8
        obtain ⟨rfl, N8q, HQ8⟩ := hQ8
        have N8 := Fr.app N5 N8q
        refine GoesW.pre (U' := T8.setTop (mkF m 52 #[.val (.int q0), .val (.int q1), .val (.int q2), .val (.ref u), .val (.int (1 : Int32))] [(.int (own_hi q2)), (.int (1 : Int32)), (.ref u)])) (fun t k => st8 t k) ?_
        obtain ⟨cl9, Ar9, q9, Sz9, Ng9, Hs9, Ft9⟩ := id V_u
        obtain ⟨T9, h9, X9, e9, W9, st9⟩ := stC X8 hx hZ HQ8 Ar9 (j := (1 : Int32)) (inb_of Sz9 ⟨by decide, by decide⟩) (g := (mkF m 52 #[.val (.int q0), .val (.int q1), .val (.int q2), .val (.ref u), .val (.int (1 : Int32))] [(.int (own_hi q2)), (.int (1 : Int32)), (.ref u)])) rfl rfl (hb hby d2_52)
        have nr9 : nar .char (own_hi q2) = (own_hi q2) := own_nch _ (own_hich _)
        have ft9 : fits .char (.int (own_hi q2)) = true := nr9 ▸ (fits_nar_char (own_hi q2) : fits .char (.int (nar .char (own_hi q2))) = true)
        rw [nr9] at W9
        have E_u := E_u.wr W9
        have Z9 : n0 ≤ h9.size := Nat.le_trans Z5 (Keep.of_wr W9).1
        have O := O.wr W9 g_u
        have SFo := SF_u
        have SF_u := Safe.wr W9 SFo H SF_u
        have CR := CR.trans (CHr.wr W9 SFo H)
        have H := H.wr W9 SFo
        have hk := Nat.le_trans hk (Keep.of_wr W9).1
        have V_u : Arv Z h9 u k1 .char (4 : Int32) [(.int (own_hi q1)), (.int (own_hi q2)), (.int (0 : Int32)), (.int (0 : Int32))] (.int (0 : Int32)) := Arv.set Ar9 q9 Sz9 Ng9 Hs9 Ft9 ft9 W9 1 rfl (Nat.le_of_ble_eq_true rfl)
        have K9 := K5.wr W9 (Or.inr sz_u)
        have N9 := Fr.snoc X9 N8 g_u
        refine GoesW.pre (U' := T9.setTop (mkF m 56 #[.val (.int q0), .val (.int q1), .val (.int q2), .val (.ref u), .val (.int ((1 : Int32) + (1 : Int32)))] [])) (fun t k => st9 t (XT.iincV X9.here hx rfl (1 : Int32) (hb hby d2_53) (by decide) rfl (l' := #[.val (.int q0), .val (.int q1), .val (.int q2), .val (.ref u), .val (.int ((1 : Int32) + (1 : Int32)))]) rfl k)) ?_
        rw [(by decide : ((1 : Int32) + (1 : Int32)) = (2 : Int32))]
        refine GoesW.pre (U' := T9.setTop (mkF m 59 #[.val (.int q0), .val (.int q1), .val (.int q2), .val (.ref u), .val (.int (2 : Int32))] [(.int (65536 : Int32)), (.int q2)])) (fun t k => XS.iloadN X9.here hx rfl (hb hby d2_56) rfl (X9.ldcInt hx hown (mvT hZ (wq hw 4 rfl)) (g := (mkF m 57 #[.val (.int q0), .val (.int q1), .val (.int q2), .val (.ref u), .val (.int (2 : Int32))] [(.int q2)])) rfl (hb hby d2_57) _ k)) ?_
        by_cases hc59 : q2 < (65536 : Int32)
        ·
          refine GoesW.pre (U' := T9.setTop (mkF m 76 #[.val (.int q0), .val (.int q1), .val (.int q2), .val (.ref u), .val (.int (2 : Int32))] [(.int (2 : Int32)), (.ref u)])) (fun t k => XS.icmpYes X9.here hx rfl (pc0 := 59) (pc' := 73) rfl (hb hby d2_59) rfl (tlt hc59).1 (by decide) (by decide) (XS.aloadN X9.here hx rfl (hb hby d2_73) rfl rfl (XS.iload X9.here hx rfl (hb hby d2_74) rfl k))) ?_
          obtain ⟨_, _, ⟨T10, L10, k10, n10⟩, -, X10, ⟨Lc10, hQ10, l10, y10, z10⟩, st10⟩ := Jvm.LawKit.callS X9 hx (y := (⟨"com/example/bnodiff/bnodiff/model/CodePointOrderComparePinLaw", "take", "([CI)Ljava/lang/String;"⟩ : MethodName)) hown (mvT hZ (wq hw 12 rfl)) (mvT hZ (wq hw 13 rfl)) (mvT hZ (wq hw 2 rfl)) (mvT hZ (wq hw 14 rfl)) (by decide) (backOf (W := 0) (rm_take2 l Z a0 hw [] u k1 (own_hi q1) (own_hi q2) (0 : Int32) (0 : Int32) cs h9 n0 Z9 V_u S_COMPACT_STRINGS S__assertionsDisabled S_HI_BYTE_SHIFT S_LO_BYTE_SHIFT (own_hich _) (own_hich _) hcs O) hZ (wq hw 14 rfl) (wq hw 2 rfl) (by decide) (by decide)) (g := (mkF m 76 #[.val (.int q0), .val (.int q1), .val (.int q2), .val (.ref u), .val (.int (2 : Int32))] [(.int (2 : Int32)), (.ref u)])) rfl (by rw [hml]; rfl) (argsL := [(.ref u), (.int (2 : Int32))]) (rest := []) (lenOf pd__28_5bCI_29Ljava_2flang_2fString_3b rfl) rfl (by show 2 * 0 + _ ≤ _; exact Nat.le_of_eq rfl) (hb hby d2_76) (fun _ _ => ⟨rfl, e9, (by decide : 1 + 4 ≤ _), (by decide : 4 + 18 ≤ _)⟩)
          dsimp only [Pt.U, Pt.locs, Pt.cells, Pt.slots] at X10 l10 y10 z10 st10 hQ10
          subst l10 y10 z10
          obtain ⟨r10, b10, kb10, rfl, N10q, KQ10, fo0_10⟩ := hQ10
          have N10 := Fr.app N9 N10q
          have E_u := E_u.keep KQ10
          have V_u := V_u.keep KQ10 nin0
          have Z11 : n0 ≤ T10.heap.size := Nat.le_trans Z9 KQ10.1
          have O := O.keep KQ10 all0
          have hsafe := (all0 : ∀ x ∈ ([] : List Addr), Safe Z own_EL s.vm h9 x)
          have SF_u := Safe.keep KQ10 hsafe H SF_u
          have CR := CR.trans (CHr.keep KQ10 hsafe H)
          have H := H.keep KQ10 hsafe
          have hk := Nat.le_trans hk KQ10.1
          have K11 := K9.trans KQ10 all0
          have S_r10 := fo0_10
          refine GoesW.pre (U' := T10.setTop (mkF m 79 #[.val (.int q0), .val (.int q1), .val (.int q2), .val (.ref u), .val (.int (2 : Int32))] [(.ref r10)])) (fun t k => st10 t k) ?_
          refine GoesW.ret X10 hZ hEL hS hk H CR (v := (some (.ref r10))) (fun h => by rw [hret] at h; cases h) hlk (by decide) (by decide) rfl (fun fs hr => retOut X10 hx hret rfl (Or.inr (Or.inr (Or.inr (Or.inr ⟨rfl, rfl, rfl⟩)))) (hb hby d2_79) hr) ?_
          have eE : own_enc q0 q1 q2 = [(own_hi q1), (own_hi q2)] := by simp [own_enc, own_units, hc9, hc26, hc42, hc59]
          rw [← eE] at S_r10
          exact ⟨r10, b10, kb10, rfl, N10, K11, S_r10⟩
        ·
          refine GoesW.pre (U' := T9.setTop (mkF m 66 #[.val (.int q0), .val (.int q1), .val (.int q2), .val (.ref u), .val (.int (2 : Int32))] [(.int q2), (.int (2 : Int32)), (.ref u)])) (fun t k => XS.icmpNo X9.here hx rfl (hb hby d2_59) rfl (flt hc59).1 (XS.aloadN X9.here hx rfl (hb hby d2_62) rfl rfl (XS.iload X9.here hx rfl (hb hby d2_63) rfl (XS.iloadN X9.here hx rfl (hb hby d2_65) rfl k)))) ?_
          obtain ⟨_, _, ⟨T12, L12, k12, n12⟩, -, X12, ⟨Lc12, hQ12, l12, y12, z12⟩, st12⟩ := Jvm.LawKit.callS X9 hx (y := (⟨"com/example/bnodiff/bnodiff/model/CodePointOrderComparePinLaw", "lo", "(I)C"⟩ : MethodName)) hown (mvT hZ (wq hw 90 rfl)) (mvT hZ (wq hw 91 rfl)) (mvT hZ (wq hw 2 rfl)) (mvT hZ (wq hw 92 rfl)) (by decide) (backOf (W := 2) (rm_lo l Z a0 hw [] q2 h9 n0 Z9) hZ (wq hw 92 rfl) (wq hw 2 rfl) (by decide) (by decide)) (g := (mkF m 66 #[.val (.int q0), .val (.int q1), .val (.int q2), .val (.ref u), .val (.int (2 : Int32))] [(.int q2), (.int (2 : Int32)), (.ref u)])) rfl (by rw [hml]; rfl) (argsL := [(.int q2)]) (rest := [(.int (2 : Int32)), (.ref u)]) (lenOf pd__28I_29C rfl) rfl (by show 2 * 0 + _ ≤ _; exact Nat.le_of_eq rfl) (hb hby d2_66) (fun _ _ => ⟨rfl, e9, (by decide : 1 + 0 ≤ _), (by decide : 4 + 0 ≤ _)⟩)
          dsimp only [Pt.U, Pt.locs, Pt.cells, Pt.slots] at X12 l12 y12 z12 st12 hQ12
          subst l12 y12 z12
          obtain ⟨rfl, N12q, HQ12⟩ := hQ12
          have N12 := Fr.app N9 N12q
          refine GoesW.pre (U' := T12.setTop (mkF m 69 #[.val (.int q0), .val (.int q1), .val (.int q2), .val (.ref u), .val (.int (2 : Int32))] [(.int (own_lo q2)), (.int (2 : Int32)), (.ref u)])) (fun t k => st12 t k) ?_
          obtain ⟨cl13, Ar13, q13, Sz13, Ng13, Hs13, Ft13⟩ := id V_u
          obtain ⟨T13, h13, X13, e13, W13, st13⟩ := stC X12 hx hZ HQ12 Ar13 (j := (2 : Int32)) (inb_of Sz13 ⟨by decide, by decide⟩) (g := (mkF m 69 #[.val (.int q0), .val (.int q1), .val (.int q2), .val (.ref u), .val (.int (2 : Int32))] [(.int (own_lo q2)), (.int (2 : Int32)), (.ref u)])) rfl rfl (hb hby d2_69)
          have nr13 : nar .char (own_lo q2) = (own_lo q2) := own_nch _ (own_loch _)
          have ft13 : fits .char (.int (own_lo q2)) = true := nr13 ▸ (fits_nar_char (own_lo q2) : fits .char (.int (nar .char (own_lo q2))) = true)
          rw [nr13] at W13
          have E_u := E_u.wr W13
          have Z13 : n0 ≤ h13.size := Nat.le_trans Z9 (Keep.of_wr W13).1
          have O := O.wr W13 g_u
          have SFo := SF_u
          have SF_u := Safe.wr W13 SFo H SF_u
          have CR := CR.trans (CHr.wr W13 SFo H)
          have H := H.wr W13 SFo
          have hk := Nat.le_trans hk (Keep.of_wr W13).1
          have V_u : Arv Z h13 u k1 .char (4 : Int32) [(.int (own_hi q1)), (.int (own_hi q2)), (.int (own_lo q2)), (.int (0 : Int32))] (.int (0 : Int32)) := Arv.set Ar13 q13 Sz13 Ng13 Hs13 Ft13 ft13 W13 2 rfl (Nat.le_of_ble_eq_true rfl)
          have K13 := K9.wr W13 (Or.inr sz_u)
          have N13 := Fr.snoc X13 N12 g_u
          refine GoesW.pre (U' := T13.setTop (mkF m 73 #[.val (.int q0), .val (.int q1), .val (.int q2), .val (.ref u), .val (.int ((2 : Int32) + (1 : Int32)))] [])) (fun t k => st13 t (XT.iincV X13.here hx rfl (1 : Int32) (hb hby d2_70) (by decide) rfl (l' := #[.val (.int q0), .val (.int q1), .val (.int q2), .val (.ref u), .val (.int ((2 : Int32) + (1 : Int32)))]) rfl k)) ?_
          rw [(by decide : ((2 : Int32) + (1 : Int32)) = (3 : Int32))]
          refine GoesW.pre (U' := T13.setTop (mkF m 76 #[.val (.int q0), .val (.int q1), .val (.int q2), .val (.ref u), .val (.int (3 : Int32))] [(.int (3 : Int32)), (.ref u)])) (fun t k => XS.aloadN X13.here hx rfl (hb hby d2_73) rfl rfl (XS.iload X13.here hx rfl (hb hby d2_74) rfl k)) ?_
          obtain ⟨_, _, ⟨T14, L14, k14, n14⟩, -, X14, ⟨Lc14, hQ14, l14, y14, z14⟩, st14⟩ := Jvm.LawKit.callS X13 hx (y := (⟨"com/example/bnodiff/bnodiff/model/CodePointOrderComparePinLaw", "take", "([CI)Ljava/lang/String;"⟩ : MethodName)) hown (mvT hZ (wq hw 12 rfl)) (mvT hZ (wq hw 13 rfl)) (mvT hZ (wq hw 2 rfl)) (mvT hZ (wq hw 14 rfl)) (by decide) (backOf (W := 0) (rm_take3 l Z a0 hw [] u k1 (own_hi q1) (own_hi q2) (own_lo q2) (0 : Int32) cs h13 n0 Z13 V_u S_COMPACT_STRINGS S__assertionsDisabled S_HI_BYTE_SHIFT S_LO_BYTE_SHIFT (own_hich _) (own_hich _) (own_loch _) hcs O) hZ (wq hw 14 rfl) (wq hw 2 rfl) (by decide) (by decide)) (g := (mkF m 76 #[.val (.int q0), .val (.int q1), .val (.int q2), .val (.ref u), .val (.int (3 : Int32))] [(.int (3 : Int32)), (.ref u)])) rfl (by rw [hml]; rfl) (argsL := [(.ref u), (.int (3 : Int32))]) (rest := []) (lenOf pd__28_5bCI_29Ljava_2flang_2fString_3b rfl) rfl (by show 2 * 0 + _ ≤ _; exact Nat.le_of_eq rfl) (hb hby d2_76) (fun _ _ => ⟨rfl, e13, (by decide : 1 + 4 ≤ _), (by decide : 4 + 19 ≤ _)⟩)
          dsimp only [Pt.U, Pt.locs, Pt.cells, Pt.slots] at X14 l14 y14 z14 st14 hQ14
          subst l14 y14 z14
          obtain ⟨r14, b14, kb14, rfl, N14q, KQ14, fo0_14⟩ := hQ14
          have N14 := Fr.app N13 N14q
          have E_u := E_u.keep KQ14
          have V_u := V_u.keep KQ14 nin0
          have Z15 : n0 ≤ T14.heap.size := Nat.le_trans Z13 KQ14.1
          have O := O.keep KQ14 all0
          have hsafe := (all0 : ∀ x ∈ ([] : List Addr), Safe Z own_EL s.vm h13 x)
          have SF_u := Safe.keep KQ14 hsafe H SF_u
          have CR := CR.trans (CHr.keep KQ14 hsafe H)
          have H := H.keep KQ14 hsafe
          have hk := Nat.le_trans hk KQ14.1
          have K15 := K13.trans KQ14 all0
          have S_r14 := fo0_14
          refine GoesW.pre (U' := T14.setTop (mkF m 79 #[.val (.int q0), .val (.int q1), .val (.int q2), .val (.ref u), .val (.int (3 : Int32))] [(.ref r14)])) (fun t k => st14 t k) ?_
          refine GoesW.ret X14 hZ hEL hS hk H CR (v := (some (.ref r14))) (fun h => by rw [hret] at h; cases h) hlk (by decide) (by decide) rfl (fun fs hr => retOut X14 hx hret rfl (Or.inr (Or.inr (Or.inr (Or.inr ⟨rfl, rfl, rfl⟩)))) (hb hby d2_79) hr) ?_
          have eE : own_enc q0 q1 q2 = [(own_hi q1), (own_hi q2), (own_lo q2)] := by simp [own_enc, own_units, hc9, hc26, hc42, hc59]
          rw [← eE] at S_r14
          exact ⟨r14, b14, kb14, rfl, N14, K15, S_r14⟩
    ·
      refine GoesW.pre (U' := T5.setTop (mkF m 33 #[.val (.int q0), .val (.int q1), .val (.int q2), .val (.ref u), .val (.int (1 : Int32))] [(.int q1), (.int (1 : Int32)), (.ref u)])) (fun t k => XS.icmpNo X5.here hx rfl (hb hby d2_26) rfl (flt hc26).1 (XS.aloadN X5.here hx rfl (hb hby d2_29) rfl rfl (XS.iload X5.here hx rfl (hb hby d2_30) rfl (XS.iloadN X5.here hx rfl (hb hby d2_32) rfl k)))) ?_
      obtain ⟨_, _, ⟨T16, L16, k16, n16⟩, -, X16, ⟨Lc16, hQ16, l16, y16, z16⟩, st16⟩ := Jvm.LawKit.callS X5 hx (y := (⟨"com/example/bnodiff/bnodiff/model/CodePointOrderComparePinLaw", "lo", "(I)C"⟩ : MethodName)) hown (mvT hZ (wq hw 90 rfl)) (mvT hZ (wq hw 91 rfl)) (mvT hZ (wq hw 2 rfl)) (mvT hZ (wq hw 92 rfl)) (by decide) (backOf (W := 2) (rm_lo l Z a0 hw [] q1 h5 n0 Z5) hZ (wq hw 92 rfl) (wq hw 2 rfl) (by decide) (by decide)) (g := (mkF m 33 #[.val (.int q0), .val (.int q1), .val (.int q2), .val (.ref u), .val (.int (1 : Int32))] [(.int q1), (.int (1 : Int32)), (.ref u)])) rfl (by rw [hml]; rfl) (argsL := [(.int q1)]) (rest := [(.int (1 : Int32)), (.ref u)]) (lenOf pd__28I_29C rfl) rfl (by show 2 * 0 + _ ≤ _; exact Nat.le_of_eq rfl) (hb hby d2_33) (fun _ _ => ⟨rfl, e5, (by decide : 1 + 0 ≤ _), (by decide : 4 + 0 ≤ _)⟩)
      dsimp only [Pt.U, Pt.locs, Pt.cells, Pt.slots] at X16 l16 y16 z16 st16 hQ16
      subst l16 y16 z16
      obtain ⟨rfl, N16q, HQ16⟩ := hQ16
      have N16 := Fr.app N5 N16q
      refine GoesW.pre (U' := T16.setTop (mkF m 36 #[.val (.int q0), .val (.int q1), .val (.int q2), .val (.ref u), .val (.int (1 : Int32))] [(.int (own_lo q1)), (.int (1 : Int32)), (.ref u)])) (fun t k => st16 t k) ?_
      obtain ⟨cl17, Ar17, q17, Sz17, Ng17, Hs17, Ft17⟩ := id V_u
      obtain ⟨T17, h17, X17, e17, W17, st17⟩ := stC X16 hx hZ HQ16 Ar17 (j := (1 : Int32)) (inb_of Sz17 ⟨by decide, by decide⟩) (g := (mkF m 36 #[.val (.int q0), .val (.int q1), .val (.int q2), .val (.ref u), .val (.int (1 : Int32))] [(.int (own_lo q1)), (.int (1 : Int32)), (.ref u)])) rfl rfl (hb hby d2_36)
      have nr17 : nar .char (own_lo q1) = (own_lo q1) := own_nch _ (own_loch _)
      have ft17 : fits .char (.int (own_lo q1)) = true := nr17 ▸ (fits_nar_char (own_lo q1) : fits .char (.int (nar .char (own_lo q1))) = true)
      rw [nr17] at W17
      have E_u := E_u.wr W17
      have Z17 : n0 ≤ h17.size := Nat.le_trans Z5 (Keep.of_wr W17).1
      have O := O.wr W17 g_u
      have SFo := SF_u
      have SF_u := Safe.wr W17 SFo H SF_u
      have CR := CR.trans (CHr.wr W17 SFo H)
      have H := H.wr W17 SFo
      have hk := Nat.le_trans hk (Keep.of_wr W17).1
      have V_u : Arv Z h17 u k1 .char (4 : Int32) [(.int (own_hi q1)), (.int (own_lo q1)), (.int (0 : Int32)), (.int (0 : Int32))] (.int (0 : Int32)) := Arv.set Ar17 q17 Sz17 Ng17 Hs17 Ft17 ft17 W17 1 rfl (Nat.le_of_ble_eq_true rfl)
      have K17 := K5.wr W17 (Or.inr sz_u)
      have N17 := Fr.snoc X17 N16 g_u
      refine GoesW.pre (U' := T17.setTop (mkF m 40 #[.val (.int q0), .val (.int q1), .val (.int q2), .val (.ref u), .val (.int ((1 : Int32) + (1 : Int32)))] [])) (fun t k => st17 t (XT.iincV X17.here hx rfl (1 : Int32) (hb hby d2_37) (by decide) rfl (l' := #[.val (.int q0), .val (.int q1), .val (.int q2), .val (.ref u), .val (.int ((1 : Int32) + (1 : Int32)))]) rfl k)) ?_
      rw [(by decide : ((1 : Int32) + (1 : Int32)) = (2 : Int32))]
      refine GoesW.pre (U' := T17.setTop (mkF m 42 #[.val (.int q0), .val (.int q1), .val (.int q2), .val (.ref u), .val (.int (2 : Int32))] [(.int (2 : Int32)), (.int q0)])) (fun t k => XS.iloadN X17.here hx rfl (hb hby d2_40) rfl (XS.iconst X17.here hx rfl (hb hby d2_41) k)) ?_
      by_cases hc42 : q0 < (2 : Int32)
      ·
        refine GoesW.pre (U' := T17.setTop (mkF m 76 #[.val (.int q0), .val (.int q1), .val (.int q2), .val (.ref u), .val (.int (2 : Int32))] [(.int (2 : Int32)), (.ref u)])) (fun t k => XS.icmpYes X17.here hx rfl (pc0 := 42) (pc' := 73) rfl (hb hby d2_42) rfl (tlt hc42).1 (by decide) (by decide) (XS.aloadN X17.here hx rfl (hb hby d2_73) rfl rfl (XS.iload X17.here hx rfl (hb hby d2_74) rfl k))) ?_
        obtain ⟨_, _, ⟨T18, L18, k18, n18⟩, -, X18, ⟨Lc18, hQ18, l18, y18, z18⟩, st18⟩ := Jvm.LawKit.callS X17 hx (y := (⟨"com/example/bnodiff/bnodiff/model/CodePointOrderComparePinLaw", "take", "([CI)Ljava/lang/String;"⟩ : MethodName)) hown (mvT hZ (wq hw 12 rfl)) (mvT hZ (wq hw 13 rfl)) (mvT hZ (wq hw 2 rfl)) (mvT hZ (wq hw 14 rfl)) (by decide) (backOf (W := 0) (rm_take2 l Z a0 hw [] u k1 (own_hi q1) (own_lo q1) (0 : Int32) (0 : Int32) cs h17 n0 Z17 V_u S_COMPACT_STRINGS S__assertionsDisabled S_HI_BYTE_SHIFT S_LO_BYTE_SHIFT (own_hich _) (own_loch _) hcs O) hZ (wq hw 14 rfl) (wq hw 2 rfl) (by decide) (by decide)) (g := (mkF m 76 #[.val (.int q0), .val (.int q1), .val (.int q2), .val (.ref u), .val (.int (2 : Int32))] [(.int (2 : Int32)), (.ref u)])) rfl (by rw [hml]; rfl) (argsL := [(.ref u), (.int (2 : Int32))]) (rest := []) (lenOf pd__28_5bCI_29Ljava_2flang_2fString_3b rfl) rfl (by show 2 * 0 + _ ≤ _; exact Nat.le_of_eq rfl) (hb hby d2_76) (fun _ _ => ⟨rfl, e17, (by decide : 1 + 4 ≤ _), (by decide : 4 + 18 ≤ _)⟩)
        dsimp only [Pt.U, Pt.locs, Pt.cells, Pt.slots] at X18 l18 y18 z18 st18 hQ18
        subst l18 y18 z18
        obtain ⟨r18, b18, kb18, rfl, N18q, KQ18, fo0_18⟩ := hQ18
        have N18 := Fr.app N17 N18q
        have E_u := E_u.keep KQ18
        have V_u := V_u.keep KQ18 nin0
        have Z19 : n0 ≤ T18.heap.size := Nat.le_trans Z17 KQ18.1
        have O := O.keep KQ18 all0
        have hsafe := (all0 : ∀ x ∈ ([] : List Addr), Safe Z own_EL s.vm h17 x)
        have SF_u := Safe.keep KQ18 hsafe H SF_u
        have CR := CR.trans (CHr.keep KQ18 hsafe H)
        have H := H.keep KQ18 hsafe
        have hk := Nat.le_trans hk KQ18.1
        have K19 := K17.trans KQ18 all0
        have S_r18 := fo0_18
        refine GoesW.pre (U' := T18.setTop (mkF m 79 #[.val (.int q0), .val (.int q1), .val (.int q2), .val (.ref u), .val (.int (2 : Int32))] [(.ref r18)])) (fun t k => st18 t k) ?_
        refine GoesW.ret X18 hZ hEL hS hk H CR (v := (some (.ref r18))) (fun h => by rw [hret] at h; cases h) hlk (by decide) (by decide) rfl (fun fs hr => retOut X18 hx hret rfl (Or.inr (Or.inr (Or.inr (Or.inr ⟨rfl, rfl, rfl⟩)))) (hb hby d2_79) hr) ?_
        have eE : own_enc q0 q1 q2 = [(own_hi q1), (own_lo q1)] := by simp [own_enc, own_units, hc9, hc26, hc42]
        rw [← eE] at S_r18
        exact ⟨r18, b18, kb18, rfl, N18, K19, S_r18⟩
      ·
        refine GoesW.pre (U' := T17.setTop (mkF m 49 #[.val (.int q0), .val (.int q1), .val (.int q2), .val (.ref u), .val (.int (2 : Int32))] [(.int q2), (.int (2 : Int32)), (.ref u)])) (fun t k => XS.icmpNo X17.here hx rfl (hb hby d2_42) rfl (flt hc42).1 (XS.aloadN X17.here hx rfl (hb hby d2_45) rfl rfl (XS.iload X17.here hx rfl (hb hby d2_46) rfl (XS.iloadN X17.here hx rfl (hb hby d2_48) rfl k)))) ?_
        obtain ⟨_, _, ⟨T20, L20, k20, n20⟩, -, X20, ⟨Lc20, hQ20, l20, y20, z20⟩, st20⟩ := Jvm.LawKit.callS X17 hx (y := (⟨"com/example/bnodiff/bnodiff/model/CodePointOrderComparePinLaw", "hi", "(I)C"⟩ : MethodName)) hown (mvT hZ (wq hw 58 rfl)) (mvT hZ (wq hw 59 rfl)) (mvT hZ (wq hw 2 rfl)) (mvT hZ (wq hw 60 rfl)) (by decide) (backOf (W := 2) (rm_hi l Z a0 hw [] q2 h17 n0 Z17) hZ (wq hw 60 rfl) (wq hw 2 rfl) (by decide) (by decide)) (g := (mkF m 49 #[.val (.int q0), .val (.int q1), .val (.int q2), .val (.ref u), .val (.int (2 : Int32))] [(.int q2), (.int (2 : Int32)), (.ref u)])) rfl (by rw [hml]; rfl) (argsL := [(.int q2)]) (rest := [(.int (2 : Int32)), (.ref u)]) (lenOf pd__28I_29C rfl) rfl (by show 2 * 0 + _ ≤ _; exact Nat.le_of_eq rfl) (hb hby d2_49) (fun _ _ => ⟨rfl, e17, (by decide : 1 + 0 ≤ _), (by decide : 4 + 0 ≤ _)⟩)
        dsimp only [Pt.U, Pt.locs, Pt.cells, Pt.slots] at X20 l20 y20 z20 st20 hQ20
        subst l20 y20 z20
        obtain ⟨rfl, N20q, HQ20⟩ := hQ20
        have N20 := Fr.app N17 N20q
        refine GoesW.pre (U' := T20.setTop (mkF m 52 #[.val (.int q0), .val (.int q1), .val (.int q2), .val (.ref u), .val (.int (2 : Int32))] [(.int (own_hi q2)), (.int (2 : Int32)), (.ref u)])) (fun t k => st20 t k) ?_
        obtain ⟨cl21, Ar21, q21, Sz21, Ng21, Hs21, Ft21⟩ := id V_u
        obtain ⟨T21, h21, X21, e21, W21, st21⟩ := stC X20 hx hZ HQ20 Ar21 (j := (2 : Int32)) (inb_of Sz21 ⟨by decide, by decide⟩) (g := (mkF m 52 #[.val (.int q0), .val (.int q1), .val (.int q2), .val (.ref u), .val (.int (2 : Int32))] [(.int (own_hi q2)), (.int (2 : Int32)), (.ref u)])) rfl rfl (hb hby d2_52)
        have nr21 : nar .char (own_hi q2) = (own_hi q2) := own_nch _ (own_hich _)
        have ft21 : fits .char (.int (own_hi q2)) = true := nr21 ▸ (fits_nar_char (own_hi q2) : fits .char (.int (nar .char (own_hi q2))) = true)
        rw [nr21] at W21
        have E_u := E_u.wr W21
        have Z21 : n0 ≤ h21.size := Nat.le_trans Z17 (Keep.of_wr W21).1
        have O := O.wr W21 g_u
        have SFo := SF_u
        have SF_u := Safe.wr W21 SFo H SF_u
        have CR := CR.trans (CHr.wr W21 SFo H)
        have H := H.wr W21 SFo
        have hk := Nat.le_trans hk (Keep.of_wr W21).1
        have V_u : Arv Z h21 u k1 .char (4 : Int32) [(.int (own_hi q1)), (.int (own_lo q1)), (.int (own_hi q2)), (.int (0 : Int32))] (.int (0 : Int32)) := Arv.set Ar21 q21 Sz21 Ng21 Hs21 Ft21 ft21 W21 2 rfl (Nat.le_of_ble_eq_true rfl)
        have K21 := K17.wr W21 (Or.inr sz_u)
        have N21 := Fr.snoc X21 N20 g_u
        refine GoesW.pre (U' := T21.setTop (mkF m 56 #[.val (.int q0), .val (.int q1), .val (.int q2), .val (.ref u), .val (.int ((2 : Int32) + (1 : Int32)))] [])) (fun t k => st21 t (XT.iincV X21.here hx rfl (1 : Int32) (hb hby d2_53) (by decide) rfl (l' := #[.val (.int q0), .val (.int q1), .val (.int q2), .val (.ref u), .val (.int ((2 : Int32) + (1 : Int32)))]) rfl k)) ?_
        rw [(by decide : ((2 : Int32) + (1 : Int32)) = (3 : Int32))]
        refine GoesW.pre (U' := T21.setTop (mkF m 59 #[.val (.int q0), .val (.int q1), .val (.int q2), .val (.ref u), .val (.int (3 : Int32))] [(.int (65536 : Int32)), (.int q2)])) (fun t k => XS.iloadN X21.here hx rfl (hb hby d2_56) rfl (X21.ldcInt hx hown (mvT hZ (wq hw 4 rfl)) (g := (mkF m 57 #[.val (.int q0), .val (.int q1), .val (.int q2), .val (.ref u), .val (.int (3 : Int32))] [(.int q2)])) rfl (hb hby d2_57) _ k)) ?_
        by_cases hc59 : q2 < (65536 : Int32)
        ·
          refine GoesW.pre (U' := T21.setTop (mkF m 76 #[.val (.int q0), .val (.int q1), .val (.int q2), .val (.ref u), .val (.int (3 : Int32))] [(.int (3 : Int32)), (.ref u)])) (fun t k => XS.icmpYes X21.here hx rfl (pc0 := 59) (pc' := 73) rfl (hb hby d2_59) rfl (tlt hc59).1 (by decide) (by decide) (XS.aloadN X21.here hx rfl (hb hby d2_73) rfl rfl (XS.iload X21.here hx rfl (hb hby d2_74) rfl k))) ?_
          obtain ⟨_, _, ⟨T22, L22, k22, n22⟩, -, X22, ⟨Lc22, hQ22, l22, y22, z22⟩, st22⟩ := Jvm.LawKit.callS X21 hx (y := (⟨"com/example/bnodiff/bnodiff/model/CodePointOrderComparePinLaw", "take", "([CI)Ljava/lang/String;"⟩ : MethodName)) hown (mvT hZ (wq hw 12 rfl)) (mvT hZ (wq hw 13 rfl)) (mvT hZ (wq hw 2 rfl)) (mvT hZ (wq hw 14 rfl)) (by decide) (backOf (W := 0) (rm_take3 l Z a0 hw [] u k1 (own_hi q1) (own_lo q1) (own_hi q2) (0 : Int32) cs h21 n0 Z21 V_u S_COMPACT_STRINGS S__assertionsDisabled S_HI_BYTE_SHIFT S_LO_BYTE_SHIFT (own_hich _) (own_loch _) (own_hich _) hcs O) hZ (wq hw 14 rfl) (wq hw 2 rfl) (by decide) (by decide)) (g := (mkF m 76 #[.val (.int q0), .val (.int q1), .val (.int q2), .val (.ref u), .val (.int (3 : Int32))] [(.int (3 : Int32)), (.ref u)])) rfl (by rw [hml]; rfl) (argsL := [(.ref u), (.int (3 : Int32))]) (rest := []) (lenOf pd__28_5bCI_29Ljava_2flang_2fString_3b rfl) rfl (by show 2 * 0 + _ ≤ _; exact Nat.le_of_eq rfl) (hb hby d2_76) (fun _ _ => ⟨rfl, e21, (by decide : 1 + 4 ≤ _), (by decide : 4 + 19 ≤ _)⟩)
          dsimp only [Pt.U, Pt.locs, Pt.cells, Pt.slots] at X22 l22 y22 z22 st22 hQ22
          subst l22 y22 z22
          obtain ⟨r22, b22, kb22, rfl, N22q, KQ22, fo0_22⟩ := hQ22
          have N22 := Fr.app N21 N22q
          have E_u := E_u.keep KQ22
          have V_u := V_u.keep KQ22 nin0
          have Z23 : n0 ≤ T22.heap.size := Nat.le_trans Z21 KQ22.1
          have O := O.keep KQ22 all0
          have hsafe := (all0 : ∀ x ∈ ([] : List Addr), Safe Z own_EL s.vm h21 x)
          have SF_u := Safe.keep KQ22 hsafe H SF_u
          have CR := CR.trans (CHr.keep KQ22 hsafe H)
          have H := H.keep KQ22 hsafe
          have hk := Nat.le_trans hk KQ22.1
          have K23 := K21.trans KQ22 all0
          have S_r22 := fo0_22
          refine GoesW.pre (U' := T22.setTop (mkF m 79 #[.val (.int q0), .val (.int q1), .val (.int q2), .val (.ref u), .val (.int (3 : Int32))] [(.ref r22)])) (fun t k => st22 t k) ?_
          refine GoesW.ret X22 hZ hEL hS hk H CR (v := (some (.ref r22))) (fun h => by rw [hret] at h; cases h) hlk (by decide) (by decide) rfl (fun fs hr => retOut X22 hx hret rfl (Or.inr (Or.inr (Or.inr (Or.inr ⟨rfl, rfl, rfl⟩)))) (hb hby d2_79) hr) ?_
          have eE : own_enc q0 q1 q2 = [(own_hi q1), (own_lo q1), (own_hi q2)] := by simp [own_enc, own_units, hc9, hc26, hc42, hc59]
          rw [← eE] at S_r22
          exact ⟨r22, b22, kb22, rfl, N22, K23, S_r22⟩
        ·
          refine GoesW.pre (U' := T21.setTop (mkF m 66 #[.val (.int q0), .val (.int q1), .val (.int q2), .val (.ref u), .val (.int (3 : Int32))] [(.int q2), (.int (3 : Int32)), (.ref u)])) (fun t k => XS.icmpNo X21.here hx rfl (hb hby d2_59) rfl (flt hc59).1 (XS.aloadN X21.here hx rfl (hb hby d2_62) rfl rfl (XS.iload X21.here hx rfl (hb hby d2_63) rfl (XS.iloadN X21.here hx rfl (hb hby d2_65) rfl k)))) ?_
          obtain ⟨_, _, ⟨T24, L24, k24, n24⟩, -, X24, ⟨Lc24, hQ24, l24, y24, z24⟩, st24⟩ := Jvm.LawKit.callS X21 hx (y := (⟨"com/example/bnodiff/bnodiff/model/CodePointOrderComparePinLaw", "lo", "(I)C"⟩ : MethodName)) hown (mvT hZ (wq hw 90 rfl)) (mvT hZ (wq hw 91 rfl)) (mvT hZ (wq hw 2 rfl)) (mvT hZ (wq hw 92 rfl)) (by decide) (backOf (W := 2) (rm_lo l Z a0 hw [] q2 h21 n0 Z21) hZ (wq hw 92 rfl) (wq hw 2 rfl) (by decide) (by decide)) (g := (mkF m 66 #[.val (.int q0), .val (.int q1), .val (.int q2), .val (.ref u), .val (.int (3 : Int32))] [(.int q2), (.int (3 : Int32)), (.ref u)])) rfl (by rw [hml]; rfl) (argsL := [(.int q2)]) (rest := [(.int (3 : Int32)), (.ref u)]) (lenOf pd__28I_29C rfl) rfl (by show 2 * 0 + _ ≤ _; exact Nat.le_of_eq rfl) (hb hby d2_66) (fun _ _ => ⟨rfl, e21, (by decide : 1 + 0 ≤ _), (by decide : 4 + 0 ≤ _)⟩)
          dsimp only [Pt.U, Pt.locs, Pt.cells, Pt.slots] at X24 l24 y24 z24 st24 hQ24
          subst l24 y24 z24
          obtain ⟨rfl, N24q, HQ24⟩ := hQ24
          have N24 := Fr.app N21 N24q
          refine GoesW.pre (U' := T24.setTop (mkF m 69 #[.val (.int q0), .val (.int q1), .val (.int q2), .val (.ref u), .val (.int (3 : Int32))] [(.int (own_lo q2)), (.int (3 : Int32)), (.ref u)])) (fun t k => st24 t k) ?_
          obtain ⟨cl25, Ar25, q25, Sz25, Ng25, Hs25, Ft25⟩ := id V_u
          obtain ⟨T25, h25, X25, e25, W25, st25⟩ := stC X24 hx hZ HQ24 Ar25 (j := (3 : Int32)) (inb_of Sz25 ⟨by decide, by decide⟩) (g := (mkF m 69 #[.val (.int q0), .val (.int q1), .val (.int q2), .val (.ref u), .val (.int (3 : Int32))] [(.int (own_lo q2)), (.int (3 : Int32)), (.ref u)])) rfl rfl (hb hby d2_69)
          have nr25 : nar .char (own_lo q2) = (own_lo q2) := own_nch _ (own_loch _)
          have ft25 : fits .char (.int (own_lo q2)) = true := nr25 ▸ (fits_nar_char (own_lo q2) : fits .char (.int (nar .char (own_lo q2))) = true)
          rw [nr25] at W25
          have E_u := E_u.wr W25
          have Z25 : n0 ≤ h25.size := Nat.le_trans Z21 (Keep.of_wr W25).1
          have O := O.wr W25 g_u
          have SFo := SF_u
          have SF_u := Safe.wr W25 SFo H SF_u
          have CR := CR.trans (CHr.wr W25 SFo H)
          have H := H.wr W25 SFo
          have hk := Nat.le_trans hk (Keep.of_wr W25).1
          have V_u : Arv Z h25 u k1 .char (4 : Int32) [(.int (own_hi q1)), (.int (own_lo q1)), (.int (own_hi q2)), (.int (own_lo q2))] (.int (0 : Int32)) := Arv.set Ar25 q25 Sz25 Ng25 Hs25 Ft25 ft25 W25 3 rfl (Nat.le_of_ble_eq_true rfl)
          have K25 := K21.wr W25 (Or.inr sz_u)
          have N25 := Fr.snoc X25 N24 g_u
          refine GoesW.pre (U' := T25.setTop (mkF m 73 #[.val (.int q0), .val (.int q1), .val (.int q2), .val (.ref u), .val (.int ((3 : Int32) + (1 : Int32)))] [])) (fun t k => st25 t (XT.iincV X25.here hx rfl (1 : Int32) (hb hby d2_70) (by decide) rfl (l' := #[.val (.int q0), .val (.int q1), .val (.int q2), .val (.ref u), .val (.int ((3 : Int32) + (1 : Int32)))]) rfl k)) ?_
          rw [(by decide : ((3 : Int32) + (1 : Int32)) = (4 : Int32))]
          refine GoesW.pre (U' := T25.setTop (mkF m 76 #[.val (.int q0), .val (.int q1), .val (.int q2), .val (.ref u), .val (.int (4 : Int32))] [(.int (4 : Int32)), (.ref u)])) (fun t k => XS.aloadN X25.here hx rfl (hb hby d2_73) rfl rfl (XS.iload X25.here hx rfl (hb hby d2_74) rfl k)) ?_
          obtain ⟨_, _, ⟨T26, L26, k26, n26⟩, -, X26, ⟨Lc26, hQ26, l26, y26, z26⟩, st26⟩ := Jvm.LawKit.callS X25 hx (y := (⟨"com/example/bnodiff/bnodiff/model/CodePointOrderComparePinLaw", "take", "([CI)Ljava/lang/String;"⟩ : MethodName)) hown (mvT hZ (wq hw 12 rfl)) (mvT hZ (wq hw 13 rfl)) (mvT hZ (wq hw 2 rfl)) (mvT hZ (wq hw 14 rfl)) (by decide) (backOf (W := 0) (rm_take4 l Z a0 hw [] u k1 (own_hi q1) (own_lo q1) (own_hi q2) (own_lo q2) cs h25 n0 Z25 V_u S_COMPACT_STRINGS S__assertionsDisabled S_HI_BYTE_SHIFT S_LO_BYTE_SHIFT (own_hich _) (own_loch _) (own_hich _) (own_loch _) hcs O) hZ (wq hw 14 rfl) (wq hw 2 rfl) (by decide) (by decide)) (g := (mkF m 76 #[.val (.int q0), .val (.int q1), .val (.int q2), .val (.ref u), .val (.int (4 : Int32))] [(.int (4 : Int32)), (.ref u)])) rfl (by rw [hml]; rfl) (argsL := [(.ref u), (.int (4 : Int32))]) (rest := []) (lenOf pd__28_5bCI_29Ljava_2flang_2fString_3b rfl) rfl (by show 2 * 0 + _ ≤ _; exact Nat.le_of_eq rfl) (hb hby d2_76) (fun _ _ => ⟨rfl, e25, (by decide : 1 + 4 ≤ _), (by decide : 4 + 20 ≤ _)⟩)
          dsimp only [Pt.U, Pt.locs, Pt.cells, Pt.slots] at X26 l26 y26 z26 st26 hQ26
          subst l26 y26 z26
          obtain ⟨r26, b26, kb26, rfl, N26q, KQ26, fo0_26⟩ := hQ26
          have N26 := Fr.app N25 N26q
          have E_u := E_u.keep KQ26
          have V_u := V_u.keep KQ26 nin0
          have Z27 : n0 ≤ T26.heap.size := Nat.le_trans Z25 KQ26.1
          have O := O.keep KQ26 all0
          have hsafe := (all0 : ∀ x ∈ ([] : List Addr), Safe Z own_EL s.vm h25 x)
          have SF_u := Safe.keep KQ26 hsafe H SF_u
          have CR := CR.trans (CHr.keep KQ26 hsafe H)
          have H := H.keep KQ26 hsafe
          have hk := Nat.le_trans hk KQ26.1
          have K27 := K25.trans KQ26 all0
          have S_r26 := fo0_26
          refine GoesW.pre (U' := T26.setTop (mkF m 79 #[.val (.int q0), .val (.int q1), .val (.int q2), .val (.ref u), .val (.int (4 : Int32))] [(.ref r26)])) (fun t k => st26 t k) ?_
          refine GoesW.ret X26 hZ hEL hS hk H CR (v := (some (.ref r26))) (fun h => by rw [hret] at h; cases h) hlk (by decide) (by decide) rfl (fun fs hr => retOut X26 hx hret rfl (Or.inr (Or.inr (Or.inr (Or.inr ⟨rfl, rfl, rfl⟩)))) (hb hby d2_79) hr) ?_
          have eE : own_enc q0 q1 q2 = [(own_hi q1), (own_lo q1), (own_hi q2), (own_lo q2)] := by simp [own_enc, own_units, hc9, hc26, hc42, hc59]
          rw [← eE] at S_r26
          exact ⟨r26, b26, kb26, rfl, N26, K27, S_r26⟩
theorem own_minl (a b : Int32) (i : Int32) (h : i < own_min a b) : i < a ∧ i < b := by
  unfold own_min at h
  rw [Int32.lt_iff_toInt_lt, Int32.lt_iff_toInt_lt]
  split at h <;> rename_i q <;> rw [Int32.lt_iff_toInt_lt] at h q <;> omega
theorem own_min4 (a b : List Int32) (ha : a.length ≤ 4) : ¬ ((4 : Int32) < own_min (Int32.ofNat a.length) (Int32.ofNat b.length)) ∧ ¬ ((4 : Int32) < own_min (Int32.ofNat a.length) (Int32.ofNat b.length)) := by
  have q : ¬ ((4 : Int32) < own_min (Int32.ofNat a.length) (Int32.ofNat b.length)) := fun h => by
    have q := (own_minl _ _ _ h).1
    rw [Int32.lt_iff_toInt_lt, own_ofn a.length (by omega)] at q
    have k : (4 : Int32).toInt = 4 := by decide
    omega
  exact ⟨q, q⟩
theorem ef_rm_cmpS (m : MethodId) (x0 : Addr) (x1 : Addr) : entryFrame m #[(.ref x0), (.ref x1)] 6 = mkF m 0 #[.val (.ref x0), .val (.ref x1), .unset, .unset, .unset, .unset] [] := by first | (simp [entryFrame, mkF, argsToLocals, Value.category]; done) | rfl
abbrev M8 : MethodName := ⟨"com/example/bnodiff/bnodiff/model/CodePointOrder", "compare", "(Ljava/lang/String;Ljava/lang/String;)I"⟩
theorem d8_0 : decode prog_43_method_2_code 0 = .ok (.aload_n 0, 1) := by decide +kernel
theorem d8_1 : decode prog_43_method_2_code 1 = .ok (.invokevirtual 7, 3) := by decide +kernel
theorem pd__28_29I : parseMethodDescriptor "()I" = some ⟨[], some .int⟩ := by decide +kernel
theorem d8_4 : decode prog_43_method_2_code 4 = .ok (.aload_n 1, 1) := by decide +kernel
theorem d8_5 : decode prog_43_method_2_code 5 = .ok (.invokevirtual 7, 3) := by decide +kernel
theorem d8_8 : decode prog_43_method_2_code 8 = .ok (.invokestatic 13, 3) := by decide +kernel
theorem pd__28II_29I : parseMethodDescriptor "(II)I" = some ⟨[.int, .int], some .int⟩ := by decide +kernel
theorem d8_11 : decode prog_43_method_2_code 11 = .ok (.istore_n 2, 1) := by decide +kernel
theorem d8_12 : decode prog_43_method_2_code 12 = .ok (.iconst 0, 1) := by decide +kernel
theorem d8_13 : decode prog_43_method_2_code 13 = .ok (.istore_n 3, 1) := by decide +kernel
theorem d8_14 : decode prog_43_method_2_code 14 = .ok (.iload_n 3, 1) := by decide +kernel
theorem d8_15 : decode prog_43_method_2_code 15 = .ok (.iload_n 2, 1) := by decide +kernel
theorem d8_16 : decode prog_43_method_2_code 16 = .ok (.if_icmp .ge 42, 3) := by decide +kernel
theorem d8_19 : decode prog_43_method_2_code 19 = .ok (.aload_n 0, 1) := by decide +kernel
theorem d8_20 : decode prog_43_method_2_code 20 = .ok (.iload_n 3, 1) := by decide +kernel
theorem d8_21 : decode prog_43_method_2_code 21 = .ok (.invokevirtual 19, 3) := by decide +kernel
theorem d8_24 : decode prog_43_method_2_code 24 = .ok (.istore 4, 2) := by decide +kernel
theorem d8_26 : decode prog_43_method_2_code 26 = .ok (.aload_n 1, 1) := by decide +kernel
theorem d8_27 : decode prog_43_method_2_code 27 = .ok (.iload_n 3, 1) := by decide +kernel
theorem d8_28 : decode prog_43_method_2_code 28 = .ok (.invokevirtual 19, 3) := by decide +kernel
theorem d8_31 : decode prog_43_method_2_code 31 = .ok (.istore 5, 2) := by decide +kernel
theorem d8_33 : decode prog_43_method_2_code 33 = .ok (.iload 4, 2) := by decide +kernel
theorem d8_35 : decode prog_43_method_2_code 35 = .ok (.iload 5, 2) := by decide +kernel
theorem d8_37 : decode prog_43_method_2_code 37 = .ok (.if_icmp .eq 15, 3) := by decide +kernel
theorem d8_52 : decode prog_43_method_2_code 52 = .ok (.iinc 3 1, 3) := by decide +kernel
theorem d8_55 : decode prog_43_method_2_code 55 = .ok (.goto (-41), 3) := by decide +kernel
theorem d8_58 : decode prog_43_method_2_code 58 = .ok (.aload_n 0, 1) := by decide +kernel
theorem d8_59 : decode prog_43_method_2_code 59 = .ok (.invokevirtual 7, 3) := by decide +kernel
theorem d8_62 : decode prog_43_method_2_code 62 = .ok (.aload_n 1, 1) := by decide +kernel
theorem d8_63 : decode prog_43_method_2_code 63 = .ok (.invokevirtual 7, 3) := by decide +kernel
theorem d8_66 : decode prog_43_method_2_code 66 = .ok (.isub, 1) := by decide +kernel
theorem d8_67 : decode prog_43_method_2_code 67 = .ok (.ireturn, 1) := by decide +kernel
theorem d8_40 : decode prog_43_method_2_code 40 = .ok (.iload 4, 2) := by decide +kernel
theorem d8_42 : decode prog_43_method_2_code 42 = .ok (.invokestatic 23, 3) := by decide +kernel
theorem pd__28C_29I : parseMethodDescriptor "(C)I" = some ⟨[.char], some .int⟩ := by decide +kernel
theorem d8_45 : decode prog_43_method_2_code 45 = .ok (.iload 5, 2) := by decide +kernel
theorem d8_47 : decode prog_43_method_2_code 47 = .ok (.invokestatic 23, 3) := by decide +kernel
theorem d8_50 : decode prog_43_method_2_code 50 = .ok (.isub, 1) := by decide +kernel
theorem d8_51 : decode prog_43_method_2_code 51 = .ok (.ireturn, 1) := by decide +kernel
def own_cmp (cl dl : List Int32) : Int32 := (if (0 : Int32) < (own_min (Int32.ofNat cl.length) (Int32.ofNat dl.length)) then (if (cl.getD (0 : Int32).toNatClampNeg 0) = (dl.getD (0 : Int32).toNatClampNeg 0) then (if (1 : Int32) < (own_min (Int32.ofNat cl.length) (Int32.ofNat dl.length)) then (if (cl.getD (1 : Int32).toNatClampNeg 0) = (dl.getD (1 : Int32).toNatClampNeg 0) then (if (2 : Int32) < (own_min (Int32.ofNat cl.length) (Int32.ofNat dl.length)) then (if (cl.getD (2 : Int32).toNatClampNeg 0) = (dl.getD (2 : Int32).toNatClampNeg 0) then (if (3 : Int32) < (own_min (Int32.ofNat cl.length) (Int32.ofNat dl.length)) then (if (cl.getD (3 : Int32).toNatClampNeg 0) = (dl.getD (3 : Int32).toNatClampNeg 0) then ((Int32.ofNat cl.length) - (Int32.ofNat dl.length)) else ((own_rank (cl.getD (3 : Int32).toNatClampNeg 0)) - (own_rank (dl.getD (3 : Int32).toNatClampNeg 0)))) else ((Int32.ofNat cl.length) - (Int32.ofNat dl.length))) else ((own_rank (cl.getD (2 : Int32).toNatClampNeg 0)) - (own_rank (dl.getD (2 : Int32).toNatClampNeg 0)))) else ((Int32.ofNat cl.length) - (Int32.ofNat dl.length))) else ((own_rank (cl.getD (1 : Int32).toNatClampNeg 0)) - (own_rank (dl.getD (1 : Int32).toNatClampNeg 0)))) else ((Int32.ofNat cl.length) - (Int32.ofNat dl.length))) else ((own_rank (cl.getD (0 : Int32).toNatClampNeg 0)) - (own_rank (dl.getD (0 : Int32).toNatClampNeg 0)))) else ((Int32.ofNat cl.length) - (Int32.ofNat dl.length)))
def Q_rm_cmpS (Z : State) (a : Addr) (b : Addr) (ka : ClassId) (cl : List Int32) (d : Addr) (f : Addr) (kf : ClassId) (dl : List Int32) (cs : Int32) (sf : Value) (h0 : Heap) (n0 : Nat) (v : Option Value) (h : Heap) (L : List Loc) : Prop := v = some (.int (own_cmp cl dl)) ∧ Fr n0 L ∧ h = h0
set_option maxRecDepth 65536 in
set_option maxHeartbeats 40000000 in
theorem rm_cmpS (l : Launch) (Z : State) (a0 : Array Value) (hw : ∀ d ∈ tables_1, d.before a0 Z = true) (ws : List Jvm.Cond) (a : Addr) (b : Addr) (ka : ClassId) (cl : List Int32) (d : Addr) (f : Addr) (kf : ClassId) (dl : List Int32) (cs : Int32) (sf : Value) (h0 : Heap) (n0 : Nat) (Z0 : n0 ≤ h0.size) (S_a : OwnStr Z h0 a b ka cl) (S_d : OwnStr Z h0 d f kf dl) (S_COMPACT_STRINGS : Sta Z Z.heap "java/lang/String" "COMPACT_STRINGS" "Z" (.int cs)) (S__assertionsDisabled : Sta Z Z.heap "java/lang/StringUTF16" "$assertionsDisabled" "Z" (.int (1 : Int32))) (S_HI_BYTE_SHIFT : Sta Z Z.heap "java/lang/StringUTF16" "HI_BYTE_SHIFT" "I" (.int (0 : Int32))) (S_LO_BYTE_SHIFT : Sta Z Z.heap "java/lang/StringUTF16" "LO_BYTE_SHIFT" "I" (.int (8 : Int32))) (S_SIOOBE_FORMATTER : Sta Z Z.heap "jdk/internal/util/Preconditions" "SIOOBE_FORMATTER" "Ljava/util/function/BiFunction;" sf) (hl1 : cl.length ≤ 4) (hl2 : dl.length ≤ 4) (hcs : ¬ (cs = (0 : Int32))) (hsf : sf.isRef = true) (O : Old Z n0 h0) :
    Met l Z M8 prog_43_method_2_code 6 (some .int) ws (Rm 5 0 0 66) #[(.ref a), (.ref d)] h0 (Q_rm_cmpS Z a b ka cl d f kf dl cs sf h0 n0) := by
  refine met_of (plainFor_of_name pn_com_example_bnodiff_bnodiff_model_CodePointOrder) (own := "com/example/bnodiff/bnodiff/model/CodePointOrder") rfl (fun m => ef_rm_cmpS m a d) ?_
  intro p e s m below meth c s₁ hx hby hml hown hnm hZ X0 e0 hret hlk
  have N0 := Fr.nil n0
  show Goes p e below s _ _ _ (s₁.setTop (mkF m 0 #[.val (.ref a), .val (.ref d), .unset, .unset, .unset, .unset] []))
  refine Goes.pre (U' := s₁.setTop (mkF m 1 #[.val (.ref a), .val (.ref d), .unset, .unset, .unset, .unset] [(.ref a)])) (fun t k => XS.aloadN X0.here hx rfl (hb hby d8_0) rfl rfl k) ?_
  obtain ⟨cq1, kq1, q1a, q1b, q1c⟩ := isOf hZ e0 S_a.1
  obtain ⟨_, _, ⟨T1, L1, k1, n1⟩, -, X1, ⟨Lc1, hQ1, l1, y1, z1⟩, st1⟩ := X0.virtualBack hx (y := (⟨"java/lang/String", "length", "()I"⟩ : MethodName)) (z := (⟨"java/lang/String", "length", "()I"⟩ : MethodName)) hown (mvT hZ (wq hw 43 rfl)) (mvT hZ (wq hw 44 rfl)) (notFace_of_selects (args := #[]) (mvT hZ (wq hw 46 rfl))) (mvT hZ (wq hw 46 rfl)) (mvT hZ (wq hw 45 rfl)) (by decide) (backOf (W := 0) (rm_len l Z a0 hw [] a b ka cl cs h0 n0 Z0 S_a S_COMPACT_STRINGS hcs (Nat.le_trans hl1 (by decide)) O) hZ (wq hw 47 rfl) (wq hw 17 rfl) (by decide) (by decide)) q1a q1c (g := (mkF m 1 #[.val (.ref a), .val (.ref d), .unset, .unset, .unset, .unset] [(.ref a)])) rfl (by rw [hml]; rfl) (Steps.refl _) (argsL := []) (rest := []) (lenOf pd__28_29I rfl) rfl (by show 2 * 0 + _ ≤ _; exact Nat.le_of_eq rfl) (hb hby d8_1) (fun _ _ => ⟨rfl, e0, (by decide : 0 + 0 ≤ _), (by decide : 0 + 0 ≤ _)⟩)
  dsimp only [Pt.U, Pt.locs, Pt.cells, Pt.slots] at X1 l1 y1 z1 st1 hQ1
  subst l1 y1 z1
  obtain ⟨rfl, N1q, HQ1⟩ := hQ1
  have N1 := Fr.app N0 N1q
  refine Goes.pre (U' := T1.setTop (mkF m 5 #[.val (.ref a), .val (.ref d), .unset, .unset, .unset, .unset] [(.ref d), (.int (Int32.ofNat cl.length))])) (fun t k => st1.trans (XS.aloadN X1.here hx rfl (hb hby d8_4) rfl rfl k)) ?_
  obtain ⟨cq2, kq2, q2a, q2b, q2c⟩ := isOf hZ HQ1 S_d.1
  obtain ⟨_, _, ⟨T2, L2, k2, n2⟩, -, X2, ⟨Lc2, hQ2, l2, y2, z2⟩, st2⟩ := X1.virtualBack hx (y := (⟨"java/lang/String", "length", "()I"⟩ : MethodName)) (z := (⟨"java/lang/String", "length", "()I"⟩ : MethodName)) hown (mvT hZ (wq hw 43 rfl)) (mvT hZ (wq hw 44 rfl)) (notFace_of_selects (args := #[]) (mvT hZ (wq hw 46 rfl))) (mvT hZ (wq hw 46 rfl)) (mvT hZ (wq hw 45 rfl)) (by decide) (backOf (W := 1) (rm_len l Z a0 hw [] d f kf dl cs h0 n0 Z0 S_d S_COMPACT_STRINGS hcs (Nat.le_trans hl2 (by decide)) O) hZ (wq hw 47 rfl) (wq hw 17 rfl) (by decide) (by decide)) q2a q2c (g := (mkF m 5 #[.val (.ref a), .val (.ref d), .unset, .unset, .unset, .unset] [(.ref d), (.int (Int32.ofNat cl.length))])) rfl (by rw [hml]; rfl) (Steps.refl _) (argsL := []) (rest := [(.int (Int32.ofNat cl.length))]) (lenOf pd__28_29I rfl) rfl (by show 2 * 0 + _ ≤ _; exact Nat.le_of_eq rfl) (hb hby d8_5) (fun _ _ => ⟨rfl, HQ1, (by decide : 0 + 0 ≤ _), (by decide : 0 + 0 ≤ _)⟩)
  dsimp only [Pt.U, Pt.locs, Pt.cells, Pt.slots] at X2 l2 y2 z2 st2 hQ2
  subst l2 y2 z2
  obtain ⟨rfl, N2q, HQ2⟩ := hQ2
  have N2 := Fr.app N1 N2q
  refine Goes.pre (U' := T2.setTop (mkF m 8 #[.val (.ref a), .val (.ref d), .unset, .unset, .unset, .unset] [(.int (Int32.ofNat dl.length)), (.int (Int32.ofNat cl.length))])) (fun t k => st2.trans k) ?_
  obtain ⟨_, _, ⟨T3, L3, k3, n3⟩, -, X3, ⟨Lc3, hQ3, l3, y3, z3⟩, st3⟩ := Jvm.LawKit.callS X2 hx (y := (⟨"java/lang/Math", "min", "(II)I"⟩ : MethodName)) hown (mvT hZ (wq hw 54 rfl)) (mvT hZ (wq hw 55 rfl)) (mvT hZ (wq hw 56 rfl)) (mvT hZ (wq hw 57 rfl)) (by decide) (backOf (W := 0) (rm_min l Z a0 hw [] (Int32.ofNat cl.length) (Int32.ofNat dl.length) h0 n0 Z0) hZ (wq hw 57 rfl) (wq hw 56 rfl) (by decide) (by decide)) (g := (mkF m 8 #[.val (.ref a), .val (.ref d), .unset, .unset, .unset, .unset] [(.int (Int32.ofNat dl.length)), (.int (Int32.ofNat cl.length))])) rfl (by rw [hml]; rfl) (argsL := [(.int (Int32.ofNat cl.length)), (.int (Int32.ofNat dl.length))]) (rest := []) (lenOf pd__28II_29I rfl) rfl (by show 2 * 0 + _ ≤ _; exact Nat.le_of_eq rfl) (hb hby d8_8) (fun _ _ => ⟨rfl, HQ2, (by decide : 0 + 0 ≤ _), (by decide : 0 + 0 ≤ _)⟩)
  dsimp only [Pt.U, Pt.locs, Pt.cells, Pt.slots] at X3 l3 y3 z3 st3 hQ3
  subst l3 y3 z3
  obtain ⟨rfl, N3q, HQ3⟩ := hQ3
  have N3 := Fr.app N2 N3q
  refine Goes.pre (U' := T3.setTop (mkF m 16 #[.val (.ref a), .val (.ref d), .val (.int (own_min (Int32.ofNat cl.length) (Int32.ofNat dl.length))), .val (.int (0 : Int32)), .unset, .unset] [(.int (own_min (Int32.ofNat cl.length) (Int32.ofNat dl.length))), (.int (0 : Int32))])) (fun t k => st3 t (XS.istoreN X3.here hx rfl (hb hby d8_11) rfl (l' := #[.val (.ref a), .val (.ref d), .val (.int (own_min (Int32.ofNat cl.length) (Int32.ofNat dl.length))), .unset, .unset, .unset]) rfl (XS.iconst X3.here hx rfl (hb hby d8_12) (XS.istoreN X3.here hx rfl (hb hby d8_13) rfl (l' := #[.val (.ref a), .val (.ref d), .val (.int (own_min (Int32.ofNat cl.length) (Int32.ofNat dl.length))), .val (.int (0 : Int32)), .unset, .unset]) rfl (XS.iloadN X3.here hx rfl (hb hby d8_14) rfl (XS.iloadN X3.here hx rfl (hb hby d8_15) rfl k)))))) ?_
  by_cases hc16 : (0 : Int32) < (own_min (Int32.ofNat cl.length) (Int32.ofNat dl.length))
  ·
    refine Goes.pre (U' := T3.setTop (mkF m 21 #[.val (.ref a), .val (.ref d), .val (.int (own_min (Int32.ofNat cl.length) (Int32.ofNat dl.length))), .val (.int (0 : Int32)), .unset, .unset] [(.int (0 : Int32)), (.ref a)])) (fun t k => XS.icmpNo X3.here hx rfl (hb hby d8_16) rfl (tlt hc16).2.1 (XS.aloadN X3.here hx rfl (hb hby d8_19) rfl rfl (XS.iloadN X3.here hx rfl (hb hby d8_20) rfl k))) ?_
    obtain ⟨cq4, kq4, q4a, q4b, q4c⟩ := isOf hZ HQ3 S_a.1
    obtain ⟨_, _, ⟨T4, L4, k4, n4⟩, -, X4, ⟨Lc4, hQ4, l4, y4, z4⟩, st4⟩ := X3.virtualBack hx (y := (⟨"java/lang/String", "charAt", "(I)C"⟩ : MethodName)) (z := (⟨"java/lang/String", "charAt", "(I)C"⟩ : MethodName)) hown (mvT hZ (wq hw 94 rfl)) (mvT hZ (wq hw 95 rfl)) (notFace_of_selects (args := #[]) (mvT hZ (wq hw 97 rfl))) (mvT hZ (wq hw 97 rfl)) (mvT hZ (wq hw 96 rfl)) (by decide) (backOf (W := 0) (rm_chG l Z a0 hw [] a b ka cl (0 : Int32) cs sf h0 n0 Z0 S_a S_COMPACT_STRINGS S__assertionsDisabled S_HI_BYTE_SHIFT S_LO_BYTE_SHIFT S_SIOOBE_FORMATTER (by decide) (own_minl _ _ _ hc16).1 (Nat.le_trans hl1 (by decide)) hcs hsf O) hZ (wq hw 98 rfl) (wq hw 17 rfl) (by decide) (by decide)) q4a q4c (g := (mkF m 21 #[.val (.ref a), .val (.ref d), .val (.int (own_min (Int32.ofNat cl.length) (Int32.ofNat dl.length))), .val (.int (0 : Int32)), .unset, .unset] [(.int (0 : Int32)), (.ref a)])) rfl (by rw [hml]; rfl) (Steps.refl _) (argsL := [(.int (0 : Int32))]) (rest := []) (lenOf pd__28I_29C rfl) rfl (by show 2 * 0 + _ ≤ _; exact Nat.le_of_eq rfl) (hb hby d8_21) (fun _ _ => ⟨rfl, HQ3, (by decide : 0 + 0 ≤ _), (by decide : 0 + 0 ≤ _)⟩)
    dsimp only [Pt.U, Pt.locs, Pt.cells, Pt.slots] at X4 l4 y4 z4 st4 hQ4
    subst l4 y4 z4
    obtain ⟨rfl, N4q, HQ4⟩ := hQ4
    have N4 := Fr.app N3 N4q
    refine Goes.pre (U' := T4.setTop (mkF m 28 #[.val (.ref a), .val (.ref d), .val (.int (own_min (Int32.ofNat cl.length) (Int32.ofNat dl.length))), .val (.int (0 : Int32)), .val (.int (cl.getD (0 : Int32).toNatClampNeg 0)), .unset] [(.int (0 : Int32)), (.ref d)])) (fun t k => st4.trans (XS.istore X4.here hx rfl (hb hby d8_24) rfl (l' := #[.val (.ref a), .val (.ref d), .val (.int (own_min (Int32.ofNat cl.length) (Int32.ofNat dl.length))), .val (.int (0 : Int32)), .val (.int (cl.getD (0 : Int32).toNatClampNeg 0)), .unset]) rfl (XS.aloadN X4.here hx rfl (hb hby d8_26) rfl rfl (XS.iloadN X4.here hx rfl (hb hby d8_27) rfl k)))) ?_
    obtain ⟨cq5, kq5, q5a, q5b, q5c⟩ := isOf hZ HQ4 S_d.1
    obtain ⟨_, _, ⟨T5, L5, k5, n5⟩, -, X5, ⟨Lc5, hQ5, l5, y5, z5⟩, st5⟩ := X4.virtualBack hx (y := (⟨"java/lang/String", "charAt", "(I)C"⟩ : MethodName)) (z := (⟨"java/lang/String", "charAt", "(I)C"⟩ : MethodName)) hown (mvT hZ (wq hw 94 rfl)) (mvT hZ (wq hw 95 rfl)) (notFace_of_selects (args := #[]) (mvT hZ (wq hw 97 rfl))) (mvT hZ (wq hw 97 rfl)) (mvT hZ (wq hw 96 rfl)) (by decide) (backOf (W := 0) (rm_chG l Z a0 hw [] d f kf dl (0 : Int32) cs sf h0 n0 Z0 S_d S_COMPACT_STRINGS S__assertionsDisabled S_HI_BYTE_SHIFT S_LO_BYTE_SHIFT S_SIOOBE_FORMATTER (by decide) (own_minl _ _ _ hc16).2 (Nat.le_trans hl2 (by decide)) hcs hsf O) hZ (wq hw 98 rfl) (wq hw 17 rfl) (by decide) (by decide)) q5a q5c (g := (mkF m 28 #[.val (.ref a), .val (.ref d), .val (.int (own_min (Int32.ofNat cl.length) (Int32.ofNat dl.length))), .val (.int (0 : Int32)), .val (.int (cl.getD (0 : Int32).toNatClampNeg 0)), .unset] [(.int (0 : Int32)), (.ref d)])) rfl (by rw [hml]; rfl) (Steps.refl _) (argsL := [(.int (0 : Int32))]) (rest := []) (lenOf pd__28I_29C rfl) rfl (by show 2 * 0 + _ ≤ _; exact Nat.le_of_eq rfl) (hb hby d8_28) (fun _ _ => ⟨rfl, HQ4, (by decide : 0 + 0 ≤ _), (by decide : 0 + 0 ≤ _)⟩)
    dsimp only [Pt.U, Pt.locs, Pt.cells, Pt.slots] at X5 l5 y5 z5 st5 hQ5
    subst l5 y5 z5
    obtain ⟨rfl, N5q, HQ5⟩ := hQ5
    have N5 := Fr.app N4 N5q
    refine Goes.pre (U' := T5.setTop (mkF m 37 #[.val (.ref a), .val (.ref d), .val (.int (own_min (Int32.ofNat cl.length) (Int32.ofNat dl.length))), .val (.int (0 : Int32)), .val (.int (cl.getD (0 : Int32).toNatClampNeg 0)), .val (.int (dl.getD (0 : Int32).toNatClampNeg 0))] [(.int (dl.getD (0 : Int32).toNatClampNeg 0)), (.int (cl.getD (0 : Int32).toNatClampNeg 0))])) (fun t k => st5.trans (XS.istore X5.here hx rfl (hb hby d8_31) rfl (l' := #[.val (.ref a), .val (.ref d), .val (.int (own_min (Int32.ofNat cl.length) (Int32.ofNat dl.length))), .val (.int (0 : Int32)), .val (.int (cl.getD (0 : Int32).toNatClampNeg 0)), .val (.int (dl.getD (0 : Int32).toNatClampNeg 0))]) rfl (XS.iload X5.here hx rfl (hb hby d8_33) rfl (XS.iload X5.here hx rfl (hb hby d8_35) rfl k)))) ?_
    by_cases hc37 : (cl.getD (0 : Int32).toNatClampNeg 0) = (dl.getD (0 : Int32).toNatClampNeg 0)
    ·
      refine Goes.pre (U' := T5.setTop (mkF m 55 #[.val (.ref a), .val (.ref d), .val (.int (own_min (Int32.ofNat cl.length) (Int32.ofNat dl.length))), .val (.int ((0 : Int32) + (1 : Int32))), .val (.int (cl.getD (0 : Int32).toNatClampNeg 0)), .val (.int (dl.getD (0 : Int32).toNatClampNeg 0))] [])) (fun t k => XS.icmpYes X5.here hx rfl (pc0 := 37) (pc' := 52) rfl (hb hby d8_37) rfl (teq hc37).1 (by decide) (by decide) (XT.iincV X5.here hx rfl (1 : Int32) (hb hby d8_52) (by decide) rfl (l' := #[.val (.ref a), .val (.ref d), .val (.int (own_min (Int32.ofNat cl.length) (Int32.ofNat dl.length))), .val (.int ((0 : Int32) + (1 : Int32))), .val (.int (cl.getD (0 : Int32).toNatClampNeg 0)), .val (.int (dl.getD (0 : Int32).toNatClampNeg 0))]) rfl k)) ?_
      rw [(by decide : ((0 : Int32) + (1 : Int32)) = (1 : Int32))]
      refine Goes.pre (U' := T5.setTop (mkF m 16 #[.val (.ref a), .val (.ref d), .val (.int (own_min (Int32.ofNat cl.length) (Int32.ofNat dl.length))), .val (.int (1 : Int32)), .val (.int (cl.getD (0 : Int32).toNatClampNeg 0)), .val (.int (dl.getD (0 : Int32).toNatClampNeg 0))] [(.int (own_min (Int32.ofNat cl.length) (Int32.ofNat dl.length))), (.int (1 : Int32))])) (fun t k => XS.goto X5.here hx rfl (pc0 := 55) (pc' := 14) rfl (hb hby d8_55) (by decide) (by decide) (XS.iloadN X5.here hx rfl (hb hby d8_14) rfl (XS.iloadN X5.here hx rfl (hb hby d8_15) rfl k))) ?_
      by_cases hc16_2 : (1 : Int32) < (own_min (Int32.ofNat cl.length) (Int32.ofNat dl.length))
      ·
        refine Goes.pre (U' := T5.setTop (mkF m 21 #[.val (.ref a), .val (.ref d), .val (.int (own_min (Int32.ofNat cl.length) (Int32.ofNat dl.length))), .val (.int (1 : Int32)), .val (.int (cl.getD (0 : Int32).toNatClampNeg 0)), .val (.int (dl.getD (0 : Int32).toNatClampNeg 0))] [(.int (1 : Int32)), (.ref a)])) (fun t k => XS.icmpNo X5.here hx rfl (hb hby d8_16) rfl (tlt hc16_2).2.1 (XS.aloadN X5.here hx rfl (hb hby d8_19) rfl rfl (XS.iloadN X5.here hx rfl (hb hby d8_20) rfl k))) ?_
        obtain ⟨cq6, kq6, q6a, q6b, q6c⟩ := isOf hZ HQ5 S_a.1
        obtain ⟨_, _, ⟨T6, L6, k6, n6⟩, -, X6, ⟨Lc6, hQ6, l6, y6, z6⟩, st6⟩ := X5.virtualBack hx (y := (⟨"java/lang/String", "charAt", "(I)C"⟩ : MethodName)) (z := (⟨"java/lang/String", "charAt", "(I)C"⟩ : MethodName)) hown (mvT hZ (wq hw 94 rfl)) (mvT hZ (wq hw 95 rfl)) (notFace_of_selects (args := #[]) (mvT hZ (wq hw 97 rfl))) (mvT hZ (wq hw 97 rfl)) (mvT hZ (wq hw 96 rfl)) (by decide) (backOf (W := 0) (rm_chG l Z a0 hw [] a b ka cl (1 : Int32) cs sf h0 n0 Z0 S_a S_COMPACT_STRINGS S__assertionsDisabled S_HI_BYTE_SHIFT S_LO_BYTE_SHIFT S_SIOOBE_FORMATTER (by decide) (own_minl _ _ _ hc16_2).1 (Nat.le_trans hl1 (by decide)) hcs hsf O) hZ (wq hw 98 rfl) (wq hw 17 rfl) (by decide) (by decide)) q6a q6c (g := (mkF m 21 #[.val (.ref a), .val (.ref d), .val (.int (own_min (Int32.ofNat cl.length) (Int32.ofNat dl.length))), .val (.int (1 : Int32)), .val (.int (cl.getD (0 : Int32).toNatClampNeg 0)), .val (.int (dl.getD (0 : Int32).toNatClampNeg 0))] [(.int (1 : Int32)), (.ref a)])) rfl (by rw [hml]; rfl) (Steps.refl _) (argsL := [(.int (1 : Int32))]) (rest := []) (lenOf pd__28I_29C rfl) rfl (by show 2 * 0 + _ ≤ _; exact Nat.le_of_eq rfl) (hb hby d8_21) (fun _ _ => ⟨rfl, HQ5, (by decide : 0 + 0 ≤ _), (by decide : 0 + 0 ≤ _)⟩)
        dsimp only [Pt.U, Pt.locs, Pt.cells, Pt.slots] at X6 l6 y6 z6 st6 hQ6
        subst l6 y6 z6
        obtain ⟨rfl, N6q, HQ6⟩ := hQ6
        have N6 := Fr.app N5 N6q
        refine Goes.pre (U' := T6.setTop (mkF m 28 #[.val (.ref a), .val (.ref d), .val (.int (own_min (Int32.ofNat cl.length) (Int32.ofNat dl.length))), .val (.int (1 : Int32)), .val (.int (cl.getD (1 : Int32).toNatClampNeg 0)), .val (.int (dl.getD (0 : Int32).toNatClampNeg 0))] [(.int (1 : Int32)), (.ref d)])) (fun t k => st6.trans (XS.istore X6.here hx rfl (hb hby d8_24) rfl (l' := #[.val (.ref a), .val (.ref d), .val (.int (own_min (Int32.ofNat cl.length) (Int32.ofNat dl.length))), .val (.int (1 : Int32)), .val (.int (cl.getD (1 : Int32).toNatClampNeg 0)), .val (.int (dl.getD (0 : Int32).toNatClampNeg 0))]) rfl (XS.aloadN X6.here hx rfl (hb hby d8_26) rfl rfl (XS.iloadN X6.here hx rfl (hb hby d8_27) rfl k)))) ?_
        obtain ⟨cq7, kq7, q7a, q7b, q7c⟩ := isOf hZ HQ6 S_d.1
        obtain ⟨_, _, ⟨T7, L7, k7, n7⟩, -, X7, ⟨Lc7, hQ7, l7, y7, z7⟩, st7⟩ := X6.virtualBack hx (y := (⟨"java/lang/String", "charAt", "(I)C"⟩ : MethodName)) (z := (⟨"java/lang/String", "charAt", "(I)C"⟩ : MethodName)) hown (mvT hZ (wq hw 94 rfl)) (mvT hZ (wq hw 95 rfl)) (notFace_of_selects (args := #[]) (mvT hZ (wq hw 97 rfl))) (mvT hZ (wq hw 97 rfl)) (mvT hZ (wq hw 96 rfl)) (by decide) (backOf (W := 0) (rm_chG l Z a0 hw [] d f kf dl (1 : Int32) cs sf h0 n0 Z0 S_d S_COMPACT_STRINGS S__assertionsDisabled S_HI_BYTE_SHIFT S_LO_BYTE_SHIFT S_SIOOBE_FORMATTER (by decide) (own_minl _ _ _ hc16_2).2 (Nat.le_trans hl2 (by decide)) hcs hsf O) hZ (wq hw 98 rfl) (wq hw 17 rfl) (by decide) (by decide)) q7a q7c (g := (mkF m 28 #[.val (.ref a), .val (.ref d), .val (.int (own_min (Int32.ofNat cl.length) (Int32.ofNat dl.length))), .val (.int (1 : Int32)), .val (.int (cl.getD (1 : Int32).toNatClampNeg 0)), .val (.int (dl.getD (0 : Int32).toNatClampNeg 0))] [(.int (1 : Int32)), (.ref d)])) rfl (by rw [hml]; rfl) (Steps.refl _) (argsL := [(.int (1 : Int32))]) (rest := []) (lenOf pd__28I_29C rfl) rfl (by show 2 * 0 + _ ≤ _; exact Nat.le_of_eq rfl) (hb hby d8_28) (fun _ _ => ⟨rfl, HQ6, (by decide : 0 + 0 ≤ _), (by decide : 0 + 0 ≤ _)⟩)
        dsimp only [Pt.U, Pt.locs, Pt.cells, Pt.slots] at X7 l7 y7 z7 st7 hQ7
        subst l7 y7 z7
        obtain ⟨rfl, N7q, HQ7⟩ := hQ7
        have N7 := Fr.app N6 N7q
        refine Goes.pre (U' := T7.setTop (mkF m 37 #[.val (.ref a), .val (.ref d), .val (.int (own_min (Int32.ofNat cl.length) (Int32.ofNat dl.length))), .val (.int (1 : Int32)), .val (.int (cl.getD (1 : Int32).toNatClampNeg 0)), .val (.int (dl.getD (1 : Int32).toNatClampNeg 0))] [(.int (dl.getD (1 : Int32).toNatClampNeg 0)), (.int (cl.getD (1 : Int32).toNatClampNeg 0))])) (fun t k => st7.trans (XS.istore X7.here hx rfl (hb hby d8_31) rfl (l' := #[.val (.ref a), .val (.ref d), .val (.int (own_min (Int32.ofNat cl.length) (Int32.ofNat dl.length))), .val (.int (1 : Int32)), .val (.int (cl.getD (1 : Int32).toNatClampNeg 0)), .val (.int (dl.getD (1 : Int32).toNatClampNeg 0))]) rfl (XS.iload X7.here hx rfl (hb hby d8_33) rfl (XS.iload X7.here hx rfl (hb hby d8_35) rfl k)))) ?_
        by_cases hc37_2 : (cl.getD (1 : Int32).toNatClampNeg 0) = (dl.getD (1 : Int32).toNatClampNeg 0)
        ·
          refine Goes.pre (U' := T7.setTop (mkF m 55 #[.val (.ref a), .val (.ref d), .val (.int (own_min (Int32.ofNat cl.length) (Int32.ofNat dl.length))), .val (.int ((1 : Int32) + (1 : Int32))), .val (.int (cl.getD (1 : Int32).toNatClampNeg 0)), .val (.int (dl.getD (1 : Int32).toNatClampNeg 0))] [])) (fun t k => XS.icmpYes X7.here hx rfl (pc0 := 37) (pc' := 52) rfl (hb hby d8_37) rfl (teq hc37_2).1 (by decide) (by decide) (XT.iincV X7.here hx rfl (1 : Int32) (hb hby d8_52) (by decide) rfl (l' := #[.val (.ref a), .val (.ref d), .val (.int (own_min (Int32.ofNat cl.length) (Int32.ofNat dl.length))), .val (.int ((1 : Int32) + (1 : Int32))), .val (.int (cl.getD (1 : Int32).toNatClampNeg 0)), .val (.int (dl.getD (1 : Int32).toNatClampNeg 0))]) rfl k)) ?_
          rw [(by decide : ((1 : Int32) + (1 : Int32)) = (2 : Int32))]
          refine Goes.pre (U' := T7.setTop (mkF m 16 #[.val (.ref a), .val (.ref d), .val (.int (own_min (Int32.ofNat cl.length) (Int32.ofNat dl.length))), .val (.int (2 : Int32)), .val (.int (cl.getD (1 : Int32).toNatClampNeg 0)), .val (.int (dl.getD (1 : Int32).toNatClampNeg 0))] [(.int (own_min (Int32.ofNat cl.length) (Int32.ofNat dl.length))), (.int (2 : Int32))])) (fun t k => XS.goto X7.here hx rfl (pc0 := 55) (pc' := 14) rfl (hb hby d8_55) (by decide) (by decide) (XS.iloadN X7.here hx rfl (hb hby d8_14) rfl (XS.iloadN X7.here hx rfl (hb hby d8_15) rfl k))) ?_
          by_cases hc16_3 : (2 : Int32) < (own_min (Int32.ofNat cl.length) (Int32.ofNat dl.length))
          ·
            refine Goes.pre (U' := T7.setTop (mkF m 21 #[.val (.ref a), .val (.ref d), .val (.int (own_min (Int32.ofNat cl.length) (Int32.ofNat dl.length))), .val (.int (2 : Int32)), .val (.int (cl.getD (1 : Int32).toNatClampNeg 0)), .val (.int (dl.getD (1 : Int32).toNatClampNeg 0))] [(.int (2 : Int32)), (.ref a)])) (fun t k => XS.icmpNo X7.here hx rfl (hb hby d8_16) rfl (tlt hc16_3).2.1 (XS.aloadN X7.here hx rfl (hb hby d8_19) rfl rfl (XS.iloadN X7.here hx rfl (hb hby d8_20) rfl k))) ?_
            obtain ⟨cq8, kq8, q8a, q8b, q8c⟩ := isOf hZ HQ7 S_a.1
            obtain ⟨_, _, ⟨T8, L8, k8, n8⟩, -, X8, ⟨Lc8, hQ8, l8, y8, z8⟩, st8⟩ := X7.virtualBack hx (y := (⟨"java/lang/String", "charAt", "(I)C"⟩ : MethodName)) (z := (⟨"java/lang/String", "charAt", "(I)C"⟩ : MethodName)) hown (mvT hZ (wq hw 94 rfl)) (mvT hZ (wq hw 95 rfl)) (notFace_of_selects (args := #[]) (mvT hZ (wq hw 97 rfl))) (mvT hZ (wq hw 97 rfl)) (mvT hZ (wq hw 96 rfl)) (by decide) (backOf (W := 0) (rm_chG l Z a0 hw [] a b ka cl (2 : Int32) cs sf h0 n0 Z0 S_a S_COMPACT_STRINGS S__assertionsDisabled S_HI_BYTE_SHIFT S_LO_BYTE_SHIFT S_SIOOBE_FORMATTER (by decide) (own_minl _ _ _ hc16_3).1 (Nat.le_trans hl1 (by decide)) hcs hsf O) hZ (wq hw 98 rfl) (wq hw 17 rfl) (by decide) (by decide)) q8a q8c (g := (mkF m 21 #[.val (.ref a), .val (.ref d), .val (.int (own_min (Int32.ofNat cl.length) (Int32.ofNat dl.length))), .val (.int (2 : Int32)), .val (.int (cl.getD (1 : Int32).toNatClampNeg 0)), .val (.int (dl.getD (1 : Int32).toNatClampNeg 0))] [(.int (2 : Int32)), (.ref a)])) rfl (by rw [hml]; rfl) (Steps.refl _) (argsL := [(.int (2 : Int32))]) (rest := []) (lenOf pd__28I_29C rfl) rfl (by show 2 * 0 + _ ≤ _; exact Nat.le_of_eq rfl) (hb hby d8_21) (fun _ _ => ⟨rfl, HQ7, (by decide : 0 + 0 ≤ _), (by decide : 0 + 0 ≤ _)⟩)
            dsimp only [Pt.U, Pt.locs, Pt.cells, Pt.slots] at X8 l8 y8 z8 st8 hQ8
            subst l8 y8 z8
            obtain ⟨rfl, N8q, HQ8⟩ := hQ8
            have N8 := Fr.app N7 N8q
            refine Goes.pre (U' := T8.setTop (mkF m 28 #[.val (.ref a), .val (.ref d), .val (.int (own_min (Int32.ofNat cl.length) (Int32.ofNat dl.length))), .val (.int (2 : Int32)), .val (.int (cl.getD (2 : Int32).toNatClampNeg 0)), .val (.int (dl.getD (1 : Int32).toNatClampNeg 0))] [(.int (2 : Int32)), (.ref d)])) (fun t k => st8.trans (XS.istore X8.here hx rfl (hb hby d8_24) rfl (l' := #[.val (.ref a), .val (.ref d), .val (.int (own_min (Int32.ofNat cl.length) (Int32.ofNat dl.length))), .val (.int (2 : Int32)), .val (.int (cl.getD (2 : Int32).toNatClampNeg 0)), .val (.int (dl.getD (1 : Int32).toNatClampNeg 0))]) rfl (XS.aloadN X8.here hx rfl (hb hby d8_26) rfl rfl (XS.iloadN X8.here hx rfl (hb hby d8_27) rfl k)))) ?_
            obtain ⟨cq9, kq9, q9a, q9b, q9c⟩ := isOf hZ HQ8 S_d.1
            obtain ⟨_, _, ⟨T9, L9, k9, n9⟩, -, X9, ⟨Lc9, hQ9, l9, y9, z9⟩, st9⟩ := X8.virtualBack hx (y := (⟨"java/lang/String", "charAt", "(I)C"⟩ : MethodName)) (z := (⟨"java/lang/String", "charAt", "(I)C"⟩ : MethodName)) hown (mvT hZ (wq hw 94 rfl)) (mvT hZ (wq hw 95 rfl)) (notFace_of_selects (args := #[]) (mvT hZ (wq hw 97 rfl))) (mvT hZ (wq hw 97 rfl)) (mvT hZ (wq hw 96 rfl)) (by decide) (backOf (W := 0) (rm_chG l Z a0 hw [] d f kf dl (2 : Int32) cs sf h0 n0 Z0 S_d S_COMPACT_STRINGS S__assertionsDisabled S_HI_BYTE_SHIFT S_LO_BYTE_SHIFT S_SIOOBE_FORMATTER (by decide) (own_minl _ _ _ hc16_3).2 (Nat.le_trans hl2 (by decide)) hcs hsf O) hZ (wq hw 98 rfl) (wq hw 17 rfl) (by decide) (by decide)) q9a q9c (g := (mkF m 28 #[.val (.ref a), .val (.ref d), .val (.int (own_min (Int32.ofNat cl.length) (Int32.ofNat dl.length))), .val (.int (2 : Int32)), .val (.int (cl.getD (2 : Int32).toNatClampNeg 0)), .val (.int (dl.getD (1 : Int32).toNatClampNeg 0))] [(.int (2 : Int32)), (.ref d)])) rfl (by rw [hml]; rfl) (Steps.refl _) (argsL := [(.int (2 : Int32))]) (rest := []) (lenOf pd__28I_29C rfl) rfl (by show 2 * 0 + _ ≤ _; exact Nat.le_of_eq rfl) (hb hby d8_28) (fun _ _ => ⟨rfl, HQ8, (by decide : 0 + 0 ≤ _), (by decide : 0 + 0 ≤ _)⟩)
            dsimp only [Pt.U, Pt.locs, Pt.cells, Pt.slots] at X9 l9 y9 z9 st9 hQ9
            subst l9 y9 z9
            obtain ⟨rfl, N9q, HQ9⟩ := hQ9
            have N9 := Fr.app N8 N9q
            refine Goes.pre (U' := T9.setTop (mkF m 37 #[.val (.ref a), .val (.ref d), .val (.int (own_min (Int32.ofNat cl.length) (Int32.ofNat dl.length))), .val (.int (2 : Int32)), .val (.int (cl.getD (2 : Int32).toNatClampNeg 0)), .val (.int (dl.getD (2 : Int32).toNatClampNeg 0))] [(.int (dl.getD (2 : Int32).toNatClampNeg 0)), (.int (cl.getD (2 : Int32).toNatClampNeg 0))])) (fun t k => st9.trans (XS.istore X9.here hx rfl (hb hby d8_31) rfl (l' := #[.val (.ref a), .val (.ref d), .val (.int (own_min (Int32.ofNat cl.length) (Int32.ofNat dl.length))), .val (.int (2 : Int32)), .val (.int (cl.getD (2 : Int32).toNatClampNeg 0)), .val (.int (dl.getD (2 : Int32).toNatClampNeg 0))]) rfl (XS.iload X9.here hx rfl (hb hby d8_33) rfl (XS.iload X9.here hx rfl (hb hby d8_35) rfl k)))) ?_
            by_cases hc37_3 : (cl.getD (2 : Int32).toNatClampNeg 0) = (dl.getD (2 : Int32).toNatClampNeg 0)
            ·
              refine Goes.pre (U' := T9.setTop (mkF m 55 #[.val (.ref a), .val (.ref d), .val (.int (own_min (Int32.ofNat cl.length) (Int32.ofNat dl.length))), .val (.int ((2 : Int32) + (1 : Int32))), .val (.int (cl.getD (2 : Int32).toNatClampNeg 0)), .val (.int (dl.getD (2 : Int32).toNatClampNeg 0))] [])) (fun t k => XS.icmpYes X9.here hx rfl (pc0 := 37) (pc' := 52) rfl (hb hby d8_37) rfl (teq hc37_3).1 (by decide) (by decide) (XT.iincV X9.here hx rfl (1 : Int32) (hb hby d8_52) (by decide) rfl (l' := #[.val (.ref a), .val (.ref d), .val (.int (own_min (Int32.ofNat cl.length) (Int32.ofNat dl.length))), .val (.int ((2 : Int32) + (1 : Int32))), .val (.int (cl.getD (2 : Int32).toNatClampNeg 0)), .val (.int (dl.getD (2 : Int32).toNatClampNeg 0))]) rfl k)) ?_
              rw [(by decide : ((2 : Int32) + (1 : Int32)) = (3 : Int32))]
              refine Goes.pre (U' := T9.setTop (mkF m 16 #[.val (.ref a), .val (.ref d), .val (.int (own_min (Int32.ofNat cl.length) (Int32.ofNat dl.length))), .val (.int (3 : Int32)), .val (.int (cl.getD (2 : Int32).toNatClampNeg 0)), .val (.int (dl.getD (2 : Int32).toNatClampNeg 0))] [(.int (own_min (Int32.ofNat cl.length) (Int32.ofNat dl.length))), (.int (3 : Int32))])) (fun t k => XS.goto X9.here hx rfl (pc0 := 55) (pc' := 14) rfl (hb hby d8_55) (by decide) (by decide) (XS.iloadN X9.here hx rfl (hb hby d8_14) rfl (XS.iloadN X9.here hx rfl (hb hby d8_15) rfl k))) ?_
              by_cases hc16_4 : (3 : Int32) < (own_min (Int32.ofNat cl.length) (Int32.ofNat dl.length))
              ·
                refine Goes.pre (U' := T9.setTop (mkF m 21 #[.val (.ref a), .val (.ref d), .val (.int (own_min (Int32.ofNat cl.length) (Int32.ofNat dl.length))), .val (.int (3 : Int32)), .val (.int (cl.getD (2 : Int32).toNatClampNeg 0)), .val (.int (dl.getD (2 : Int32).toNatClampNeg 0))] [(.int (3 : Int32)), (.ref a)])) (fun t k => XS.icmpNo X9.here hx rfl (hb hby d8_16) rfl (tlt hc16_4).2.1 (XS.aloadN X9.here hx rfl (hb hby d8_19) rfl rfl (XS.iloadN X9.here hx rfl (hb hby d8_20) rfl k))) ?_
                obtain ⟨cq10, kq10, q10a, q10b, q10c⟩ := isOf hZ HQ9 S_a.1
                obtain ⟨_, _, ⟨T10, L10, k10, n10⟩, -, X10, ⟨Lc10, hQ10, l10, y10, z10⟩, st10⟩ := X9.virtualBack hx (y := (⟨"java/lang/String", "charAt", "(I)C"⟩ : MethodName)) (z := (⟨"java/lang/String", "charAt", "(I)C"⟩ : MethodName)) hown (mvT hZ (wq hw 94 rfl)) (mvT hZ (wq hw 95 rfl)) (notFace_of_selects (args := #[]) (mvT hZ (wq hw 97 rfl))) (mvT hZ (wq hw 97 rfl)) (mvT hZ (wq hw 96 rfl)) (by decide) (backOf (W := 0) (rm_chG l Z a0 hw [] a b ka cl (3 : Int32) cs sf h0 n0 Z0 S_a S_COMPACT_STRINGS S__assertionsDisabled S_HI_BYTE_SHIFT S_LO_BYTE_SHIFT S_SIOOBE_FORMATTER (by decide) (own_minl _ _ _ hc16_4).1 (Nat.le_trans hl1 (by decide)) hcs hsf O) hZ (wq hw 98 rfl) (wq hw 17 rfl) (by decide) (by decide)) q10a q10c (g := (mkF m 21 #[.val (.ref a), .val (.ref d), .val (.int (own_min (Int32.ofNat cl.length) (Int32.ofNat dl.length))), .val (.int (3 : Int32)), .val (.int (cl.getD (2 : Int32).toNatClampNeg 0)), .val (.int (dl.getD (2 : Int32).toNatClampNeg 0))] [(.int (3 : Int32)), (.ref a)])) rfl (by rw [hml]; rfl) (Steps.refl _) (argsL := [(.int (3 : Int32))]) (rest := []) (lenOf pd__28I_29C rfl) rfl (by show 2 * 0 + _ ≤ _; exact Nat.le_of_eq rfl) (hb hby d8_21) (fun _ _ => ⟨rfl, HQ9, (by decide : 0 + 0 ≤ _), (by decide : 0 + 0 ≤ _)⟩)
                dsimp only [Pt.U, Pt.locs, Pt.cells, Pt.slots] at X10 l10 y10 z10 st10 hQ10
                subst l10 y10 z10
                obtain ⟨rfl, N10q, HQ10⟩ := hQ10
                have N10 := Fr.app N9 N10q
                refine Goes.pre (U' := T10.setTop (mkF m 28 #[.val (.ref a), .val (.ref d), .val (.int (own_min (Int32.ofNat cl.length) (Int32.ofNat dl.length))), .val (.int (3 : Int32)), .val (.int (cl.getD (3 : Int32).toNatClampNeg 0)), .val (.int (dl.getD (2 : Int32).toNatClampNeg 0))] [(.int (3 : Int32)), (.ref d)])) (fun t k => st10.trans (XS.istore X10.here hx rfl (hb hby d8_24) rfl (l' := #[.val (.ref a), .val (.ref d), .val (.int (own_min (Int32.ofNat cl.length) (Int32.ofNat dl.length))), .val (.int (3 : Int32)), .val (.int (cl.getD (3 : Int32).toNatClampNeg 0)), .val (.int (dl.getD (2 : Int32).toNatClampNeg 0))]) rfl (XS.aloadN X10.here hx rfl (hb hby d8_26) rfl rfl (XS.iloadN X10.here hx rfl (hb hby d8_27) rfl k)))) ?_
                obtain ⟨cq11, kq11, q11a, q11b, q11c⟩ := isOf hZ HQ10 S_d.1
                obtain ⟨_, _, ⟨T11, L11, k11, n11⟩, -, X11, ⟨Lc11, hQ11, l11, y11, z11⟩, st11⟩ := X10.virtualBack hx (y := (⟨"java/lang/String", "charAt", "(I)C"⟩ : MethodName)) (z := (⟨"java/lang/String", "charAt", "(I)C"⟩ : MethodName)) hown (mvT hZ (wq hw 94 rfl)) (mvT hZ (wq hw 95 rfl)) (notFace_of_selects (args := #[]) (mvT hZ (wq hw 97 rfl))) (mvT hZ (wq hw 97 rfl)) (mvT hZ (wq hw 96 rfl)) (by decide) (backOf (W := 0) (rm_chG l Z a0 hw [] d f kf dl (3 : Int32) cs sf h0 n0 Z0 S_d S_COMPACT_STRINGS S__assertionsDisabled S_HI_BYTE_SHIFT S_LO_BYTE_SHIFT S_SIOOBE_FORMATTER (by decide) (own_minl _ _ _ hc16_4).2 (Nat.le_trans hl2 (by decide)) hcs hsf O) hZ (wq hw 98 rfl) (wq hw 17 rfl) (by decide) (by decide)) q11a q11c (g := (mkF m 28 #[.val (.ref a), .val (.ref d), .val (.int (own_min (Int32.ofNat cl.length) (Int32.ofNat dl.length))), .val (.int (3 : Int32)), .val (.int (cl.getD (3 : Int32).toNatClampNeg 0)), .val (.int (dl.getD (2 : Int32).toNatClampNeg 0))] [(.int (3 : Int32)), (.ref d)])) rfl (by rw [hml]; rfl) (Steps.refl _) (argsL := [(.int (3 : Int32))]) (rest := []) (lenOf pd__28I_29C rfl) rfl (by show 2 * 0 + _ ≤ _; exact Nat.le_of_eq rfl) (hb hby d8_28) (fun _ _ => ⟨rfl, HQ10, (by decide : 0 + 0 ≤ _), (by decide : 0 + 0 ≤ _)⟩)
                dsimp only [Pt.U, Pt.locs, Pt.cells, Pt.slots] at X11 l11 y11 z11 st11 hQ11
                subst l11 y11 z11
                obtain ⟨rfl, N11q, HQ11⟩ := hQ11
                have N11 := Fr.app N10 N11q
                refine Goes.pre (U' := T11.setTop (mkF m 37 #[.val (.ref a), .val (.ref d), .val (.int (own_min (Int32.ofNat cl.length) (Int32.ofNat dl.length))), .val (.int (3 : Int32)), .val (.int (cl.getD (3 : Int32).toNatClampNeg 0)), .val (.int (dl.getD (3 : Int32).toNatClampNeg 0))] [(.int (dl.getD (3 : Int32).toNatClampNeg 0)), (.int (cl.getD (3 : Int32).toNatClampNeg 0))])) (fun t k => st11.trans (XS.istore X11.here hx rfl (hb hby d8_31) rfl (l' := #[.val (.ref a), .val (.ref d), .val (.int (own_min (Int32.ofNat cl.length) (Int32.ofNat dl.length))), .val (.int (3 : Int32)), .val (.int (cl.getD (3 : Int32).toNatClampNeg 0)), .val (.int (dl.getD (3 : Int32).toNatClampNeg 0))]) rfl (XS.iload X11.here hx rfl (hb hby d8_33) rfl (XS.iload X11.here hx rfl (hb hby d8_35) rfl k)))) ?_
                by_cases hc37_4 : (cl.getD (3 : Int32).toNatClampNeg 0) = (dl.getD (3 : Int32).toNatClampNeg 0)
                ·
                  refine Goes.pre (U' := T11.setTop (mkF m 55 #[.val (.ref a), .val (.ref d), .val (.int (own_min (Int32.ofNat cl.length) (Int32.ofNat dl.length))), .val (.int ((3 : Int32) + (1 : Int32))), .val (.int (cl.getD (3 : Int32).toNatClampNeg 0)), .val (.int (dl.getD (3 : Int32).toNatClampNeg 0))] [])) (fun t k => XS.icmpYes X11.here hx rfl (pc0 := 37) (pc' := 52) rfl (hb hby d8_37) rfl (teq hc37_4).1 (by decide) (by decide) (XT.iincV X11.here hx rfl (1 : Int32) (hb hby d8_52) (by decide) rfl (l' := #[.val (.ref a), .val (.ref d), .val (.int (own_min (Int32.ofNat cl.length) (Int32.ofNat dl.length))), .val (.int ((3 : Int32) + (1 : Int32))), .val (.int (cl.getD (3 : Int32).toNatClampNeg 0)), .val (.int (dl.getD (3 : Int32).toNatClampNeg 0))]) rfl k)) ?_
                  rw [(by decide : ((3 : Int32) + (1 : Int32)) = (4 : Int32))]
                  refine Goes.pre (U' := T11.setTop (mkF m 16 #[.val (.ref a), .val (.ref d), .val (.int (own_min (Int32.ofNat cl.length) (Int32.ofNat dl.length))), .val (.int (4 : Int32)), .val (.int (cl.getD (3 : Int32).toNatClampNeg 0)), .val (.int (dl.getD (3 : Int32).toNatClampNeg 0))] [(.int (own_min (Int32.ofNat cl.length) (Int32.ofNat dl.length))), (.int (4 : Int32))])) (fun t k => XS.goto X11.here hx rfl (pc0 := 55) (pc' := 14) rfl (hb hby d8_55) (by decide) (by decide) (XS.iloadN X11.here hx rfl (hb hby d8_14) rfl (XS.iloadN X11.here hx rfl (hb hby d8_15) rfl k))) ?_
                  have hf16 : ¬ ((4 : Int32) < (own_min (Int32.ofNat cl.length) (Int32.ofNat dl.length))) := (own_min4 cl dl hl1).1
                  refine Goes.pre (U' := T11.setTop (mkF m 59 #[.val (.ref a), .val (.ref d), .val (.int (own_min (Int32.ofNat cl.length) (Int32.ofNat dl.length))), .val (.int (4 : Int32)), .val (.int (cl.getD (3 : Int32).toNatClampNeg 0)), .val (.int (dl.getD (3 : Int32).toNatClampNeg 0))] [(.ref a)])) (fun t k => XS.icmpYes X11.here hx rfl (pc0 := 16) (pc' := 58) rfl (hb hby d8_16) rfl (flt hf16).2.1 (by decide) (by decide) (XS.aloadN X11.here hx rfl (hb hby d8_58) rfl rfl k)) ?_
                  obtain ⟨cq12, kq12, q12a, q12b, q12c⟩ := isOf hZ HQ11 S_a.1
                  obtain ⟨_, _, ⟨T12, L12, k12, n12⟩, -, X12, ⟨Lc12, hQ12, l12, y12, z12⟩, st12⟩ := X11.virtualBack hx (y := (⟨"java/lang/String", "length", "()I"⟩ : MethodName)) (z := (⟨"java/lang/String", "length", "()I"⟩ : MethodName)) hown (mvT hZ (wq hw 43 rfl)) (mvT hZ (wq hw 44 rfl)) (notFace_of_selects (args := #[]) (mvT hZ (wq hw 46 rfl))) (mvT hZ (wq hw 46 rfl)) (mvT hZ (wq hw 45 rfl)) (by decide) (backOf (W := 0) (rm_len l Z a0 hw [] a b ka cl cs h0 n0 Z0 S_a S_COMPACT_STRINGS hcs (Nat.le_trans hl1 (by decide)) O) hZ (wq hw 47 rfl) (wq hw 17 rfl) (by decide) (by decide)) q12a q12c (g := (mkF m 59 #[.val (.ref a), .val (.ref d), .val (.int (own_min (Int32.ofNat cl.length) (Int32.ofNat dl.length))), .val (.int (4 : Int32)), .val (.int (cl.getD (3 : Int32).toNatClampNeg 0)), .val (.int (dl.getD (3 : Int32).toNatClampNeg 0))] [(.ref a)])) rfl (by rw [hml]; rfl) (Steps.refl _) (argsL := []) (rest := []) (lenOf pd__28_29I rfl) rfl (by show 2 * 0 + _ ≤ _; exact Nat.le_of_eq rfl) (hb hby d8_59) (fun _ _ => ⟨rfl, HQ11, (by decide : 0 + 0 ≤ _), (by decide : 0 + 0 ≤ _)⟩)
                  dsimp only [Pt.U, Pt.locs, Pt.cells, Pt.slots] at X12 l12 y12 z12 st12 hQ12
                  subst l12 y12 z12
                  obtain ⟨rfl, N12q, HQ12⟩ := hQ12
                  have N12 := Fr.app N11 N12q
                  refine Goes.pre (U' := T12.setTop (mkF m 63 #[.val (.ref a), .val (.ref d), .val (.int (own_min (Int32.ofNat cl.length) (Int32.ofNat dl.length))), .val (.int (4 : Int32)), .val (.int (cl.getD (3 : Int32).toNatClampNeg 0)), .val (.int (dl.getD (3 : Int32).toNatClampNeg 0))] [(.ref d), (.int (Int32.ofNat cl.length))])) (fun t k => st12.trans (XS.aloadN X12.here hx rfl (hb hby d8_62) rfl rfl k)) ?_
                  obtain ⟨cq13, kq13, q13a, q13b, q13c⟩ := isOf hZ HQ12 S_d.1
                  obtain ⟨_, _, ⟨T13, L13, k13, n13⟩, -, X13, ⟨Lc13, hQ13, l13, y13, z13⟩, st13⟩ := X12.virtualBack hx (y := (⟨"java/lang/String", "length", "()I"⟩ : MethodName)) (z := (⟨"java/lang/String", "length", "()I"⟩ : MethodName)) hown (mvT hZ (wq hw 43 rfl)) (mvT hZ (wq hw 44 rfl)) (notFace_of_selects (args := #[]) (mvT hZ (wq hw 46 rfl))) (mvT hZ (wq hw 46 rfl)) (mvT hZ (wq hw 45 rfl)) (by decide) (backOf (W := 1) (rm_len l Z a0 hw [] d f kf dl cs h0 n0 Z0 S_d S_COMPACT_STRINGS hcs (Nat.le_trans hl2 (by decide)) O) hZ (wq hw 47 rfl) (wq hw 17 rfl) (by decide) (by decide)) q13a q13c (g := (mkF m 63 #[.val (.ref a), .val (.ref d), .val (.int (own_min (Int32.ofNat cl.length) (Int32.ofNat dl.length))), .val (.int (4 : Int32)), .val (.int (cl.getD (3 : Int32).toNatClampNeg 0)), .val (.int (dl.getD (3 : Int32).toNatClampNeg 0))] [(.ref d), (.int (Int32.ofNat cl.length))])) rfl (by rw [hml]; rfl) (Steps.refl _) (argsL := []) (rest := [(.int (Int32.ofNat cl.length))]) (lenOf pd__28_29I rfl) rfl (by show 2 * 0 + _ ≤ _; exact Nat.le_of_eq rfl) (hb hby d8_63) (fun _ _ => ⟨rfl, HQ12, (by decide : 0 + 0 ≤ _), (by decide : 0 + 0 ≤ _)⟩)
                  dsimp only [Pt.U, Pt.locs, Pt.cells, Pt.slots] at X13 l13 y13 z13 st13 hQ13
                  subst l13 y13 z13
                  obtain ⟨rfl, N13q, HQ13⟩ := hQ13
                  have N13 := Fr.app N12 N13q
                  refine Goes.pre (U' := T13.setTop (mkF m 67 #[.val (.ref a), .val (.ref d), .val (.int (own_min (Int32.ofNat cl.length) (Int32.ofNat dl.length))), .val (.int (4 : Int32)), .val (.int (cl.getD (3 : Int32).toNatClampNeg 0)), .val (.int (dl.getD (3 : Int32).toNatClampNeg 0))] [(.int ((Int32.ofNat cl.length) - (Int32.ofNat dl.length)))])) (fun t k => st13.trans (XS.isub X13.here hx rfl (hb hby d8_66) rfl k)) ?_
                  refine Goes.ret X13 (v := (some (.int ((Int32.ofNat cl.length) - (Int32.ofNat dl.length))))) (fun h => by rw [hret] at h; cases h) hlk (by decide) (by decide) HQ13 (fun fs hr => retI X13 hx hret (hb hby d8_67) hr) ?_
                  exact ⟨congrArg (fun z => some (Value.int z)) (show ((Int32.ofNat cl.length) - (Int32.ofNat dl.length)) = own_cmp cl dl from (show own_cmp cl dl = ((Int32.ofNat cl.length) - (Int32.ofNat dl.length)) from by unfold own_cmp; rw [if_pos hc16, if_pos hc37, if_pos hc16_2, if_pos hc37_2, if_pos hc16_3, if_pos hc37_3, if_pos hc16_4, if_pos hc37_4]).symm), N13, rfl⟩
                ·
                  refine Goes.pre (U' := T11.setTop (mkF m 42 #[.val (.ref a), .val (.ref d), .val (.int (own_min (Int32.ofNat cl.length) (Int32.ofNat dl.length))), .val (.int (3 : Int32)), .val (.int (cl.getD (3 : Int32).toNatClampNeg 0)), .val (.int (dl.getD (3 : Int32).toNatClampNeg 0))] [(.int (cl.getD (3 : Int32).toNatClampNeg 0))])) (fun t k => XS.icmpNo X11.here hx rfl (hb hby d8_37) rfl (feq hc37_4).1 (XS.iload X11.here hx rfl (hb hby d8_40) rfl k)) ?_
                  obtain ⟨_, _, ⟨T14, L14, k14, n14⟩, -, X14, ⟨Lc14, hQ14, l14, y14, z14⟩, st14⟩ := Jvm.LawKit.callS X11 hx (y := (⟨"com/example/bnodiff/bnodiff/model/CodePointOrder", "rank", "(C)I"⟩ : MethodName)) hown (mvT hZ (wq hw 126 rfl)) (mvT hZ (wq hw 127 rfl)) (mvT hZ (wq hw 41 rfl)) (mvT hZ (wq hw 128 rfl)) (by decide) (backOf (W := 0) (rm_rank l Z a0 hw [] (cl.getD (3 : Int32).toNatClampNeg 0) h0 n0 Z0) hZ (wq hw 128 rfl) (wq hw 41 rfl) (by decide) (by decide)) (g := (mkF m 42 #[.val (.ref a), .val (.ref d), .val (.int (own_min (Int32.ofNat cl.length) (Int32.ofNat dl.length))), .val (.int (3 : Int32)), .val (.int (cl.getD (3 : Int32).toNatClampNeg 0)), .val (.int (dl.getD (3 : Int32).toNatClampNeg 0))] [(.int (cl.getD (3 : Int32).toNatClampNeg 0))])) rfl (by rw [hml]; rfl) (argsL := [(.int (cl.getD (3 : Int32).toNatClampNeg 0))]) (rest := []) (lenOf pd__28C_29I rfl) rfl (by show 2 * 0 + _ ≤ _; exact Nat.le_of_eq rfl) (hb hby d8_42) (fun _ _ => ⟨rfl, HQ11, (by decide : 0 + 0 ≤ _), (by decide : 0 + 0 ≤ _)⟩)
                  dsimp only [Pt.U, Pt.locs, Pt.cells, Pt.slots] at X14 l14 y14 z14 st14 hQ14
                  subst l14 y14 z14
                  obtain ⟨rfl, N14q, HQ14⟩ := hQ14
                  have N14 := Fr.app N11 N14q
                  refine Goes.pre (U' := T14.setTop (mkF m 47 #[.val (.ref a), .val (.ref d), .val (.int (own_min (Int32.ofNat cl.length) (Int32.ofNat dl.length))), .val (.int (3 : Int32)), .val (.int (cl.getD (3 : Int32).toNatClampNeg 0)), .val (.int (dl.getD (3 : Int32).toNatClampNeg 0))] [(.int (dl.getD (3 : Int32).toNatClampNeg 0)), (.int (own_rank (cl.getD (3 : Int32).toNatClampNeg 0)))])) (fun t k => st14 t (XS.iload X14.here hx rfl (hb hby d8_45) rfl k)) ?_
                  obtain ⟨_, _, ⟨T15, L15, k15, n15⟩, -, X15, ⟨Lc15, hQ15, l15, y15, z15⟩, st15⟩ := Jvm.LawKit.callS X14 hx (y := (⟨"com/example/bnodiff/bnodiff/model/CodePointOrder", "rank", "(C)I"⟩ : MethodName)) hown (mvT hZ (wq hw 126 rfl)) (mvT hZ (wq hw 127 rfl)) (mvT hZ (wq hw 41 rfl)) (mvT hZ (wq hw 128 rfl)) (by decide) (backOf (W := 1) (rm_rank l Z a0 hw [] (dl.getD (3 : Int32).toNatClampNeg 0) h0 n0 Z0) hZ (wq hw 128 rfl) (wq hw 41 rfl) (by decide) (by decide)) (g := (mkF m 47 #[.val (.ref a), .val (.ref d), .val (.int (own_min (Int32.ofNat cl.length) (Int32.ofNat dl.length))), .val (.int (3 : Int32)), .val (.int (cl.getD (3 : Int32).toNatClampNeg 0)), .val (.int (dl.getD (3 : Int32).toNatClampNeg 0))] [(.int (dl.getD (3 : Int32).toNatClampNeg 0)), (.int (own_rank (cl.getD (3 : Int32).toNatClampNeg 0)))])) rfl (by rw [hml]; rfl) (argsL := [(.int (dl.getD (3 : Int32).toNatClampNeg 0))]) (rest := [(.int (own_rank (cl.getD (3 : Int32).toNatClampNeg 0)))]) (lenOf pd__28C_29I rfl) rfl (by show 2 * 0 + _ ≤ _; exact Nat.le_of_eq rfl) (hb hby d8_47) (fun _ _ => ⟨rfl, HQ14, (by decide : 0 + 0 ≤ _), (by decide : 0 + 0 ≤ _)⟩)
                  dsimp only [Pt.U, Pt.locs, Pt.cells, Pt.slots] at X15 l15 y15 z15 st15 hQ15
                  subst l15 y15 z15
                  obtain ⟨rfl, N15q, HQ15⟩ := hQ15
                  have N15 := Fr.app N14 N15q
                  refine Goes.pre (U' := T15.setTop (mkF m 51 #[.val (.ref a), .val (.ref d), .val (.int (own_min (Int32.ofNat cl.length) (Int32.ofNat dl.length))), .val (.int (3 : Int32)), .val (.int (cl.getD (3 : Int32).toNatClampNeg 0)), .val (.int (dl.getD (3 : Int32).toNatClampNeg 0))] [(.int ((own_rank (cl.getD (3 : Int32).toNatClampNeg 0)) - (own_rank (dl.getD (3 : Int32).toNatClampNeg 0))))])) (fun t k => st15 t (XS.isub X15.here hx rfl (hb hby d8_50) rfl k)) ?_
                  refine Goes.ret X15 (v := (some (.int ((own_rank (cl.getD (3 : Int32).toNatClampNeg 0)) - (own_rank (dl.getD (3 : Int32).toNatClampNeg 0)))))) (fun h => by rw [hret] at h; cases h) hlk (by decide) (by decide) HQ15 (fun fs hr => retI X15 hx hret (hb hby d8_51) hr) ?_
                  exact ⟨congrArg (fun z => some (Value.int z)) (show ((own_rank (cl.getD (3 : Int32).toNatClampNeg 0)) - (own_rank (dl.getD (3 : Int32).toNatClampNeg 0))) = own_cmp cl dl from (show own_cmp cl dl = ((own_rank (cl.getD (3 : Int32).toNatClampNeg 0)) - (own_rank (dl.getD (3 : Int32).toNatClampNeg 0))) from by unfold own_cmp; rw [if_pos hc16, if_pos hc37, if_pos hc16_2, if_pos hc37_2, if_pos hc16_3, if_pos hc37_3, if_pos hc16_4, if_neg hc37_4]).symm), N15, rfl⟩
              ·
                refine Goes.pre (U' := T9.setTop (mkF m 59 #[.val (.ref a), .val (.ref d), .val (.int (own_min (Int32.ofNat cl.length) (Int32.ofNat dl.length))), .val (.int (3 : Int32)), .val (.int (cl.getD (2 : Int32).toNatClampNeg 0)), .val (.int (dl.getD (2 : Int32).toNatClampNeg 0))] [(.ref a)])) (fun t k => XS.icmpYes X9.here hx rfl (pc0 := 16) (pc' := 58) rfl (hb hby d8_16) rfl (flt hc16_4).2.1 (by decide) (by decide) (XS.aloadN X9.here hx rfl (hb hby d8_58) rfl rfl k)) ?_
                obtain ⟨cq16, kq16, q16a, q16b, q16c⟩ := isOf hZ HQ9 S_a.1
                obtain ⟨_, _, ⟨T16, L16, k16, n16⟩, -, X16, ⟨Lc16, hQ16, l16, y16, z16⟩, st16⟩ := X9.virtualBack hx (y := (⟨"java/lang/String", "length", "()I"⟩ : MethodName)) (z := (⟨"java/lang/String", "length", "()I"⟩ : MethodName)) hown (mvT hZ (wq hw 43 rfl)) (mvT hZ (wq hw 44 rfl)) (notFace_of_selects (args := #[]) (mvT hZ (wq hw 46 rfl))) (mvT hZ (wq hw 46 rfl)) (mvT hZ (wq hw 45 rfl)) (by decide) (backOf (W := 0) (rm_len l Z a0 hw [] a b ka cl cs h0 n0 Z0 S_a S_COMPACT_STRINGS hcs (Nat.le_trans hl1 (by decide)) O) hZ (wq hw 47 rfl) (wq hw 17 rfl) (by decide) (by decide)) q16a q16c (g := (mkF m 59 #[.val (.ref a), .val (.ref d), .val (.int (own_min (Int32.ofNat cl.length) (Int32.ofNat dl.length))), .val (.int (3 : Int32)), .val (.int (cl.getD (2 : Int32).toNatClampNeg 0)), .val (.int (dl.getD (2 : Int32).toNatClampNeg 0))] [(.ref a)])) rfl (by rw [hml]; rfl) (Steps.refl _) (argsL := []) (rest := []) (lenOf pd__28_29I rfl) rfl (by show 2 * 0 + _ ≤ _; exact Nat.le_of_eq rfl) (hb hby d8_59) (fun _ _ => ⟨rfl, HQ9, (by decide : 0 + 0 ≤ _), (by decide : 0 + 0 ≤ _)⟩)
                dsimp only [Pt.U, Pt.locs, Pt.cells, Pt.slots] at X16 l16 y16 z16 st16 hQ16
                subst l16 y16 z16
                obtain ⟨rfl, N16q, HQ16⟩ := hQ16
                have N16 := Fr.app N9 N16q
                refine Goes.pre (U' := T16.setTop (mkF m 63 #[.val (.ref a), .val (.ref d), .val (.int (own_min (Int32.ofNat cl.length) (Int32.ofNat dl.length))), .val (.int (3 : Int32)), .val (.int (cl.getD (2 : Int32).toNatClampNeg 0)), .val (.int (dl.getD (2 : Int32).toNatClampNeg 0))] [(.ref d), (.int (Int32.ofNat cl.length))])) (fun t k => st16.trans (XS.aloadN X16.here hx rfl (hb hby d8_62) rfl rfl k)) ?_
                obtain ⟨cq17, kq17, q17a, q17b, q17c⟩ := isOf hZ HQ16 S_d.1
                obtain ⟨_, _, ⟨T17, L17, k17, n17⟩, -, X17, ⟨Lc17, hQ17, l17, y17, z17⟩, st17⟩ := X16.virtualBack hx (y := (⟨"java/lang/String", "length", "()I"⟩ : MethodName)) (z := (⟨"java/lang/String", "length", "()I"⟩ : MethodName)) hown (mvT hZ (wq hw 43 rfl)) (mvT hZ (wq hw 44 rfl)) (notFace_of_selects (args := #[]) (mvT hZ (wq hw 46 rfl))) (mvT hZ (wq hw 46 rfl)) (mvT hZ (wq hw 45 rfl)) (by decide) (backOf (W := 1) (rm_len l Z a0 hw [] d f kf dl cs h0 n0 Z0 S_d S_COMPACT_STRINGS hcs (Nat.le_trans hl2 (by decide)) O) hZ (wq hw 47 rfl) (wq hw 17 rfl) (by decide) (by decide)) q17a q17c (g := (mkF m 63 #[.val (.ref a), .val (.ref d), .val (.int (own_min (Int32.ofNat cl.length) (Int32.ofNat dl.length))), .val (.int (3 : Int32)), .val (.int (cl.getD (2 : Int32).toNatClampNeg 0)), .val (.int (dl.getD (2 : Int32).toNatClampNeg 0))] [(.ref d), (.int (Int32.ofNat cl.length))])) rfl (by rw [hml]; rfl) (Steps.refl _) (argsL := []) (rest := [(.int (Int32.ofNat cl.length))]) (lenOf pd__28_29I rfl) rfl (by show 2 * 0 + _ ≤ _; exact Nat.le_of_eq rfl) (hb hby d8_63) (fun _ _ => ⟨rfl, HQ16, (by decide : 0 + 0 ≤ _), (by decide : 0 + 0 ≤ _)⟩)
                dsimp only [Pt.U, Pt.locs, Pt.cells, Pt.slots] at X17 l17 y17 z17 st17 hQ17
                subst l17 y17 z17
                obtain ⟨rfl, N17q, HQ17⟩ := hQ17
                have N17 := Fr.app N16 N17q
                refine Goes.pre (U' := T17.setTop (mkF m 67 #[.val (.ref a), .val (.ref d), .val (.int (own_min (Int32.ofNat cl.length) (Int32.ofNat dl.length))), .val (.int (3 : Int32)), .val (.int (cl.getD (2 : Int32).toNatClampNeg 0)), .val (.int (dl.getD (2 : Int32).toNatClampNeg 0))] [(.int ((Int32.ofNat cl.length) - (Int32.ofNat dl.length)))])) (fun t k => st17.trans (XS.isub X17.here hx rfl (hb hby d8_66) rfl k)) ?_
                refine Goes.ret X17 (v := (some (.int ((Int32.ofNat cl.length) - (Int32.ofNat dl.length))))) (fun h => by rw [hret] at h; cases h) hlk (by decide) (by decide) HQ17 (fun fs hr => retI X17 hx hret (hb hby d8_67) hr) ?_
                exact ⟨congrArg (fun z => some (Value.int z)) (show ((Int32.ofNat cl.length) - (Int32.ofNat dl.length)) = own_cmp cl dl from (show own_cmp cl dl = ((Int32.ofNat cl.length) - (Int32.ofNat dl.length)) from by unfold own_cmp; rw [if_pos hc16, if_pos hc37, if_pos hc16_2, if_pos hc37_2, if_pos hc16_3, if_pos hc37_3, if_neg hc16_4]).symm), N17, rfl⟩
            ·
              refine Goes.pre (U' := T9.setTop (mkF m 42 #[.val (.ref a), .val (.ref d), .val (.int (own_min (Int32.ofNat cl.length) (Int32.ofNat dl.length))), .val (.int (2 : Int32)), .val (.int (cl.getD (2 : Int32).toNatClampNeg 0)), .val (.int (dl.getD (2 : Int32).toNatClampNeg 0))] [(.int (cl.getD (2 : Int32).toNatClampNeg 0))])) (fun t k => XS.icmpNo X9.here hx rfl (hb hby d8_37) rfl (feq hc37_3).1 (XS.iload X9.here hx rfl (hb hby d8_40) rfl k)) ?_
              obtain ⟨_, _, ⟨T18, L18, k18, n18⟩, -, X18, ⟨Lc18, hQ18, l18, y18, z18⟩, st18⟩ := Jvm.LawKit.callS X9 hx (y := (⟨"com/example/bnodiff/bnodiff/model/CodePointOrder", "rank", "(C)I"⟩ : MethodName)) hown (mvT hZ (wq hw 126 rfl)) (mvT hZ (wq hw 127 rfl)) (mvT hZ (wq hw 41 rfl)) (mvT hZ (wq hw 128 rfl)) (by decide) (backOf (W := 0) (rm_rank l Z a0 hw [] (cl.getD (2 : Int32).toNatClampNeg 0) h0 n0 Z0) hZ (wq hw 128 rfl) (wq hw 41 rfl) (by decide) (by decide)) (g := (mkF m 42 #[.val (.ref a), .val (.ref d), .val (.int (own_min (Int32.ofNat cl.length) (Int32.ofNat dl.length))), .val (.int (2 : Int32)), .val (.int (cl.getD (2 : Int32).toNatClampNeg 0)), .val (.int (dl.getD (2 : Int32).toNatClampNeg 0))] [(.int (cl.getD (2 : Int32).toNatClampNeg 0))])) rfl (by rw [hml]; rfl) (argsL := [(.int (cl.getD (2 : Int32).toNatClampNeg 0))]) (rest := []) (lenOf pd__28C_29I rfl) rfl (by show 2 * 0 + _ ≤ _; exact Nat.le_of_eq rfl) (hb hby d8_42) (fun _ _ => ⟨rfl, HQ9, (by decide : 0 + 0 ≤ _), (by decide : 0 + 0 ≤ _)⟩)
              dsimp only [Pt.U, Pt.locs, Pt.cells, Pt.slots] at X18 l18 y18 z18 st18 hQ18
              subst l18 y18 z18
              obtain ⟨rfl, N18q, HQ18⟩ := hQ18
              have N18 := Fr.app N9 N18q
              refine Goes.pre (U' := T18.setTop (mkF m 47 #[.val (.ref a), .val (.ref d), .val (.int (own_min (Int32.ofNat cl.length) (Int32.ofNat dl.length))), .val (.int (2 : Int32)), .val (.int (cl.getD (2 : Int32).toNatClampNeg 0)), .val (.int (dl.getD (2 : Int32).toNatClampNeg 0))] [(.int (dl.getD (2 : Int32).toNatClampNeg 0)), (.int (own_rank (cl.getD (2 : Int32).toNatClampNeg 0)))])) (fun t k => st18 t (XS.iload X18.here hx rfl (hb hby d8_45) rfl k)) ?_
              obtain ⟨_, _, ⟨T19, L19, k19, n19⟩, -, X19, ⟨Lc19, hQ19, l19, y19, z19⟩, st19⟩ := Jvm.LawKit.callS X18 hx (y := (⟨"com/example/bnodiff/bnodiff/model/CodePointOrder", "rank", "(C)I"⟩ : MethodName)) hown (mvT hZ (wq hw 126 rfl)) (mvT hZ (wq hw 127 rfl)) (mvT hZ (wq hw 41 rfl)) (mvT hZ (wq hw 128 rfl)) (by decide) (backOf (W := 1) (rm_rank l Z a0 hw [] (dl.getD (2 : Int32).toNatClampNeg 0) h0 n0 Z0) hZ (wq hw 128 rfl) (wq hw 41 rfl) (by decide) (by decide)) (g := (mkF m 47 #[.val (.ref a), .val (.ref d), .val (.int (own_min (Int32.ofNat cl.length) (Int32.ofNat dl.length))), .val (.int (2 : Int32)), .val (.int (cl.getD (2 : Int32).toNatClampNeg 0)), .val (.int (dl.getD (2 : Int32).toNatClampNeg 0))] [(.int (dl.getD (2 : Int32).toNatClampNeg 0)), (.int (own_rank (cl.getD (2 : Int32).toNatClampNeg 0)))])) rfl (by rw [hml]; rfl) (argsL := [(.int (dl.getD (2 : Int32).toNatClampNeg 0))]) (rest := [(.int (own_rank (cl.getD (2 : Int32).toNatClampNeg 0)))]) (lenOf pd__28C_29I rfl) rfl (by show 2 * 0 + _ ≤ _; exact Nat.le_of_eq rfl) (hb hby d8_47) (fun _ _ => ⟨rfl, HQ18, (by decide : 0 + 0 ≤ _), (by decide : 0 + 0 ≤ _)⟩)
              dsimp only [Pt.U, Pt.locs, Pt.cells, Pt.slots] at X19 l19 y19 z19 st19 hQ19
              subst l19 y19 z19
              obtain ⟨rfl, N19q, HQ19⟩ := hQ19
              have N19 := Fr.app N18 N19q
              refine Goes.pre (U' := T19.setTop (mkF m 51 #[.val (.ref a), .val (.ref d), .val (.int (own_min (Int32.ofNat cl.length) (Int32.ofNat dl.length))), .val (.int (2 : Int32)), .val (.int (cl.getD (2 : Int32).toNatClampNeg 0)), .val (.int (dl.getD (2 : Int32).toNatClampNeg 0))] [(.int ((own_rank (cl.getD (2 : Int32).toNatClampNeg 0)) - (own_rank (dl.getD (2 : Int32).toNatClampNeg 0))))])) (fun t k => st19 t (XS.isub X19.here hx rfl (hb hby d8_50) rfl k)) ?_
              refine Goes.ret X19 (v := (some (.int ((own_rank (cl.getD (2 : Int32).toNatClampNeg 0)) - (own_rank (dl.getD (2 : Int32).toNatClampNeg 0)))))) (fun h => by rw [hret] at h; cases h) hlk (by decide) (by decide) HQ19 (fun fs hr => retI X19 hx hret (hb hby d8_51) hr) ?_
              exact ⟨congrArg (fun z => some (Value.int z)) (show ((own_rank (cl.getD (2 : Int32).toNatClampNeg 0)) - (own_rank (dl.getD (2 : Int32).toNatClampNeg 0))) = own_cmp cl dl from (show own_cmp cl dl = ((own_rank (cl.getD (2 : Int32).toNatClampNeg 0)) - (own_rank (dl.getD (2 : Int32).toNatClampNeg 0))) from by unfold own_cmp; rw [if_pos hc16, if_pos hc37, if_pos hc16_2, if_pos hc37_2, if_pos hc16_3, if_neg hc37_3]).symm), N19, rfl⟩
          ·
            refine Goes.pre (U' := T7.setTop (mkF m 59 #[.val (.ref a), .val (.ref d), .val (.int (own_min (Int32.ofNat cl.length) (Int32.ofNat dl.length))), .val (.int (2 : Int32)), .val (.int (cl.getD (1 : Int32).toNatClampNeg 0)), .val (.int (dl.getD (1 : Int32).toNatClampNeg 0))] [(.ref a)])) (fun t k => XS.icmpYes X7.here hx rfl (pc0 := 16) (pc' := 58) rfl (hb hby d8_16) rfl (flt hc16_3).2.1 (by decide) (by decide) (XS.aloadN X7.here hx rfl (hb hby d8_58) rfl rfl k)) ?_
            obtain ⟨cq20, kq20, q20a, q20b, q20c⟩ := isOf hZ HQ7 S_a.1
            obtain ⟨_, _, ⟨T20, L20, k20, n20⟩, -, X20, ⟨Lc20, hQ20, l20, y20, z20⟩, st20⟩ := X7.virtualBack hx (y := (⟨"java/lang/String", "length", "()I"⟩ : MethodName)) (z := (⟨"java/lang/String", "length", "()I"⟩ : MethodName)) hown (mvT hZ (wq hw 43 rfl)) (mvT hZ (wq hw 44 rfl)) (notFace_of_selects (args := #[]) (mvT hZ (wq hw 46 rfl))) (mvT hZ (wq hw 46 rfl)) (mvT hZ (wq hw 45 rfl)) (by decide) (backOf (W := 0) (rm_len l Z a0 hw [] a b ka cl cs h0 n0 Z0 S_a S_COMPACT_STRINGS hcs (Nat.le_trans hl1 (by decide)) O) hZ (wq hw 47 rfl) (wq hw 17 rfl) (by decide) (by decide)) q20a q20c (g := (mkF m 59 #[.val (.ref a), .val (.ref d), .val (.int (own_min (Int32.ofNat cl.length) (Int32.ofNat dl.length))), .val (.int (2 : Int32)), .val (.int (cl.getD (1 : Int32).toNatClampNeg 0)), .val (.int (dl.getD (1 : Int32).toNatClampNeg 0))] [(.ref a)])) rfl (by rw [hml]; rfl) (Steps.refl _) (argsL := []) (rest := []) (lenOf pd__28_29I rfl) rfl (by show 2 * 0 + _ ≤ _; exact Nat.le_of_eq rfl) (hb hby d8_59) (fun _ _ => ⟨rfl, HQ7, (by decide : 0 + 0 ≤ _), (by decide : 0 + 0 ≤ _)⟩)
            dsimp only [Pt.U, Pt.locs, Pt.cells, Pt.slots] at X20 l20 y20 z20 st20 hQ20
            subst l20 y20 z20
            obtain ⟨rfl, N20q, HQ20⟩ := hQ20
            have N20 := Fr.app N7 N20q
            refine Goes.pre (U' := T20.setTop (mkF m 63 #[.val (.ref a), .val (.ref d), .val (.int (own_min (Int32.ofNat cl.length) (Int32.ofNat dl.length))), .val (.int (2 : Int32)), .val (.int (cl.getD (1 : Int32).toNatClampNeg 0)), .val (.int (dl.getD (1 : Int32).toNatClampNeg 0))] [(.ref d), (.int (Int32.ofNat cl.length))])) (fun t k => st20.trans (XS.aloadN X20.here hx rfl (hb hby d8_62) rfl rfl k)) ?_
            obtain ⟨cq21, kq21, q21a, q21b, q21c⟩ := isOf hZ HQ20 S_d.1
            obtain ⟨_, _, ⟨T21, L21, k21, n21⟩, -, X21, ⟨Lc21, hQ21, l21, y21, z21⟩, st21⟩ := X20.virtualBack hx (y := (⟨"java/lang/String", "length", "()I"⟩ : MethodName)) (z := (⟨"java/lang/String", "length", "()I"⟩ : MethodName)) hown (mvT hZ (wq hw 43 rfl)) (mvT hZ (wq hw 44 rfl)) (notFace_of_selects (args := #[]) (mvT hZ (wq hw 46 rfl))) (mvT hZ (wq hw 46 rfl)) (mvT hZ (wq hw 45 rfl)) (by decide) (backOf (W := 1) (rm_len l Z a0 hw [] d f kf dl cs h0 n0 Z0 S_d S_COMPACT_STRINGS hcs (Nat.le_trans hl2 (by decide)) O) hZ (wq hw 47 rfl) (wq hw 17 rfl) (by decide) (by decide)) q21a q21c (g := (mkF m 63 #[.val (.ref a), .val (.ref d), .val (.int (own_min (Int32.ofNat cl.length) (Int32.ofNat dl.length))), .val (.int (2 : Int32)), .val (.int (cl.getD (1 : Int32).toNatClampNeg 0)), .val (.int (dl.getD (1 : Int32).toNatClampNeg 0))] [(.ref d), (.int (Int32.ofNat cl.length))])) rfl (by rw [hml]; rfl) (Steps.refl _) (argsL := []) (rest := [(.int (Int32.ofNat cl.length))]) (lenOf pd__28_29I rfl) rfl (by show 2 * 0 + _ ≤ _; exact Nat.le_of_eq rfl) (hb hby d8_63) (fun _ _ => ⟨rfl, HQ20, (by decide : 0 + 0 ≤ _), (by decide : 0 + 0 ≤ _)⟩)
            dsimp only [Pt.U, Pt.locs, Pt.cells, Pt.slots] at X21 l21 y21 z21 st21 hQ21
            subst l21 y21 z21
            obtain ⟨rfl, N21q, HQ21⟩ := hQ21
            have N21 := Fr.app N20 N21q
            refine Goes.pre (U' := T21.setTop (mkF m 67 #[.val (.ref a), .val (.ref d), .val (.int (own_min (Int32.ofNat cl.length) (Int32.ofNat dl.length))), .val (.int (2 : Int32)), .val (.int (cl.getD (1 : Int32).toNatClampNeg 0)), .val (.int (dl.getD (1 : Int32).toNatClampNeg 0))] [(.int ((Int32.ofNat cl.length) - (Int32.ofNat dl.length)))])) (fun t k => st21.trans (XS.isub X21.here hx rfl (hb hby d8_66) rfl k)) ?_
            refine Goes.ret X21 (v := (some (.int ((Int32.ofNat cl.length) - (Int32.ofNat dl.length))))) (fun h => by rw [hret] at h; cases h) hlk (by decide) (by decide) HQ21 (fun fs hr => retI X21 hx hret (hb hby d8_67) hr) ?_
            exact ⟨congrArg (fun z => some (Value.int z)) (show ((Int32.ofNat cl.length) - (Int32.ofNat dl.length)) = own_cmp cl dl from (show own_cmp cl dl = ((Int32.ofNat cl.length) - (Int32.ofNat dl.length)) from by unfold own_cmp; rw [if_pos hc16, if_pos hc37, if_pos hc16_2, if_pos hc37_2, if_neg hc16_3]).symm), N21, rfl⟩
        ·
          refine Goes.pre (U' := T7.setTop (mkF m 42 #[.val (.ref a), .val (.ref d), .val (.int (own_min (Int32.ofNat cl.length) (Int32.ofNat dl.length))), .val (.int (1 : Int32)), .val (.int (cl.getD (1 : Int32).toNatClampNeg 0)), .val (.int (dl.getD (1 : Int32).toNatClampNeg 0))] [(.int (cl.getD (1 : Int32).toNatClampNeg 0))])) (fun t k => XS.icmpNo X7.here hx rfl (hb hby d8_37) rfl (feq hc37_2).1 (XS.iload X7.here hx rfl (hb hby d8_40) rfl k)) ?_
          obtain ⟨_, _, ⟨T22, L22, k22, n22⟩, -, X22, ⟨Lc22, hQ22, l22, y22, z22⟩, st22⟩ := Jvm.LawKit.callS X7 hx (y := (⟨"com/example/bnodiff/bnodiff/model/CodePointOrder", "rank", "(C)I"⟩ : MethodName)) hown (mvT hZ (wq hw 126 rfl)) (mvT hZ (wq hw 127 rfl)) (mvT hZ (wq hw 41 rfl)) (mvT hZ (wq hw 128 rfl)) (by decide) (backOf (W := 0) (rm_rank l Z a0 hw [] (cl.getD (1 : Int32).toNatClampNeg 0) h0 n0 Z0) hZ (wq hw 128 rfl) (wq hw 41 rfl) (by decide) (by decide)) (g := (mkF m 42 #[.val (.ref a), .val (.ref d), .val (.int (own_min (Int32.ofNat cl.length) (Int32.ofNat dl.length))), .val (.int (1 : Int32)), .val (.int (cl.getD (1 : Int32).toNatClampNeg 0)), .val (.int (dl.getD (1 : Int32).toNatClampNeg 0))] [(.int (cl.getD (1 : Int32).toNatClampNeg 0))])) rfl (by rw [hml]; rfl) (argsL := [(.int (cl.getD (1 : Int32).toNatClampNeg 0))]) (rest := []) (lenOf pd__28C_29I rfl) rfl (by show 2 * 0 + _ ≤ _; exact Nat.le_of_eq rfl) (hb hby d8_42) (fun _ _ => ⟨rfl, HQ7, (by decide : 0 + 0 ≤ _), (by decide : 0 + 0 ≤ _)⟩)
          dsimp only [Pt.U, Pt.locs, Pt.cells, Pt.slots] at X22 l22 y22 z22 st22 hQ22
          subst l22 y22 z22
          obtain ⟨rfl, N22q, HQ22⟩ := hQ22
          have N22 := Fr.app N7 N22q
          refine Goes.pre (U' := T22.setTop (mkF m 47 #[.val (.ref a), .val (.ref d), .val (.int (own_min (Int32.ofNat cl.length) (Int32.ofNat dl.length))), .val (.int (1 : Int32)), .val (.int (cl.getD (1 : Int32).toNatClampNeg 0)), .val (.int (dl.getD (1 : Int32).toNatClampNeg 0))] [(.int (dl.getD (1 : Int32).toNatClampNeg 0)), (.int (own_rank (cl.getD (1 : Int32).toNatClampNeg 0)))])) (fun t k => st22 t (XS.iload X22.here hx rfl (hb hby d8_45) rfl k)) ?_
          obtain ⟨_, _, ⟨T23, L23, k23, n23⟩, -, X23, ⟨Lc23, hQ23, l23, y23, z23⟩, st23⟩ := Jvm.LawKit.callS X22 hx (y := (⟨"com/example/bnodiff/bnodiff/model/CodePointOrder", "rank", "(C)I"⟩ : MethodName)) hown (mvT hZ (wq hw 126 rfl)) (mvT hZ (wq hw 127 rfl)) (mvT hZ (wq hw 41 rfl)) (mvT hZ (wq hw 128 rfl)) (by decide) (backOf (W := 1) (rm_rank l Z a0 hw [] (dl.getD (1 : Int32).toNatClampNeg 0) h0 n0 Z0) hZ (wq hw 128 rfl) (wq hw 41 rfl) (by decide) (by decide)) (g := (mkF m 47 #[.val (.ref a), .val (.ref d), .val (.int (own_min (Int32.ofNat cl.length) (Int32.ofNat dl.length))), .val (.int (1 : Int32)), .val (.int (cl.getD (1 : Int32).toNatClampNeg 0)), .val (.int (dl.getD (1 : Int32).toNatClampNeg 0))] [(.int (dl.getD (1 : Int32).toNatClampNeg 0)), (.int (own_rank (cl.getD (1 : Int32).toNatClampNeg 0)))])) rfl (by rw [hml]; rfl) (argsL := [(.int (dl.getD (1 : Int32).toNatClampNeg 0))]) (rest := [(.int (own_rank (cl.getD (1 : Int32).toNatClampNeg 0)))]) (lenOf pd__28C_29I rfl) rfl (by show 2 * 0 + _ ≤ _; exact Nat.le_of_eq rfl) (hb hby d8_47) (fun _ _ => ⟨rfl, HQ22, (by decide : 0 + 0 ≤ _), (by decide : 0 + 0 ≤ _)⟩)
          dsimp only [Pt.U, Pt.locs, Pt.cells, Pt.slots] at X23 l23 y23 z23 st23 hQ23
          subst l23 y23 z23
          obtain ⟨rfl, N23q, HQ23⟩ := hQ23
          have N23 := Fr.app N22 N23q
          refine Goes.pre (U' := T23.setTop (mkF m 51 #[.val (.ref a), .val (.ref d), .val (.int (own_min (Int32.ofNat cl.length) (Int32.ofNat dl.length))), .val (.int (1 : Int32)), .val (.int (cl.getD (1 : Int32).toNatClampNeg 0)), .val (.int (dl.getD (1 : Int32).toNatClampNeg 0))] [(.int ((own_rank (cl.getD (1 : Int32).toNatClampNeg 0)) - (own_rank (dl.getD (1 : Int32).toNatClampNeg 0))))])) (fun t k => st23 t (XS.isub X23.here hx rfl (hb hby d8_50) rfl k)) ?_
          refine Goes.ret X23 (v := (some (.int ((own_rank (cl.getD (1 : Int32).toNatClampNeg 0)) - (own_rank (dl.getD (1 : Int32).toNatClampNeg 0)))))) (fun h => by rw [hret] at h; cases h) hlk (by decide) (by decide) HQ23 (fun fs hr => retI X23 hx hret (hb hby d8_51) hr) ?_
          exact ⟨congrArg (fun z => some (Value.int z)) (show ((own_rank (cl.getD (1 : Int32).toNatClampNeg 0)) - (own_rank (dl.getD (1 : Int32).toNatClampNeg 0))) = own_cmp cl dl from (show own_cmp cl dl = ((own_rank (cl.getD (1 : Int32).toNatClampNeg 0)) - (own_rank (dl.getD (1 : Int32).toNatClampNeg 0))) from by unfold own_cmp; rw [if_pos hc16, if_pos hc37, if_pos hc16_2, if_neg hc37_2]).symm), N23, rfl⟩
      ·
        refine Goes.pre (U' := T5.setTop (mkF m 59 #[.val (.ref a), .val (.ref d), .val (.int (own_min (Int32.ofNat cl.length) (Int32.ofNat dl.length))), .val (.int (1 : Int32)), .val (.int (cl.getD (0 : Int32).toNatClampNeg 0)), .val (.int (dl.getD (0 : Int32).toNatClampNeg 0))] [(.ref a)])) (fun t k => XS.icmpYes X5.here hx rfl (pc0 := 16) (pc' := 58) rfl (hb hby d8_16) rfl (flt hc16_2).2.1 (by decide) (by decide) (XS.aloadN X5.here hx rfl (hb hby d8_58) rfl rfl k)) ?_
        obtain ⟨cq24, kq24, q24a, q24b, q24c⟩ := isOf hZ HQ5 S_a.1
        obtain ⟨_, _, ⟨T24, L24, k24, n24⟩, -, X24, ⟨Lc24, hQ24, l24, y24, z24⟩, st24⟩ := X5.virtualBack hx (y := (⟨"java/lang/String", "length", "()I"⟩ : MethodName)) (z := (⟨"java/lang/String", "length", "()I"⟩ : MethodName)) hown (mvT hZ (wq hw 43 rfl)) (mvT hZ (wq hw 44 rfl)) (notFace_of_selects (args := #[]) (mvT hZ (wq hw 46 rfl))) (mvT hZ (wq hw 46 rfl)) (mvT hZ (wq hw 45 rfl)) (by decide) (backOf (W := 0) (rm_len l Z a0 hw [] a b ka cl cs h0 n0 Z0 S_a S_COMPACT_STRINGS hcs (Nat.le_trans hl1 (by decide)) O) hZ (wq hw 47 rfl) (wq hw 17 rfl) (by decide) (by decide)) q24a q24c (g := (mkF m 59 #[.val (.ref a), .val (.ref d), .val (.int (own_min (Int32.ofNat cl.length) (Int32.ofNat dl.length))), .val (.int (1 : Int32)), .val (.int (cl.getD (0 : Int32).toNatClampNeg 0)), .val (.int (dl.getD (0 : Int32).toNatClampNeg 0))] [(.ref a)])) rfl (by rw [hml]; rfl) (Steps.refl _) (argsL := []) (rest := []) (lenOf pd__28_29I rfl) rfl (by show 2 * 0 + _ ≤ _; exact Nat.le_of_eq rfl) (hb hby d8_59) (fun _ _ => ⟨rfl, HQ5, (by decide : 0 + 0 ≤ _), (by decide : 0 + 0 ≤ _)⟩)
        dsimp only [Pt.U, Pt.locs, Pt.cells, Pt.slots] at X24 l24 y24 z24 st24 hQ24
        subst l24 y24 z24
        obtain ⟨rfl, N24q, HQ24⟩ := hQ24
        have N24 := Fr.app N5 N24q
        refine Goes.pre (U' := T24.setTop (mkF m 63 #[.val (.ref a), .val (.ref d), .val (.int (own_min (Int32.ofNat cl.length) (Int32.ofNat dl.length))), .val (.int (1 : Int32)), .val (.int (cl.getD (0 : Int32).toNatClampNeg 0)), .val (.int (dl.getD (0 : Int32).toNatClampNeg 0))] [(.ref d), (.int (Int32.ofNat cl.length))])) (fun t k => st24.trans (XS.aloadN X24.here hx rfl (hb hby d8_62) rfl rfl k)) ?_
        obtain ⟨cq25, kq25, q25a, q25b, q25c⟩ := isOf hZ HQ24 S_d.1
        obtain ⟨_, _, ⟨T25, L25, k25, n25⟩, -, X25, ⟨Lc25, hQ25, l25, y25, z25⟩, st25⟩ := X24.virtualBack hx (y := (⟨"java/lang/String", "length", "()I"⟩ : MethodName)) (z := (⟨"java/lang/String", "length", "()I"⟩ : MethodName)) hown (mvT hZ (wq hw 43 rfl)) (mvT hZ (wq hw 44 rfl)) (notFace_of_selects (args := #[]) (mvT hZ (wq hw 46 rfl))) (mvT hZ (wq hw 46 rfl)) (mvT hZ (wq hw 45 rfl)) (by decide) (backOf (W := 1) (rm_len l Z a0 hw [] d f kf dl cs h0 n0 Z0 S_d S_COMPACT_STRINGS hcs (Nat.le_trans hl2 (by decide)) O) hZ (wq hw 47 rfl) (wq hw 17 rfl) (by decide) (by decide)) q25a q25c (g := (mkF m 63 #[.val (.ref a), .val (.ref d), .val (.int (own_min (Int32.ofNat cl.length) (Int32.ofNat dl.length))), .val (.int (1 : Int32)), .val (.int (cl.getD (0 : Int32).toNatClampNeg 0)), .val (.int (dl.getD (0 : Int32).toNatClampNeg 0))] [(.ref d), (.int (Int32.ofNat cl.length))])) rfl (by rw [hml]; rfl) (Steps.refl _) (argsL := []) (rest := [(.int (Int32.ofNat cl.length))]) (lenOf pd__28_29I rfl) rfl (by show 2 * 0 + _ ≤ _; exact Nat.le_of_eq rfl) (hb hby d8_63) (fun _ _ => ⟨rfl, HQ24, (by decide : 0 + 0 ≤ _), (by decide : 0 + 0 ≤ _)⟩)
        dsimp only [Pt.U, Pt.locs, Pt.cells, Pt.slots] at X25 l25 y25 z25 st25 hQ25
        subst l25 y25 z25
        obtain ⟨rfl, N25q, HQ25⟩ := hQ25
        have N25 := Fr.app N24 N25q
        refine Goes.pre (U' := T25.setTop (mkF m 67 #[.val (.ref a), .val (.ref d), .val (.int (own_min (Int32.ofNat cl.length) (Int32.ofNat dl.length))), .val (.int (1 : Int32)), .val (.int (cl.getD (0 : Int32).toNatClampNeg 0)), .val (.int (dl.getD (0 : Int32).toNatClampNeg 0))] [(.int ((Int32.ofNat cl.length) - (Int32.ofNat dl.length)))])) (fun t k => st25.trans (XS.isub X25.here hx rfl (hb hby d8_66) rfl k)) ?_
        refine Goes.ret X25 (v := (some (.int ((Int32.ofNat cl.length) - (Int32.ofNat dl.length))))) (fun h => by rw [hret] at h; cases h) hlk (by decide) (by decide) HQ25 (fun fs hr => retI X25 hx hret (hb hby d8_67) hr) ?_
        exact ⟨congrArg (fun z => some (Value.int z)) (show ((Int32.ofNat cl.length) - (Int32.ofNat dl.length)) = own_cmp cl dl from (show own_cmp cl dl = ((Int32.ofNat cl.length) - (Int32.ofNat dl.length)) from by unfold own_cmp; rw [if_pos hc16, if_pos hc37, if_neg hc16_2]).symm), N25, rfl⟩
    ·
      refine Goes.pre (U' := T5.setTop (mkF m 42 #[.val (.ref a), .val (.ref d), .val (.int (own_min (Int32.ofNat cl.length) (Int32.ofNat dl.length))), .val (.int (0 : Int32)), .val (.int (cl.getD (0 : Int32).toNatClampNeg 0)), .val (.int (dl.getD (0 : Int32).toNatClampNeg 0))] [(.int (cl.getD (0 : Int32).toNatClampNeg 0))])) (fun t k => XS.icmpNo X5.here hx rfl (hb hby d8_37) rfl (feq hc37).1 (XS.iload X5.here hx rfl (hb hby d8_40) rfl k)) ?_
      obtain ⟨_, _, ⟨T26, L26, k26, n26⟩, -, X26, ⟨Lc26, hQ26, l26, y26, z26⟩, st26⟩ := Jvm.LawKit.callS X5 hx (y := (⟨"com/example/bnodiff/bnodiff/model/CodePointOrder", "rank", "(C)I"⟩ : MethodName)) hown (mvT hZ (wq hw 126 rfl)) (mvT hZ (wq hw 127 rfl)) (mvT hZ (wq hw 41 rfl)) (mvT hZ (wq hw 128 rfl)) (by decide) (backOf (W := 0) (rm_rank l Z a0 hw [] (cl.getD (0 : Int32).toNatClampNeg 0) h0 n0 Z0) hZ (wq hw 128 rfl) (wq hw 41 rfl) (by decide) (by decide)) (g := (mkF m 42 #[.val (.ref a), .val (.ref d), .val (.int (own_min (Int32.ofNat cl.length) (Int32.ofNat dl.length))), .val (.int (0 : Int32)), .val (.int (cl.getD (0 : Int32).toNatClampNeg 0)), .val (.int (dl.getD (0 : Int32).toNatClampNeg 0))] [(.int (cl.getD (0 : Int32).toNatClampNeg 0))])) rfl (by rw [hml]; rfl) (argsL := [(.int (cl.getD (0 : Int32).toNatClampNeg 0))]) (rest := []) (lenOf pd__28C_29I rfl) rfl (by show 2 * 0 + _ ≤ _; exact Nat.le_of_eq rfl) (hb hby d8_42) (fun _ _ => ⟨rfl, HQ5, (by decide : 0 + 0 ≤ _), (by decide : 0 + 0 ≤ _)⟩)
      dsimp only [Pt.U, Pt.locs, Pt.cells, Pt.slots] at X26 l26 y26 z26 st26 hQ26
      subst l26 y26 z26
      obtain ⟨rfl, N26q, HQ26⟩ := hQ26
      have N26 := Fr.app N5 N26q
      refine Goes.pre (U' := T26.setTop (mkF m 47 #[.val (.ref a), .val (.ref d), .val (.int (own_min (Int32.ofNat cl.length) (Int32.ofNat dl.length))), .val (.int (0 : Int32)), .val (.int (cl.getD (0 : Int32).toNatClampNeg 0)), .val (.int (dl.getD (0 : Int32).toNatClampNeg 0))] [(.int (dl.getD (0 : Int32).toNatClampNeg 0)), (.int (own_rank (cl.getD (0 : Int32).toNatClampNeg 0)))])) (fun t k => st26 t (XS.iload X26.here hx rfl (hb hby d8_45) rfl k)) ?_
      obtain ⟨_, _, ⟨T27, L27, k27, n27⟩, -, X27, ⟨Lc27, hQ27, l27, y27, z27⟩, st27⟩ := Jvm.LawKit.callS X26 hx (y := (⟨"com/example/bnodiff/bnodiff/model/CodePointOrder", "rank", "(C)I"⟩ : MethodName)) hown (mvT hZ (wq hw 126 rfl)) (mvT hZ (wq hw 127 rfl)) (mvT hZ (wq hw 41 rfl)) (mvT hZ (wq hw 128 rfl)) (by decide) (backOf (W := 1) (rm_rank l Z a0 hw [] (dl.getD (0 : Int32).toNatClampNeg 0) h0 n0 Z0) hZ (wq hw 128 rfl) (wq hw 41 rfl) (by decide) (by decide)) (g := (mkF m 47 #[.val (.ref a), .val (.ref d), .val (.int (own_min (Int32.ofNat cl.length) (Int32.ofNat dl.length))), .val (.int (0 : Int32)), .val (.int (cl.getD (0 : Int32).toNatClampNeg 0)), .val (.int (dl.getD (0 : Int32).toNatClampNeg 0))] [(.int (dl.getD (0 : Int32).toNatClampNeg 0)), (.int (own_rank (cl.getD (0 : Int32).toNatClampNeg 0)))])) rfl (by rw [hml]; rfl) (argsL := [(.int (dl.getD (0 : Int32).toNatClampNeg 0))]) (rest := [(.int (own_rank (cl.getD (0 : Int32).toNatClampNeg 0)))]) (lenOf pd__28C_29I rfl) rfl (by show 2 * 0 + _ ≤ _; exact Nat.le_of_eq rfl) (hb hby d8_47) (fun _ _ => ⟨rfl, HQ26, (by decide : 0 + 0 ≤ _), (by decide : 0 + 0 ≤ _)⟩)
      dsimp only [Pt.U, Pt.locs, Pt.cells, Pt.slots] at X27 l27 y27 z27 st27 hQ27
      subst l27 y27 z27
      obtain ⟨rfl, N27q, HQ27⟩ := hQ27
      have N27 := Fr.app N26 N27q
      refine Goes.pre (U' := T27.setTop (mkF m 51 #[.val (.ref a), .val (.ref d), .val (.int (own_min (Int32.ofNat cl.length) (Int32.ofNat dl.length))), .val (.int (0 : Int32)), .val (.int (cl.getD (0 : Int32).toNatClampNeg 0)), .val (.int (dl.getD (0 : Int32).toNatClampNeg 0))] [(.int ((own_rank (cl.getD (0 : Int32).toNatClampNeg 0)) - (own_rank (dl.getD (0 : Int32).toNatClampNeg 0))))])) (fun t k => st27 t (XS.isub X27.here hx rfl (hb hby d8_50) rfl k)) ?_
      refine Goes.ret X27 (v := (some (.int ((own_rank (cl.getD (0 : Int32).toNatClampNeg 0)) - (own_rank (dl.getD (0 : Int32).toNatClampNeg 0)))))) (fun h => by rw [hret] at h; cases h) hlk (by decide) (by decide) HQ27 (fun fs hr => retI X27 hx hret (hb hby d8_51) hr) ?_
      exact ⟨congrArg (fun z => some (Value.int z)) (show ((own_rank (cl.getD (0 : Int32).toNatClampNeg 0)) - (own_rank (dl.getD (0 : Int32).toNatClampNeg 0))) = own_cmp cl dl from (show own_cmp cl dl = ((own_rank (cl.getD (0 : Int32).toNatClampNeg 0)) - (own_rank (dl.getD (0 : Int32).toNatClampNeg 0))) from by unfold own_cmp; rw [if_pos hc16, if_neg hc37]).symm), N27, rfl⟩
  ·
    refine Goes.pre (U' := T3.setTop (mkF m 59 #[.val (.ref a), .val (.ref d), .val (.int (own_min (Int32.ofNat cl.length) (Int32.ofNat dl.length))), .val (.int (0 : Int32)), .unset, .unset] [(.ref a)])) (fun t k => XS.icmpYes X3.here hx rfl (pc0 := 16) (pc' := 58) rfl (hb hby d8_16) rfl (flt hc16).2.1 (by decide) (by decide) (XS.aloadN X3.here hx rfl (hb hby d8_58) rfl rfl k)) ?_
    obtain ⟨cq28, kq28, q28a, q28b, q28c⟩ := isOf hZ HQ3 S_a.1
    obtain ⟨_, _, ⟨T28, L28, k28, n28⟩, -, X28, ⟨Lc28, hQ28, l28, y28, z28⟩, st28⟩ := X3.virtualBack hx (y := (⟨"java/lang/String", "length", "()I"⟩ : MethodName)) (z := (⟨"java/lang/String", "length", "()I"⟩ : MethodName)) hown (mvT hZ (wq hw 43 rfl)) (mvT hZ (wq hw 44 rfl)) (notFace_of_selects (args := #[]) (mvT hZ (wq hw 46 rfl))) (mvT hZ (wq hw 46 rfl)) (mvT hZ (wq hw 45 rfl)) (by decide) (backOf (W := 0) (rm_len l Z a0 hw [] a b ka cl cs h0 n0 Z0 S_a S_COMPACT_STRINGS hcs (Nat.le_trans hl1 (by decide)) O) hZ (wq hw 47 rfl) (wq hw 17 rfl) (by decide) (by decide)) q28a q28c (g := (mkF m 59 #[.val (.ref a), .val (.ref d), .val (.int (own_min (Int32.ofNat cl.length) (Int32.ofNat dl.length))), .val (.int (0 : Int32)), .unset, .unset] [(.ref a)])) rfl (by rw [hml]; rfl) (Steps.refl _) (argsL := []) (rest := []) (lenOf pd__28_29I rfl) rfl (by show 2 * 0 + _ ≤ _; exact Nat.le_of_eq rfl) (hb hby d8_59) (fun _ _ => ⟨rfl, HQ3, (by decide : 0 + 0 ≤ _), (by decide : 0 + 0 ≤ _)⟩)
    dsimp only [Pt.U, Pt.locs, Pt.cells, Pt.slots] at X28 l28 y28 z28 st28 hQ28
    subst l28 y28 z28
    obtain ⟨rfl, N28q, HQ28⟩ := hQ28
    have N28 := Fr.app N3 N28q
    refine Goes.pre (U' := T28.setTop (mkF m 63 #[.val (.ref a), .val (.ref d), .val (.int (own_min (Int32.ofNat cl.length) (Int32.ofNat dl.length))), .val (.int (0 : Int32)), .unset, .unset] [(.ref d), (.int (Int32.ofNat cl.length))])) (fun t k => st28.trans (XS.aloadN X28.here hx rfl (hb hby d8_62) rfl rfl k)) ?_
    obtain ⟨cq29, kq29, q29a, q29b, q29c⟩ := isOf hZ HQ28 S_d.1
    obtain ⟨_, _, ⟨T29, L29, k29, n29⟩, -, X29, ⟨Lc29, hQ29, l29, y29, z29⟩, st29⟩ := X28.virtualBack hx (y := (⟨"java/lang/String", "length", "()I"⟩ : MethodName)) (z := (⟨"java/lang/String", "length", "()I"⟩ : MethodName)) hown (mvT hZ (wq hw 43 rfl)) (mvT hZ (wq hw 44 rfl)) (notFace_of_selects (args := #[]) (mvT hZ (wq hw 46 rfl))) (mvT hZ (wq hw 46 rfl)) (mvT hZ (wq hw 45 rfl)) (by decide) (backOf (W := 1) (rm_len l Z a0 hw [] d f kf dl cs h0 n0 Z0 S_d S_COMPACT_STRINGS hcs (Nat.le_trans hl2 (by decide)) O) hZ (wq hw 47 rfl) (wq hw 17 rfl) (by decide) (by decide)) q29a q29c (g := (mkF m 63 #[.val (.ref a), .val (.ref d), .val (.int (own_min (Int32.ofNat cl.length) (Int32.ofNat dl.length))), .val (.int (0 : Int32)), .unset, .unset] [(.ref d), (.int (Int32.ofNat cl.length))])) rfl (by rw [hml]; rfl) (Steps.refl _) (argsL := []) (rest := [(.int (Int32.ofNat cl.length))]) (lenOf pd__28_29I rfl) rfl (by show 2 * 0 + _ ≤ _; exact Nat.le_of_eq rfl) (hb hby d8_63) (fun _ _ => ⟨rfl, HQ28, (by decide : 0 + 0 ≤ _), (by decide : 0 + 0 ≤ _)⟩)
    dsimp only [Pt.U, Pt.locs, Pt.cells, Pt.slots] at X29 l29 y29 z29 st29 hQ29
    subst l29 y29 z29
    obtain ⟨rfl, N29q, HQ29⟩ := hQ29
    have N29 := Fr.app N28 N29q
    refine Goes.pre (U' := T29.setTop (mkF m 67 #[.val (.ref a), .val (.ref d), .val (.int (own_min (Int32.ofNat cl.length) (Int32.ofNat dl.length))), .val (.int (0 : Int32)), .unset, .unset] [(.int ((Int32.ofNat cl.length) - (Int32.ofNat dl.length)))])) (fun t k => st29.trans (XS.isub X29.here hx rfl (hb hby d8_66) rfl k)) ?_
    refine Goes.ret X29 (v := (some (.int ((Int32.ofNat cl.length) - (Int32.ofNat dl.length))))) (fun h => by rw [hret] at h; cases h) hlk (by decide) (by decide) HQ29 (fun fs hr => retI X29 hx hret (hb hby d8_67) hr) ?_
    exact ⟨congrArg (fun z => some (Value.int z)) (show ((Int32.ofNat cl.length) - (Int32.ofNat dl.length)) = own_cmp cl dl from (show own_cmp cl dl = ((Int32.ofNat cl.length) - (Int32.ofNat dl.length)) from by unfold own_cmp; rw [if_neg hc16]).symm), N29, rfl⟩
def OwnCp (q : Int32) : Prop := 0 ≤ q.toInt ∧ q.toInt < 1114112 ∧ (q.toInt < 55296 ∨ 57344 ≤ q.toInt)
theorem own_cpok (q : Int32) : OwnCp (own_cp q) := by
  have s := c_iushr q 2 2 (by decide) (by decide)
  unfold own_cp OwnCp
  generalize (q.toUInt32 >>> ((2 : Int32) &&& 31).toUInt32).toInt32 = y at *
  have m1 := c_mask y 127 7 (by decide) (by decide)
  have m2 := c_mask y 8191 13 (by decide) (by decide)
  have m3 := c_irem y 55296 55296 (by decide)
  have m4 := c_irem y 1048576 1048576 (by decide)
  have a2 := c_iadd 57344 (y &&& 8191)
  have a4 := c_iadd 65536 (y % 1048576)
  have k2 : (57344 : Int32).toInt = 57344 := by decide
  have k4 : (65536 : Int32).toInt = 65536 := by decide
  have r2 := rng32 ((57344 : Int32) + (y &&& 8191))
  have r4 := rng32 ((65536 : Int32) + (y % 1048576))
  have h0 : 0 ≤ y.toInt := by omega
  have m3 := m3.1 h0
  have m4 := m4.1 h0
  split
  · omega
  · split
    · omega
    · split <;> omega
theorem own_xorb (a b : Int32) (h0 : 0 ≤ b.toInt) (h1 : b.toInt < 1024) : (a ^^^ b).toInt / 1024 = a.toInt / 1024 := by
  have s := c_ishr (a ^^^ b) 10 10 (by decide)
  have s1 := c_ishr a 10 10 (by decide)
  have s2 := c_ishr b 10 10 (by decide)
  have e : b >>> ((10 : Int32) &&& 31) = 0 := by
    apply Int32.toInt_inj.mp
    rw [s2, show (0 : Int32).toInt = 0 from by decide]
    omega
  rw [Int32.shiftRight_xor, e, Int32.xor_zero, s1] at s
  exact s.symm
theorem own_xorok (q x : Int32) (h : OwnCp q) : OwnCp (q ^^^ (x &&& (1023 : Int32))) := by
  have m := c_mask x 1023 10 (by decide) (by decide)
  have e := own_xorb q (x &&& 1023) (by omega) (by omega)
  obtain ⟨h1, h2, h3⟩ := h
  refine ⟨?_, ?_, ?_⟩ <;> omega
def own_sgI (x : Int) : Int := if x < 0 then -1 else if 0 < x then 1 else 0
def own_cmpL : List Int32 → List Int32 → Int
  | [], [] => 0
  | [], _ :: _ => -1
  | _ :: _, [] => 1
  | a :: x, b :: y => if a = b then own_cmpL x y else own_sgI ((own_rank a).toInt - (own_rank b).toInt)
theorem own_rankv (a : Int32) (h : OwnCh a) : (own_rank a).toInt = if 55296 ≤ a.toInt ∧ a.toInt < 57344 then a.toInt + 65536 else a.toInt := by
  obtain ⟨h0, h1⟩ := h
  have q := c_iadd a 65536
  have r := rng32 (a + 65536)
  have k : (65536 : Int32).toInt = 65536 := by decide
  have k1 : (55296 : Int32).toInt = 55296 := by decide
  have k2 : (57344 : Int32).toInt = 57344 := by decide
  unfold own_rank own_isSur
  simp only [Int32.lt_iff_toInt_lt, k1, k2]
  by_cases c1 : a.toInt < 55296
  · rw [if_pos c1, if_pos rfl, if_neg (by omega)]
  · rw [if_neg c1]
    by_cases c2 : a.toInt < 57344
    · rw [if_pos c2, if_neg (by decide), if_pos (by omega)]
      omega
    · rw [if_neg c2, if_pos rfl, if_neg (by omega)]
theorem own_signv (x : Int32) : (own_sign x).toInt = own_sgI x.toInt := by
  unfold own_sign own_sgI
  simp only [Int32.lt_iff_toInt_lt, show (0 : Int32).toInt = 0 from by decide]
  split
  · decide
  · split <;> decide
theorem own_ranks (a b : Int32) (ha : OwnCh a) (hb : OwnCh b) : (own_sign (own_rank a - own_rank b)).toInt = own_sgI ((own_rank a).toInt - (own_rank b).toInt) := by
  rw [own_signv]
  have q := c_isub (own_rank a) (own_rank b)
  have r := rng32 (own_rank a - own_rank b)
  have e1 := own_rankv a ha
  have e2 := own_rankv b hb
  obtain ⟨h0, h1⟩ := ha
  obtain ⟨h2, h3⟩ := hb
  have e : (own_rank a - own_rank b).toInt = (own_rank a).toInt - (own_rank b).toInt := by
    split at e1 <;> split at e2 <;> omega
  rw [e]
theorem own_lenv (m n : Nat) (hm : m ≤ 4) (hn : n ≤ 4) : (own_sign (Int32.ofNat m - Int32.ofNat n)).toInt = own_sgI ((m : Int) - n) := by
  rw [own_signv]
  have a := Int32.toInt_ofNat_small (n := m) (by omega)
  have b := Int32.toInt_ofNat_small (n := n) (by omega)
  have q := c_isub (Int32.ofNat m) (Int32.ofNat n)
  have r := rng32 (Int32.ofNat m - Int32.ofNat n)
  have e : (Int32.ofNat m - Int32.ofNat n).toInt = (m : Int) - n := by omega
  rw [e]
set_option maxHeartbeats 4000000 in
theorem own_cmpv (cl dl : List Int32) (h1 : cl.length ≤ 4) (h2 : dl.length ≤ 4) (c1 : ∀ c ∈ cl, OwnCh c) (c2 : ∀ c ∈ dl, OwnCh c) : (own_sign (own_cmp cl dl)).toInt = own_cmpL cl dl := by
  have g0 : (0 : Int32).toNatClampNeg = 0 := by decide
  have g1 : (1 : Int32).toNatClampNeg = 1 := by decide
  have g2 : (2 : Int32).toNatClampNeg = 2 := by decide
  have g3 : (3 : Int32).toNatClampNeg = 3 := by decide
  have step : ∀ (a b : Int32) (n m : Nat) (X Y : Int32) , True := fun _ _ _ _ _ _ => trivial
  rcases cl with _ | ⟨a0, _ | ⟨a1, _ | ⟨a2, _ | ⟨a3, _ | ⟨a4, cl⟩⟩⟩⟩⟩ <;> rcases dl with _ | ⟨b0, _ | ⟨b1, _ | ⟨b2, _ | ⟨b3, _ | ⟨b4, dl⟩⟩⟩⟩⟩ <;>
    first
    | (exfalso; simp at h1; done)
    | (exfalso; simp at h2; done)
    | (simp only [own_cmp, g0, g1, g2, g3, List.length_cons, List.length_nil, List.getD_cons_zero, List.getD_cons_succ, own_cmpL]
       simp only [List.mem_cons, List.not_mem_nil, or_false, forall_eq_or_imp, forall_eq] at c1 c2
       repeat' split
       all_goals first
         | (exfalso; revert ‹_ < _›; decide)
         | (exfalso; revert ‹¬ (_ < _)›; decide)
         | (exact absurd ‹_ = _› ‹¬ (_ = _)›)
         | decide
         | (apply own_ranks <;> simp_all; done))
theorem own_nhi (x : Int32) : (nar .char x.toUInt32.toUInt16.toUInt32.toInt32) = x.toUInt32.toUInt16.toUInt32.toInt32 := by
  have a5 := c_i2c x
  have a6 := c_i2c x.toUInt32.toUInt16.toUInt32.toInt32
  apply Int32.toInt_inj.mp
  show (x.toUInt32.toUInt16.toUInt32.toInt32.toUInt32.toUInt16.toUInt32.toInt32).toInt = _
  omega
theorem own_hiv (q : Int32) (h : OwnCp q) : (q.toInt < 65536 → (own_hi q).toInt = q.toInt) ∧ (65536 ≤ q.toInt → (own_hi q).toInt = 55296 + (q.toInt - 65536) / 1024) := by
  obtain ⟨h0, h1, h2⟩ := h
  have k : (65536 : Int32).toInt = 65536 := by decide
  have k1 : (55296 : Int32).toInt = 55296 := by decide
  unfold own_hi
  simp only [Int32.lt_iff_toInt_lt, k, own_nhi]
  refine ⟨fun c => ?_, fun c => ?_⟩
  · rw [if_pos c]
    have a := c_i2c q
    omega
  · rw [if_neg (by omega)]
    have a := c_isub q 65536
    have r := rng32 (q - 65536)
    generalize q - 65536 = y at *
    have b := c_iushr y 10 10 (by decide) (by decide)
    generalize (y.toUInt32 >>> ((10 : Int32) &&& 31).toUInt32).toInt32 = z at *
    have d := c_iadd 55296 z
    have r2 := rng32 (55296 + z)
    generalize 55296 + z = u at *
    have f := c_i2c u
    omega
theorem own_lov (q : Int32) (h : OwnCp q) (c : 65536 ≤ q.toInt) : (own_lo q).toInt = 56320 + (q.toInt - 65536) % 1024 := by
  obtain ⟨h0, h1, h2⟩ := h
  have k : (65536 : Int32).toInt = 65536 := by decide
  have k1 : (56320 : Int32).toInt = 56320 := by decide
  unfold own_lo
  rw [own_nhi]
  have a := c_isub q 65536
  have r := rng32 (q - 65536)
  generalize q - 65536 = y at *
  have b := c_mask y 1023 10 (by decide) (by decide)
  generalize y &&& (1023 : Int32) = z at *
  have d := c_iadd 56320 z
  have r2 := rng32 (56320 + z)
  generalize 56320 + z = u at *
  have f := c_i2c u
  omega
theorem own_rk0 (z : Int32) (h0 : 0 ≤ z.toInt) (h1 : z.toInt < 65536) (h : z.toInt < 55296 ∨ 57344 ≤ z.toInt) : (own_rank z).toInt = z.toInt := by
  rw [own_rankv z ⟨h0, h1⟩, if_neg (by omega)]
theorem own_rk1 (z : Int32) (h0 : 55296 ≤ z.toInt) (h1 : z.toInt < 57344) : (own_rank z).toInt = z.toInt + 65536 := by
  rw [own_rankv z ⟨by omega, by omega⟩, if_pos ⟨h0, h1⟩]
set_option maxHeartbeats 4000000 in
theorem own_unit (p q : Int32) (hp : OwnCp p) (hq : OwnCp q) (x y : List Int32) : own_cmpL (own_units p ++ x) (own_units q ++ y) = if p = q then own_cmpL x y else if p < q then -1 else 1 := by
  have k : (65536 : Int32).toInt = 65536 := by decide
  have p1 := own_hiv p hp
  have q1 := own_hiv q hq
  have p2 := own_lov p hp
  have q2 := own_lov q hq
  obtain ⟨a0, a1, a2⟩ := hp
  obtain ⟨b0, b1, b2⟩ := hq
  unfold own_units
  simp only [Int32.lt_iff_toInt_lt, k]
  by_cases c1 : p.toInt < 65536 <;> by_cases c2 : q.toInt < 65536
  · simp only [if_pos c1, if_pos c2, List.cons_append, List.nil_append, own_cmpL, ← Int32.toInt_inj, own_sgI]
    replace p1 := p1.1 c1
    replace q1 := q1.1 c2
    clear p2 q2
    have r1 := own_rk0 (own_hi p) (by omega) (by omega) (by omega)
    have r2 := own_rk0 (own_hi q) (by omega) (by omega) (by omega)
    rw [r1, r2, p1, q1]
    clear r1 r2 p1 q1
    repeat' split
    all_goals first | rfl | omega
  · simp only [if_pos c1, if_neg c2, List.cons_append, List.nil_append, own_cmpL, ← Int32.toInt_inj, own_sgI]
    replace p1 := p1.1 c1
    replace q1 := q1.2 (by omega)
    clear p2 q2
    have r1 := own_rk0 (own_hi p) (by omega) (by omega) (by omega)
    have r2 := own_rk1 (own_hi q) (by omega) (by omega)
    rw [r1, r2, p1, q1]
    clear r1 r2 p1 q1
    repeat' split
    all_goals first | rfl | omega
  · simp only [if_neg c1, if_pos c2, List.cons_append, List.nil_append, own_cmpL, ← Int32.toInt_inj, own_sgI]
    replace p1 := p1.2 (by omega)
    replace q1 := q1.1 c2
    clear p2 q2
    have r1 := own_rk1 (own_hi p) (by omega) (by omega)
    have r2 := own_rk0 (own_hi q) (by omega) (by omega) (by omega)
    rw [r1, r2, p1, q1]
    clear r1 r2 p1 q1
    repeat' split
    all_goals first | rfl | omega
  · simp only [if_neg c1, if_neg c2, List.cons_append, List.nil_append, own_cmpL, ← Int32.toInt_inj, own_sgI]
    replace p1 := p1.2 (by omega)
    replace q1 := q1.2 (by omega)
    replace p2 := p2 (by omega)
    replace q2 := q2 (by omega)
    have r1 := own_rk1 (own_hi p) (by omega) (by omega)
    have r2 := own_rk1 (own_hi q) (by omega) (by omega)
    have r3 := own_rk1 (own_lo p) (by omega) (by omega)
    have r4 := own_rk1 (own_lo q) (by omega) (by omega)
    rw [r1, r2, r3, r4, p1, q1, p2, q2]
    clear r1 r2 p1 q1 r3 r4 p2 q2
    repeat' split
    all_goals first | rfl | omega
theorem own_unit0 (q : Int32) (y : List Int32) : own_cmpL [] (own_units q ++ y) = -1 ∧ own_cmpL (own_units q ++ y) [] = 1 := by
  unfold own_units
  split <;> exact ⟨rfl, rfl⟩
theorem own_encch (n p q : Int32) : ∀ c ∈ own_enc n p q, OwnCh c := by
  have hu : ∀ q : Int32, ∀ c ∈ own_units q, OwnCh c := fun q c hc => by
    unfold own_units at hc
    split at hc
    · rw [List.mem_singleton.mp hc]; exact own_hich q
    · rcases List.mem_cons.mp hc with e | e
      · rw [e]; exact own_hich q
      · rw [List.mem_singleton.mp e]; exact own_loch q
  intro c hc
  unfold own_enc at hc
  rcases List.mem_append.mp hc with e | e <;> split at e
  · cases e
  · exact hu p c e
  · cases e
  · exact hu q c e
def own_exp2 (n m q t : Int32) : Int32 := if n < (2 : Int32) then own_sign (n - m) else if m < (2 : Int32) then own_sign (n - m) else if q = t then own_sign (n - m) else if q < t then (-1 : Int32) else (1 : Int32)
def own_exp (n m p q r t : Int32) : Int32 := if n < (1 : Int32) then own_exp2 n m q t else if m < (1 : Int32) then own_exp2 n m q t else if p = r then own_exp2 n m q t else if p < r then (-1 : Int32) else (1 : Int32)
theorem own_ex (n m p q r t : Int32) (hn : n = 0 ∨ n = 1 ∨ n = 2) (hm : m = 0 ∨ m = 1 ∨ m = 2) (hp : OwnCp p) (hq : OwnCp q) (hr : OwnCp r) (ht : OwnCp t) : (own_exp n m p q r t).toInt = own_cmpL (own_enc n p q) (own_enc m r t) := by
  have u1 := own_unit p r hp hr
  have u2 := own_unit q t hq ht [] []
  have l01 : (0 : Int32) < 1 := by decide
  have l02 : (0 : Int32) < 2 := by decide
  have l12 : (1 : Int32) < 2 := by decide
  have n11 : ¬ ((1 : Int32) < 1) := by decide
  have n21 : ¬ ((2 : Int32) < 1) := by decide
  have n22 : ¬ ((2 : Int32) < 2) := by decide
  have e0 : own_cmpL [] [] = 0 := rfl
  have s0 : (own_sign (0 - 0)).toInt = 0 := by decide
  rcases hn with rfl | rfl | rfl <;> rcases hm with rfl | rfl | rfl <;> simp only [own_exp, own_exp2, own_enc, if_pos l01, if_pos l02, if_pos l12, if_neg n11, if_neg n21, if_neg n22, List.nil_append, List.append_assoc]
  · decide
  · rw [(own_unit0 r []).1]; decide
  · rw [(own_unit0 r _).1]; decide
  · rw [(own_unit0 p []).2]; decide
  · rw [u1, e0]
    repeat' split
    all_goals decide
  · have u3 := u1 [] (own_units t)
    rw [List.append_nil] at u3
    rw [List.append_nil, u3, show own_cmpL [] (own_units t) = -1 from by have := (own_unit0 t []).1; rwa [List.append_nil] at this]
    repeat' split
    all_goals decide
  · rw [(own_unit0 p _).2]; decide
  · have u3 := u1 (own_units q) []
    rw [List.append_nil] at u3
    rw [List.append_nil, u3, show own_cmpL (own_units q) [] = 1 from by have := (own_unit0 q []).2; rwa [List.append_nil] at this]
    repeat' split
    all_goals decide
  · rw [List.append_nil, List.append_nil] at u2
    rw [u1, u2, e0]
    repeat' split
    all_goals decide
theorem own_sgN (x : Int) : own_sgI (-x) = - own_sgI x := by
  unfold own_sgI
  repeat' split
  all_goals first | rfl | omega
theorem own_anti : ∀ (x y : List Int32), own_cmpL y x = - own_cmpL x y
  | [], [] => rfl
  | [], _ :: _ => rfl
  | _ :: _, [] => rfl
  | a :: x, b :: y => by
    unfold own_cmpL
    by_cases h : a = b
    · rw [if_pos h, if_pos h.symm]
      exact own_anti x y
    · rw [if_neg h, if_neg (fun q => h q.symm), ← own_sgN]
      congr 1
      omega
theorem own_expR (n m p q r t : Int32) : own_exp n m p q r t = -1 ∨ own_exp n m p q r t = 0 ∨ own_exp n m p q r t = 1 := by
  unfold own_exp own_exp2 own_sign
  repeat' split
  all_goals simp
theorem own_n3 (x n : Int32) (h : n = (x &&& 3) % 3) : n = 0 ∨ n = 1 ∨ n = 2 := by
  have q := c_mask x 3 2 (by decide) (by decide)
  have r := (c_irem (x &&& 3) 3 3 (by decide)).1 (by omega)
  rw [← h] at r
  have h0 : (0 : Int32).toInt = 0 := by decide
  have h1 : (1 : Int32).toInt = 1 := by decide
  have h2 : (2 : Int32).toInt = 2 := by decide
  simp only [← Int32.toInt_inj]
  omega
theorem own_law (n m p q r t ex : Int32) (hn : n = 0 ∨ n = 1 ∨ n = 2) (hm : m = 0 ∨ m = 1 ∨ m = 2) (hp : OwnCp p) (hq : OwnCp q) (hr : OwnCp r) (ht : OwnCp t) (he : own_exp n m p q r t = ex) : own_sign (own_cmp (own_enc n p q) (own_enc m r t)) = ex ∧ own_sign (own_cmp (own_enc m r t) (own_enc n p q)) = -ex := by
  subst he
  have e := own_ex n m p q r t hn hm hp hq hr ht
  have a1 := own_cmpv (own_enc n p q) (own_enc m r t) (own_enc_len _ _ _) (own_enc_len _ _ _) (own_encch _ _ _) (own_encch _ _ _)
  have a2 := own_cmpv (own_enc m r t) (own_enc n p q) (own_enc_len _ _ _) (own_enc_len _ _ _) (own_encch _ _ _) (own_encch _ _ _)
  rw [own_anti, ← e] at a2
  rw [← e] at a1
  refine ⟨Int32.toInt_inj.mp a1, Int32.toInt_inj.mp (a2.trans ?_)⟩
  rcases own_expR n m p q r t with h | h | h <;> rw [h] <;> decide
theorem ef_rm0 (m : MethodId) (x0 : Int32) (x1 : Int32) (x2 : Int32) (x3 : Int32) (x4 : Int32) : entryFrame m #[(.int x0), (.int x1), (.int x2), (.int x3), (.int x4)] maxLocals = mkF m 0 #[.val (.int x0), .val (.int x1), .val (.int x2), .val (.int x3), .val (.int x4), .unset, .unset, .unset, .unset, .unset, .unset, .unset, .unset, .unset] [] := by first | (simp [entryFrame, mkF, argsToLocals, Value.category, maxLocals]; done) | rfl
theorem pd__28III_29Ljava_2flang_2fString_3b : parseMethodDescriptor "(III)Ljava/lang/String;" = some ⟨[.int, .int, .int], some (.object "java/lang/String")⟩ := by decide +kernel
theorem pd__28Ljava_2flang_2fString_3bLjava_2flang_2fString_3b_29I : parseMethodDescriptor "(Ljava/lang/String;Ljava/lang/String;)I" = some ⟨[(.object "java/lang/String"), (.object "java/lang/String")], some .int⟩ := by decide +kernel
def Q_rm0 (Z : State) (p1 p2 p3 p4 p5 : Int32) (cs : Int32) (sf : Value) (h0 : Heap) (n0 : Nat) (v : Option Value) (h : Heap) (L : List Loc) : Prop := v = some (.int 1) ∧ Fr n0 L
set_option maxRecDepth 65536 in
set_option maxHeartbeats 40000000 in
theorem rm0 (l : Launch) (Z : State) (a0 : Array Value) (hw : ∀ d ∈ tables_1, d.before a0 Z = true) (hEL : EW Z a0 own_EL) (ws : List Jvm.Cond) (p1 p2 p3 p4 p5 : Int32) (cs : Int32) (sf : Value) (h0 : Heap) (n0 : Nat) (Z0 : n0 ≤ h0.size) (S_COMPACT_STRINGS : Sta Z Z.heap "java/lang/String" "COMPACT_STRINGS" "Z" (.int cs)) (S__assertionsDisabled : Sta Z Z.heap "java/lang/StringUTF16" "$assertionsDisabled" "Z" (.int (1 : Int32))) (S_HI_BYTE_SHIFT : Sta Z Z.heap "java/lang/StringUTF16" "HI_BYTE_SHIFT" "I" (.int (0 : Int32))) (S_LO_BYTE_SHIFT : Sta Z Z.heap "java/lang/StringUTF16" "LO_BYTE_SHIFT" "I" (.int (8 : Int32))) (S_SIOOBE_FORMATTER : Sta Z Z.heap "jdk/internal/util/Preconditions" "SIOOBE_FORMATTER" "Ljava/util/function/BiFunction;" sf) (hcs : ¬ (cs = (0 : Int32))) (hsf : sf.isRef = true) (O : Old Z n0 h0) :
    MetW l Z own_EL x code maxLocals ret ws room_1 #[(.int p1), (.int p2), (.int p3), (.int p4), (.int p5)] [] h0 (Q_rm0 Z p1 p2 p3 p4 p5 cs sf h0 n0) := by
  refine metW_of (plainFor_of_name pn_com_example_bnodiff_bnodiff_model_CodePointOrderComparePinLaw) (own := "com/example/bnodiff/bnodiff/model/CodePointOrderComparePinLaw") rfl (fun m => ef_rm0 m p1 p2 p3 p4 p5) ?_
  intro p e s m below meth c s₁ hx hby hml hown hnm hZ X0 e0 hret hlk H hSf CR hS
  have hml : c.maxLocals = 14 := hml
  have N0 := Fr.nil n0
  have hk := Nat.le_refl h0.size
  show GoesW p e below s Z own_EL _ _ _ (s₁.setTop (mkF m 0 #[.val (.int p1), .val (.int p2), .val (.int p3), .val (.int p4), .val (.int p5), .unset, .unset, .unset, .unset, .unset, .unset, .unset, .unset, .unset] []))
  refine GoesW.pre (U' := s₁.setTop (mkF m 7 #[.val (.int p1), .val (.int p2), .val (.int p3), .val (.int p4), .val (.int p5), .val (.int ((p1 &&& (3 : Int32)) % (3 : Int32))), .unset, .unset, .unset, .unset, .unset, .unset, .unset, .unset] [])) (fun t k => XS.iloadN X0.here hx rfl (hb hby at_0) rfl (XS.iconst X0.here hx rfl (hb hby at_1) (XS.iand X0.here hx rfl (hb hby at_2) rfl (XS.iconst X0.here hx rfl (hb hby at_3) (Jvm.RoadKit.iremM X0 hx rfl (hb hby at_4) rfl (by decide) (XS.istore X0.here hx rfl (hb hby at_5) rfl (l' := #[.val (.int p1), .val (.int p2), .val (.int p3), .val (.int p4), .val (.int p5), .val (.int ((p1 &&& (3 : Int32)) % (3 : Int32))), .unset, .unset, .unset, .unset, .unset, .unset, .unset, .unset]) rfl k)))))) ?_
  obtain ⟨na, hna⟩ : ∃ z : Int32, z = ((p1 &&& (3 : Int32)) % (3 : Int32)) := ⟨_, rfl⟩
  rw [← hna]
  refine GoesW.pre (U' := s₁.setTop (mkF m 16 #[.val (.int p1), .val (.int p2), .val (.int p3), .val (.int p4), .val (.int p5), .val (.int na), .val (.int ((((p1.toUInt32 >>> ((2 : Int32) &&& 31).toUInt32).toInt32) &&& (3 : Int32)) % (3 : Int32))), .unset, .unset, .unset, .unset, .unset, .unset, .unset] [])) (fun t k => XS.iloadN X0.here hx rfl (hb hby at_7) rfl (XS.iconst X0.here hx rfl (hb hby at_8) (XS.iushr X0.here hx rfl (hb hby at_9) rfl (XS.iconst X0.here hx rfl (hb hby at_10) (XS.iand X0.here hx rfl (hb hby at_11) rfl (XS.iconst X0.here hx rfl (hb hby at_12) (Jvm.RoadKit.iremM X0 hx rfl (hb hby at_13) rfl (by decide) (XS.istore X0.here hx rfl (hb hby at_14) rfl (l' := #[.val (.int p1), .val (.int p2), .val (.int p3), .val (.int p4), .val (.int p5), .val (.int na), .val (.int ((((p1.toUInt32 >>> ((2 : Int32) &&& 31).toUInt32).toInt32) &&& (3 : Int32)) % (3 : Int32))), .unset, .unset, .unset, .unset, .unset, .unset, .unset]) rfl k)))))))) ?_
  obtain ⟨mb, hmb⟩ : ∃ z : Int32, z = ((((p1.toUInt32 >>> ((2 : Int32) &&& 31).toUInt32).toInt32) &&& (3 : Int32)) % (3 : Int32)) := ⟨_, rfl⟩
  rw [← hmb]
  refine GoesW.pre (U' := s₁.setTop (mkF m 17 #[.val (.int p1), .val (.int p2), .val (.int p3), .val (.int p4), .val (.int p5), .val (.int na), .val (.int mb), .unset, .unset, .unset, .unset, .unset, .unset, .unset] [(.int p2)])) (fun t k => XS.iloadN X0.here hx rfl (hb hby at_16) rfl k) ?_
  obtain ⟨_, _, ⟨T1, L1, k1, n1⟩, -, X1, ⟨Lc1, hQ1, l1, y1, z1⟩, st1⟩ := Jvm.LawKit.callS X0 hx (y := (⟨"com/example/bnodiff/bnodiff/model/CodePointOrderComparePinLaw", "cp", "(I)I"⟩ : MethodName)) hown (mvT hZ (wq hw 0 rfl)) (mvT hZ (wq hw 1 rfl)) (mvT hZ (wq hw 2 rfl)) (mvT hZ (wq hw 3 rfl)) (by decide) (backOf (W := 0) (rm_cp l Z a0 hw [] p2 h0 n0 Z0) hZ (wq hw 3 rfl) (wq hw 2 rfl) (by decide) (by decide)) (g := (mkF m 17 #[.val (.int p1), .val (.int p2), .val (.int p3), .val (.int p4), .val (.int p5), .val (.int na), .val (.int mb), .unset, .unset, .unset, .unset, .unset, .unset, .unset] [(.int p2)])) rfl (by rw [hml]; rfl) (argsL := [(.int p2)]) (rest := []) (lenOf pd__28I_29I rfl) rfl (by show 2 * 0 + _ ≤ _; exact Nat.le_of_eq rfl) (hb hby at_17) (fun _ _ => ⟨rfl, e0, (by decide : 0 + 0 ≤ _), (by decide : 0 + 0 ≤ _)⟩)
  dsimp only [Pt.U, Pt.locs, Pt.cells, Pt.slots] at X1 l1 y1 z1 st1 hQ1
  subst l1 y1 z1
  obtain ⟨rfl, N1q, HQ1⟩ := hQ1
  have N1 := Fr.app N0 N1q
  refine GoesW.pre (U' := T1.setTop (mkF m 23 #[.val (.int p1), .val (.int p2), .val (.int p3), .val (.int p4), .val (.int p5), .val (.int na), .val (.int mb), .val (.int (own_cp p2)), .unset, .unset, .unset, .unset, .unset, .unset] [(.int p3)])) (fun t k => st1 t (XS.istore X1.here hx rfl (hb hby at_20) rfl (l' := #[.val (.int p1), .val (.int p2), .val (.int p3), .val (.int p4), .val (.int p5), .val (.int na), .val (.int mb), .val (.int (own_cp p2)), .unset, .unset, .unset, .unset, .unset, .unset]) rfl (XS.iloadN X1.here hx rfl (hb hby at_22) rfl k))) ?_
  obtain ⟨_, _, ⟨T2, L2, k2, n2⟩, -, X2, ⟨Lc2, hQ2, l2, y2, z2⟩, st2⟩ := Jvm.LawKit.callS X1 hx (y := (⟨"com/example/bnodiff/bnodiff/model/CodePointOrderComparePinLaw", "cp", "(I)I"⟩ : MethodName)) hown (mvT hZ (wq hw 0 rfl)) (mvT hZ (wq hw 1 rfl)) (mvT hZ (wq hw 2 rfl)) (mvT hZ (wq hw 3 rfl)) (by decide) (backOf (W := 0) (rm_cp l Z a0 hw [] p3 h0 n0 Z0) hZ (wq hw 3 rfl) (wq hw 2 rfl) (by decide) (by decide)) (g := (mkF m 23 #[.val (.int p1), .val (.int p2), .val (.int p3), .val (.int p4), .val (.int p5), .val (.int na), .val (.int mb), .val (.int (own_cp p2)), .unset, .unset, .unset, .unset, .unset, .unset] [(.int p3)])) rfl (by rw [hml]; rfl) (argsL := [(.int p3)]) (rest := []) (lenOf pd__28I_29I rfl) rfl (by show 2 * 0 + _ ≤ _; exact Nat.le_of_eq rfl) (hb hby at_23) (fun _ _ => ⟨rfl, HQ1, (by decide : 0 + 0 ≤ _), (by decide : 0 + 0 ≤ _)⟩)
  dsimp only [Pt.U, Pt.locs, Pt.cells, Pt.slots] at X2 l2 y2 z2 st2 hQ2
  subst l2 y2 z2
  obtain ⟨rfl, N2q, HQ2⟩ := hQ2
  have N2 := Fr.app N1 N2q
  refine GoesW.pre (U' := T2.setTop (mkF m 29 #[.val (.int p1), .val (.int p2), .val (.int p3), .val (.int p4), .val (.int p5), .val (.int na), .val (.int mb), .val (.int (own_cp p2)), .val (.int (own_cp p3)), .unset, .unset, .unset, .unset, .unset] [(.int p4)])) (fun t k => st2 t (XS.istore X2.here hx rfl (hb hby at_26) rfl (l' := #[.val (.int p1), .val (.int p2), .val (.int p3), .val (.int p4), .val (.int p5), .val (.int na), .val (.int mb), .val (.int (own_cp p2)), .val (.int (own_cp p3)), .unset, .unset, .unset, .unset, .unset]) rfl (XS.iloadN X2.here hx rfl (hb hby at_28) rfl k))) ?_
  obtain ⟨_, _, ⟨T3, L3, k3, n3⟩, -, X3, ⟨Lc3, hQ3, l3, y3, z3⟩, st3⟩ := Jvm.LawKit.callS X2 hx (y := (⟨"com/example/bnodiff/bnodiff/model/CodePointOrderComparePinLaw", "cp", "(I)I"⟩ : MethodName)) hown (mvT hZ (wq hw 0 rfl)) (mvT hZ (wq hw 1 rfl)) (mvT hZ (wq hw 2 rfl)) (mvT hZ (wq hw 3 rfl)) (by decide) (backOf (W := 0) (rm_cp l Z a0 hw [] p4 h0 n0 Z0) hZ (wq hw 3 rfl) (wq hw 2 rfl) (by decide) (by decide)) (g := (mkF m 29 #[.val (.int p1), .val (.int p2), .val (.int p3), .val (.int p4), .val (.int p5), .val (.int na), .val (.int mb), .val (.int (own_cp p2)), .val (.int (own_cp p3)), .unset, .unset, .unset, .unset, .unset] [(.int p4)])) rfl (by rw [hml]; rfl) (argsL := [(.int p4)]) (rest := []) (lenOf pd__28I_29I rfl) rfl (by show 2 * 0 + _ ≤ _; exact Nat.le_of_eq rfl) (hb hby at_29) (fun _ _ => ⟨rfl, HQ2, (by decide : 0 + 0 ≤ _), (by decide : 0 + 0 ≤ _)⟩)
  dsimp only [Pt.U, Pt.locs, Pt.cells, Pt.slots] at X3 l3 y3 z3 st3 hQ3
  subst l3 y3 z3
  obtain ⟨rfl, N3q, HQ3⟩ := hQ3
  have N3 := Fr.app N2 N3q
  refine GoesW.pre (U' := T3.setTop (mkF m 36 #[.val (.int p1), .val (.int p2), .val (.int p3), .val (.int p4), .val (.int p5), .val (.int na), .val (.int mb), .val (.int (own_cp p2)), .val (.int (own_cp p3)), .val (.int (own_cp p4)), .unset, .unset, .unset, .unset] [(.int p5)])) (fun t k => st3 t (XS.istore X3.here hx rfl (hb hby at_32) rfl (l' := #[.val (.int p1), .val (.int p2), .val (.int p3), .val (.int p4), .val (.int p5), .val (.int na), .val (.int mb), .val (.int (own_cp p2)), .val (.int (own_cp p3)), .val (.int (own_cp p4)), .unset, .unset, .unset, .unset]) rfl (XS.iload X3.here hx rfl (hb hby at_34) rfl k))) ?_
  obtain ⟨_, _, ⟨T4, L4, k4, n4⟩, -, X4, ⟨Lc4, hQ4, l4, y4, z4⟩, st4⟩ := Jvm.LawKit.callS X3 hx (y := (⟨"com/example/bnodiff/bnodiff/model/CodePointOrderComparePinLaw", "cp", "(I)I"⟩ : MethodName)) hown (mvT hZ (wq hw 0 rfl)) (mvT hZ (wq hw 1 rfl)) (mvT hZ (wq hw 2 rfl)) (mvT hZ (wq hw 3 rfl)) (by decide) (backOf (W := 0) (rm_cp l Z a0 hw [] p5 h0 n0 Z0) hZ (wq hw 3 rfl) (wq hw 2 rfl) (by decide) (by decide)) (g := (mkF m 36 #[.val (.int p1), .val (.int p2), .val (.int p3), .val (.int p4), .val (.int p5), .val (.int na), .val (.int mb), .val (.int (own_cp p2)), .val (.int (own_cp p3)), .val (.int (own_cp p4)), .unset, .unset, .unset, .unset] [(.int p5)])) rfl (by rw [hml]; rfl) (argsL := [(.int p5)]) (rest := []) (lenOf pd__28I_29I rfl) rfl (by show 2 * 0 + _ ≤ _; exact Nat.le_of_eq rfl) (hb hby at_36) (fun _ _ => ⟨rfl, HQ3, (by decide : 0 + 0 ≤ _), (by decide : 0 + 0 ≤ _)⟩)
  dsimp only [Pt.U, Pt.locs, Pt.cells, Pt.slots] at X4 l4 y4 z4 st4 hQ4
  subst l4 y4 z4
  obtain ⟨rfl, N4q, HQ4⟩ := hQ4
  have N4 := Fr.app N3 N4q
  refine GoesW.pre (U' := T4.setTop (mkF m 41 #[.val (.int p1), .val (.int p2), .val (.int p3), .val (.int p4), .val (.int p5), .val (.int na), .val (.int mb), .val (.int (own_cp p2)), .val (.int (own_cp p3)), .val (.int (own_cp p4)), .val (.int (own_cp p5)), .unset, .unset, .unset] [])) (fun t k => st4 t (XS.istore X4.here hx rfl (hb hby at_39) rfl (l' := #[.val (.int p1), .val (.int p2), .val (.int p3), .val (.int p4), .val (.int p5), .val (.int na), .val (.int mb), .val (.int (own_cp p2)), .val (.int (own_cp p3)), .val (.int (own_cp p4)), .val (.int (own_cp p5)), .unset, .unset, .unset]) rfl k)) ?_
  suffices J73_5 : ∀ (cr : Int32) (hcr : OwnCp cr), GoesW p e below s Z own_EL (Q_rm0 Z p1 p2 p3 p4 p5 cs sf h0 n0) room_1.cells room_1.slots (T4.setTop (mkF m 73 #[.val (.int p1), .val (.int p2), .val (.int p3), .val (.int p4), .val (.int p5), .val (.int na), .val (.int mb), .val (.int (own_cp p2)), .val (.int (own_cp p3)), .val (.int cr), .val (.int (own_cp p5)), .unset, .unset, .unset] [])) by
    refine GoesW.pre (U' := T4.setTop (mkF m 46 #[.val (.int p1), .val (.int p2), .val (.int p3), .val (.int p4), .val (.int p5), .val (.int na), .val (.int mb), .val (.int (own_cp p2)), .val (.int (own_cp p3)), .val (.int (own_cp p4)), .val (.int (own_cp p5)), .unset, .unset, .unset] [(.int (((p1.toUInt32 >>> ((4 : Int32) &&& 31).toUInt32).toInt32) &&& (1 : Int32)))])) (fun t k => XS.iloadN X4.here hx rfl (hb hby at_41) rfl (XS.iconst X4.here hx rfl (hb hby at_42) (XS.iushr X4.here hx rfl (hb hby at_43) rfl (XS.iconst X4.here hx rfl (hb hby at_44) (XS.iand X4.here hx rfl (hb hby at_45) rfl k))))) ?_
    by_cases hc46 : (((p1.toUInt32 >>> ((4 : Int32) &&& 31).toUInt32).toInt32) &&& (1 : Int32)) = (0 : Int32)
    ·
      refine GoesW.pre (U' := T4.setTop (mkF m 73 #[.val (.int p1), .val (.int p2), .val (.int p3), .val (.int p4), .val (.int p5), .val (.int na), .val (.int mb), .val (.int (own_cp p2)), .val (.int (own_cp p3)), .val (.int (own_cp p4)), .val (.int (own_cp p5)), .unset, .unset, .unset] [])) (fun t k => XS.ifYes X4.here hx rfl (pc0 := 46) (pc' := 73) rfl (hb hby at_46) rfl ((if0 _ _).trans (teq hc46).1) (by decide) (by decide) k) ?_
      exact J73_5 (own_cp p4) (own_cpok _)
    ·
      refine GoesW.pre (U' := T4.setTop (mkF m 55 #[.val (.int p1), .val (.int p2), .val (.int p3), .val (.int p4), .val (.int p5), .val (.int na), .val (.int mb), .val (.int (own_cp p2)), .val (.int (own_cp p3)), .val (.int (own_cp p4)), .val (.int (own_cp p5)), .unset, .unset, .unset] [(.int (((p1.toUInt32 >>> ((6 : Int32) &&& 31).toUInt32).toInt32) &&& (1 : Int32)))])) (fun t k => XS.ifNo X4.here hx rfl (hb hby at_46) rfl ((if0 _ _).trans (feq hc46).1) (XS.iloadN X4.here hx rfl (hb hby at_49) rfl (XS.bipush X4.here hx rfl (hb hby at_50) (XS.iushr X4.here hx rfl (hb hby at_52) rfl (XS.iconst X4.here hx rfl (hb hby at_53) (XS.iand X4.here hx rfl (hb hby at_54) rfl k)))))) ?_
      by_cases hc55 : (((p1.toUInt32 >>> ((6 : Int32) &&& 31).toUInt32).toInt32) &&& (1 : Int32)) = (0 : Int32)
      ·
        refine GoesW.pre (U' := T4.setTop (mkF m 73 #[.val (.int p1), .val (.int p2), .val (.int p3), .val (.int p4), .val (.int p5), .val (.int na), .val (.int mb), .val (.int (own_cp p2)), .val (.int (own_cp p3)), .val (.int (own_cp p2)), .val (.int (own_cp p5)), .unset, .unset, .unset] [])) (fun t k => XS.ifYes X4.here hx rfl (pc0 := 55) (pc' := 69) rfl (hb hby at_55) rfl ((if0 _ _).trans (teq hc55).1) (by decide) (by decide) (XS.iload X4.here hx rfl (hb hby at_69) rfl (XS.istore X4.here hx rfl (hb hby at_71) rfl (l' := #[.val (.int p1), .val (.int p2), .val (.int p3), .val (.int p4), .val (.int p5), .val (.int na), .val (.int mb), .val (.int (own_cp p2)), .val (.int (own_cp p3)), .val (.int (own_cp p2)), .val (.int (own_cp p5)), .unset, .unset, .unset]) rfl k))) ?_
        exact J73_5 (own_cp p2) (own_cpok _)
      ·
        refine GoesW.pre (U' := T4.setTop (mkF m 73 #[.val (.int p1), .val (.int p2), .val (.int p3), .val (.int p4), .val (.int p5), .val (.int na), .val (.int mb), .val (.int (own_cp p2)), .val (.int (own_cp p3)), .val (.int ((own_cp p2) ^^^ (p4 &&& (1023 : Int32)))), .val (.int (own_cp p5)), .unset, .unset, .unset] [])) (fun t k => XS.ifNo X4.here hx rfl (hb hby at_55) rfl ((if0 _ _).trans (feq hc55).1) (XS.iload X4.here hx rfl (hb hby at_58) rfl (XS.iloadN X4.here hx rfl (hb hby at_60) rfl (XS.sipush X4.here hx rfl (hb hby at_61) (XS.iand X4.here hx rfl (hb hby at_64) rfl (XS.ixor X4.here hx rfl (hb hby at_65) rfl (XS.goto X4.here hx rfl (pc0 := 66) (pc' := 71) rfl (hb hby at_66) (by decide) (by decide) (XS.istore X4.here hx rfl (hb hby at_71) rfl (l' := #[.val (.int p1), .val (.int p2), .val (.int p3), .val (.int p4), .val (.int p5), .val (.int na), .val (.int mb), .val (.int (own_cp p2)), .val (.int (own_cp p3)), .val (.int ((own_cp p2) ^^^ (p4 &&& (1023 : Int32)))), .val (.int (own_cp p5)), .unset, .unset, .unset]) rfl k)))))))) ?_
        exact J73_5 ((own_cp p2) ^^^ (p4 &&& (1023 : Int32))) (own_xorok _ _ (own_cpok _))
  intro cr hcr
  suffices J106_7 : ∀ (ct : Int32) (hct : OwnCp ct), GoesW p e below s Z own_EL (Q_rm0 Z p1 p2 p3 p4 p5 cs sf h0 n0) room_1.cells room_1.slots (T4.setTop (mkF m 106 #[.val (.int p1), .val (.int p2), .val (.int p3), .val (.int p4), .val (.int p5), .val (.int na), .val (.int mb), .val (.int (own_cp p2)), .val (.int (own_cp p3)), .val (.int cr), .val (.int ct), .unset, .unset, .unset] [])) by
    refine GoesW.pre (U' := T4.setTop (mkF m 78 #[.val (.int p1), .val (.int p2), .val (.int p3), .val (.int p4), .val (.int p5), .val (.int na), .val (.int mb), .val (.int (own_cp p2)), .val (.int (own_cp p3)), .val (.int cr), .val (.int (own_cp p5)), .unset, .unset, .unset] [(.int (((p1.toUInt32 >>> ((5 : Int32) &&& 31).toUInt32).toInt32) &&& (1 : Int32)))])) (fun t k => XS.iloadN X4.here hx rfl (hb hby at_73) rfl (XS.iconst X4.here hx rfl (hb hby at_74) (XS.iushr X4.here hx rfl (hb hby at_75) rfl (XS.iconst X4.here hx rfl (hb hby at_76) (XS.iand X4.here hx rfl (hb hby at_77) rfl k))))) ?_
    by_cases hc78 : (((p1.toUInt32 >>> ((5 : Int32) &&& 31).toUInt32).toInt32) &&& (1 : Int32)) = (0 : Int32)
    ·
      refine GoesW.pre (U' := T4.setTop (mkF m 106 #[.val (.int p1), .val (.int p2), .val (.int p3), .val (.int p4), .val (.int p5), .val (.int na), .val (.int mb), .val (.int (own_cp p2)), .val (.int (own_cp p3)), .val (.int cr), .val (.int (own_cp p5)), .unset, .unset, .unset] [])) (fun t k => XS.ifYes X4.here hx rfl (pc0 := 78) (pc' := 106) rfl (hb hby at_78) rfl ((if0 _ _).trans (teq hc78).1) (by decide) (by decide) k) ?_
      exact J106_7 (own_cp p5) (own_cpok _)
    ·
      refine GoesW.pre (U' := T4.setTop (mkF m 87 #[.val (.int p1), .val (.int p2), .val (.int p3), .val (.int p4), .val (.int p5), .val (.int na), .val (.int mb), .val (.int (own_cp p2)), .val (.int (own_cp p3)), .val (.int cr), .val (.int (own_cp p5)), .unset, .unset, .unset] [(.int (((p1.toUInt32 >>> ((7 : Int32) &&& 31).toUInt32).toInt32) &&& (1 : Int32)))])) (fun t k => XS.ifNo X4.here hx rfl (hb hby at_78) rfl ((if0 _ _).trans (feq hc78).1) (XS.iloadN X4.here hx rfl (hb hby at_81) rfl (XS.bipush X4.here hx rfl (hb hby at_82) (XS.iushr X4.here hx rfl (hb hby at_84) rfl (XS.iconst X4.here hx rfl (hb hby at_85) (XS.iand X4.here hx rfl (hb hby at_86) rfl k)))))) ?_
      by_cases hc87 : (((p1.toUInt32 >>> ((7 : Int32) &&& 31).toUInt32).toInt32) &&& (1 : Int32)) = (0 : Int32)
      ·
        refine GoesW.pre (U' := T4.setTop (mkF m 106 #[.val (.int p1), .val (.int p2), .val (.int p3), .val (.int p4), .val (.int p5), .val (.int na), .val (.int mb), .val (.int (own_cp p2)), .val (.int (own_cp p3)), .val (.int cr), .val (.int (own_cp p3)), .unset, .unset, .unset] [])) (fun t k => XS.ifYes X4.here hx rfl (pc0 := 87) (pc' := 102) rfl (hb hby at_87) rfl ((if0 _ _).trans (teq hc87).1) (by decide) (by decide) (XS.iload X4.here hx rfl (hb hby at_102) rfl (XS.istore X4.here hx rfl (hb hby at_104) rfl (l' := #[.val (.int p1), .val (.int p2), .val (.int p3), .val (.int p4), .val (.int p5), .val (.int na), .val (.int mb), .val (.int (own_cp p2)), .val (.int (own_cp p3)), .val (.int cr), .val (.int (own_cp p3)), .unset, .unset, .unset]) rfl k))) ?_
        exact J106_7 (own_cp p3) (own_cpok _)
      ·
        refine GoesW.pre (U' := T4.setTop (mkF m 106 #[.val (.int p1), .val (.int p2), .val (.int p3), .val (.int p4), .val (.int p5), .val (.int na), .val (.int mb), .val (.int (own_cp p2)), .val (.int (own_cp p3)), .val (.int cr), .val (.int ((own_cp p3) ^^^ (p5 &&& (1023 : Int32)))), .unset, .unset, .unset] [])) (fun t k => XS.ifNo X4.here hx rfl (hb hby at_87) rfl ((if0 _ _).trans (feq hc87).1) (XS.iload X4.here hx rfl (hb hby at_90) rfl (XS.iload X4.here hx rfl (hb hby at_92) rfl (XS.sipush X4.here hx rfl (hb hby at_94) (XS.iand X4.here hx rfl (hb hby at_97) rfl (XS.ixor X4.here hx rfl (hb hby at_98) rfl (XS.goto X4.here hx rfl (pc0 := 99) (pc' := 104) rfl (hb hby at_99) (by decide) (by decide) (XS.istore X4.here hx rfl (hb hby at_104) rfl (l' := #[.val (.int p1), .val (.int p2), .val (.int p3), .val (.int p4), .val (.int p5), .val (.int na), .val (.int mb), .val (.int (own_cp p2)), .val (.int (own_cp p3)), .val (.int cr), .val (.int ((own_cp p3) ^^^ (p5 &&& (1023 : Int32)))), .unset, .unset, .unset]) rfl k)))))))) ?_
        exact J106_7 ((own_cp p3) ^^^ (p5 &&& (1023 : Int32))) (own_xorok _ _ (own_cpok _))
  intro ct hct
  refine GoesW.pre (U' := T4.setTop (mkF m 112 #[.val (.int p1), .val (.int p2), .val (.int p3), .val (.int p4), .val (.int p5), .val (.int na), .val (.int mb), .val (.int (own_cp p2)), .val (.int (own_cp p3)), .val (.int cr), .val (.int ct), .unset, .unset, .unset] [(.int (own_cp p3)), (.int (own_cp p2)), (.int na)])) (fun t k => XS.iload X4.here hx rfl (hb hby at_106) rfl (XS.iload X4.here hx rfl (hb hby at_108) rfl (XS.iload X4.here hx rfl (hb hby at_110) rfl k))) ?_
  obtain ⟨_, _, ⟨T9, L9, k9, n9⟩, -, X9, hS9, hge9, ⟨Lc9, hQ9, l9, y9, z9, CQ9⟩, st9⟩ := Jvm.RoadKit.callSS X4 hx (y := (⟨"com/example/bnodiff/bnodiff/model/CodePointOrderComparePinLaw", "enc", "(III)Ljava/lang/String;"⟩ : MethodName)) hown (mvT hZ (wq hw 8 rfl)) (mvT hZ (wq hw 9 rfl)) (mvT hZ (wq hw 2 rfl)) (mvT hZ (wq hw 10 rfl)) (by decide) (own_backSH (s := s) (W := 0) (rm_enc l Z a0 hw hEL [] na (own_cp p2) (own_cp p3) cs h0 n0 Z0 S_COMPACT_STRINGS S__assertionsDisabled S_HI_BYTE_SHIFT S_LO_BYTE_SHIFT hcs O) hZ (wq hw 10 rfl) (wq hw 2 rfl) (by decide) (by decide) hEL H all0) (g := (mkF m 112 #[.val (.int p1), .val (.int p2), .val (.int p3), .val (.int p4), .val (.int p5), .val (.int na), .val (.int mb), .val (.int (own_cp p2)), .val (.int (own_cp p3)), .val (.int cr), .val (.int ct), .unset, .unset, .unset] [(.int (own_cp p3)), (.int (own_cp p2)), (.int na)])) rfl (by rw [hml]; rfl) (argsL := [(.int na), (.int (own_cp p2)), (.int (own_cp p3))]) (rest := []) (lenOf pd__28III_29Ljava_2flang_2fString_3b rfl) rfl (by show 2 * 0 + _ ≤ _; exact Nat.le_of_eq rfl) (hb hby at_112) (fun _ _ => ⟨rfl, HQ4, (by decide : 0 + 5 ≤ _), (by decide : 0 + 24 ≤ _)⟩)
  dsimp only [Pt.U, Pt.locs, Pt.cells, Pt.slots] at X9 l9 y9 z9 st9 hQ9 hS9 hge9 CQ9
  subst l9 y9 z9
  obtain ⟨r9, b9, kb9, rfl, N9q, KQ9, fo0_9⟩ := hQ9
  have N9 := Fr.app N4 N9q
  have hS := foldS (T := T4) hS (by rw [HQ4]; exact hk) hS9 hge9
  have hZ : Z.Warmed39 (s.setVm T9.vm).vm := State.Warmed39.trans (t := s.setVm s.vm) hZ hS9.1
  have hown := own_found hS9 hown
  have H := CQ9.1
  have CR := CR.trans CQ9
  have hk := Nat.le_refl T9.heap.size
  have Z10 : n0 ≤ T9.heap.size := Nat.le_trans Z0 KQ9.1
  have O := O.keep KQ9 all0
  have S_r9 := fo0_9
  refine GoesW.pre (U' := T9.setTop (mkF m 123 #[.val (.int p1), .val (.int p2), .val (.int p3), .val (.int p4), .val (.int p5), .val (.int na), .val (.int mb), .val (.int (own_cp p2)), .val (.int (own_cp p3)), .val (.int cr), .val (.int ct), .val (.ref r9), .unset, .unset] [(.int ct), (.int cr), (.int mb)])) (fun t k => st9.trans (XS.astore X9.here hx rfl (hb hby at_115) rfl rfl (l' := #[.val (.int p1), .val (.int p2), .val (.int p3), .val (.int p4), .val (.int p5), .val (.int na), .val (.int mb), .val (.int (own_cp p2)), .val (.int (own_cp p3)), .val (.int cr), .val (.int ct), .val (.ref r9), .unset, .unset]) rfl (XS.iload X9.here hx rfl (hb hby at_117) rfl (XS.iload X9.here hx rfl (hb hby at_119) rfl (XS.iload X9.here hx rfl (hb hby at_121) rfl k))))) ?_
  obtain ⟨_, _, ⟨T11, L11, k11, n11⟩, -, X11, hS11, hge11, ⟨Lc11, hQ11, l11, y11, z11, CQ11⟩, st11⟩ := Jvm.RoadKit.callSS X9 hx (y := (⟨"com/example/bnodiff/bnodiff/model/CodePointOrderComparePinLaw", "enc", "(III)Ljava/lang/String;"⟩ : MethodName)) hown (mvT hZ (wq hw 8 rfl)) (mvT hZ (wq hw 9 rfl)) (mvT hZ (wq hw 2 rfl)) (mvT hZ (wq hw 10 rfl)) (by decide) (own_backSH (s := s) (W := 0) (rm_enc l Z a0 hw hEL [] mb cr ct cs T9.heap n0 Z10 S_COMPACT_STRINGS S__assertionsDisabled S_HI_BYTE_SHIFT S_LO_BYTE_SHIFT hcs O) hZ (wq hw 10 rfl) (wq hw 2 rfl) (by decide) (by decide) hEL H all0) (g := (mkF m 123 #[.val (.int p1), .val (.int p2), .val (.int p3), .val (.int p4), .val (.int p5), .val (.int na), .val (.int mb), .val (.int (own_cp p2)), .val (.int (own_cp p3)), .val (.int cr), .val (.int ct), .val (.ref r9), .unset, .unset] [(.int ct), (.int cr), (.int mb)])) rfl (by rw [hml]; rfl) (argsL := [(.int mb), (.int cr), (.int ct)]) (rest := []) (lenOf pd__28III_29Ljava_2flang_2fString_3b rfl) rfl (by show 2 * 0 + _ ≤ _; exact Nat.le_of_eq rfl) (hb hby at_123) (fun _ _ => ⟨rfl, rfl, (by decide : 5 + 5 ≤ _), (by decide : 24 + 24 ≤ _)⟩)
  dsimp only [Pt.U, Pt.locs, Pt.cells, Pt.slots] at X11 l11 y11 z11 st11 hQ11 hS11 hge11 CQ11
  subst l11 y11 z11
  obtain ⟨r11, b11, kb11, rfl, N11q, KQ11, fo0_11⟩ := hQ11
  have N11 := Fr.app N9 N11q
  have hS := foldS (T := T9) hS hk hS11 hge11
  have hZ : Z.Warmed39 (s.setVm T11.vm).vm := State.Warmed39.trans (t := s.setVm T9.vm) hZ hS11.1
  have hown := own_found hS11 hown
  have H := CQ11.1
  have CR := CR.trans CQ11
  have hk := Nat.le_refl T11.heap.size
  have S_r9 := S_r9.keep KQ11 nin0 nin0
  have Z12 : n0 ≤ T11.heap.size := Nat.le_trans Z10 KQ11.1
  have O := O.keep KQ11 all0
  have S_r11 := fo0_11
  refine GoesW.pre (U' := T11.setTop (mkF m 128 #[.val (.int p1), .val (.int p2), .val (.int p3), .val (.int p4), .val (.int p5), .val (.int na), .val (.int mb), .val (.int (own_cp p2)), .val (.int (own_cp p3)), .val (.int cr), .val (.int ct), .val (.ref r9), .val (.ref r11), .unset] [])) (fun t k => st11.trans (XS.astore X11.here hx rfl (hb hby at_126) rfl rfl (l' := #[.val (.int p1), .val (.int p2), .val (.int p3), .val (.int p4), .val (.int p5), .val (.int na), .val (.int mb), .val (.int (own_cp p2)), .val (.int (own_cp p3)), .val (.int cr), .val (.int ct), .val (.ref r9), .val (.ref r11), .unset]) rfl k)) ?_
  suffices J210_13 : ∀ (T14 : State) (lc14 : List Loc), Stand p l e room_1 (s.setVm T11.vm) m #[(.int p1), (.int p2), (.int p3), (.int p4), (.int p5)] below meth c T14 lc14 10 48 → T14.heap = T11.heap → Fr n0 lc14 → ∀ (ex : Int32) (hex : own_exp na mb (own_cp p2) (own_cp p3) cr ct = ex), GoesW p e below s Z own_EL (Q_rm0 Z p1 p2 p3 p4 p5 cs sf h0 n0) room_1.cells room_1.slots (T14.setTop (mkF m 210 #[.val (.int p1), .val (.int p2), .val (.int p3), .val (.int p4), .val (.int p5), .val (.int na), .val (.int mb), .val (.int (own_cp p2)), .val (.int (own_cp p3)), .val (.int cr), .val (.int ct), .val (.ref r9), .val (.ref r11), .val (.int ex)] [])) by
    refine GoesW.pre (U' := T11.setTop (mkF m 131 #[.val (.int p1), .val (.int p2), .val (.int p3), .val (.int p4), .val (.int p5), .val (.int na), .val (.int mb), .val (.int (own_cp p2)), .val (.int (own_cp p3)), .val (.int cr), .val (.int ct), .val (.ref r9), .val (.ref r11), .unset] [(.int (1 : Int32)), (.int na)])) (fun t k => XS.iload X11.here hx rfl (hb hby at_128) rfl (XS.iconst X11.here hx rfl (hb hby at_130) k)) ?_
    by_cases hc131 : na < (1 : Int32)
    ·
      refine GoesW.pre (U' := T11.setTop (mkF m 167 #[.val (.int p1), .val (.int p2), .val (.int p3), .val (.int p4), .val (.int p5), .val (.int na), .val (.int mb), .val (.int (own_cp p2)), .val (.int (own_cp p3)), .val (.int cr), .val (.int ct), .val (.ref r9), .val (.ref r11), .unset] [(.int (2 : Int32)), (.int na)])) (fun t k => XS.icmpYes X11.here hx rfl (pc0 := 131) (pc' := 164) rfl (hb hby at_131) rfl (tlt hc131).1 (by decide) (by decide) (XS.iload X11.here hx rfl (hb hby at_164) rfl (XS.iconst X11.here hx rfl (hb hby at_166) k))) ?_
      by_cases hc167 : na < (2 : Int32)
      ·
        refine GoesW.pre (U' := T11.setTop (mkF m 205 #[.val (.int p1), .val (.int p2), .val (.int p3), .val (.int p4), .val (.int p5), .val (.int na), .val (.int mb), .val (.int (own_cp p2)), .val (.int (own_cp p3)), .val (.int cr), .val (.int ct), .val (.ref r9), .val (.ref r11), .unset] [(.int (na - mb))])) (fun t k => XS.icmpYes X11.here hx rfl (pc0 := 167) (pc' := 200) rfl (hb hby at_167) rfl (tlt hc167).1 (by decide) (by decide) (XS.iload X11.here hx rfl (hb hby at_200) rfl (XS.iload X11.here hx rfl (hb hby at_202) rfl (XS.isub X11.here hx rfl (hb hby at_204) rfl k)))) ?_
        obtain ⟨_, _, ⟨T15, L15, k15, n15⟩, -, X15, ⟨Lc15, hQ15, l15, y15, z15⟩, st15⟩ := Jvm.LawKit.callS X11 hx (y := (⟨"com/example/bnodiff/bnodiff/model/CodePointOrderComparePinLaw", "sign", "(I)I"⟩ : MethodName)) hown (mvT hZ (wq hw 36 rfl)) (mvT hZ (wq hw 37 rfl)) (mvT hZ (wq hw 2 rfl)) (mvT hZ (wq hw 38 rfl)) (by decide) (backOf (W := 0) (rm_sign l Z a0 hw [] (na - mb) T11.heap n0 Z12) hZ (wq hw 38 rfl) (wq hw 2 rfl) (by decide) (by decide)) (g := (mkF m 205 #[.val (.int p1), .val (.int p2), .val (.int p3), .val (.int p4), .val (.int p5), .val (.int na), .val (.int mb), .val (.int (own_cp p2)), .val (.int (own_cp p3)), .val (.int cr), .val (.int ct), .val (.ref r9), .val (.ref r11), .unset] [(.int (na - mb))])) rfl (by rw [hml]; rfl) (argsL := [(.int (na - mb))]) (rest := []) (lenOf pd__28I_29I rfl) rfl (by show 2 * 0 + _ ≤ _; exact Nat.le_of_eq rfl) (hb hby at_205) (fun _ _ => ⟨rfl, rfl, (by decide : 10 + 0 ≤ _), (by decide : 48 + 0 ≤ _)⟩)
        dsimp only [Pt.U, Pt.locs, Pt.cells, Pt.slots] at X15 l15 y15 z15 st15 hQ15
        subst l15 y15 z15
        obtain ⟨rfl, N15q, HQ15⟩ := hQ15
        have N15 := Fr.app N11 N15q
        refine GoesW.pre (U' := T15.setTop (mkF m 210 #[.val (.int p1), .val (.int p2), .val (.int p3), .val (.int p4), .val (.int p5), .val (.int na), .val (.int mb), .val (.int (own_cp p2)), .val (.int (own_cp p3)), .val (.int cr), .val (.int ct), .val (.ref r9), .val (.ref r11), .val (.int (own_sign (na - mb)))] [])) (fun t k => st15 t (XS.istore X15.here hx rfl (hb hby at_208) rfl (l' := #[.val (.int p1), .val (.int p2), .val (.int p3), .val (.int p4), .val (.int p5), .val (.int na), .val (.int mb), .val (.int (own_cp p2)), .val (.int (own_cp p3)), .val (.int cr), .val (.int ct), .val (.ref r9), .val (.ref r11), .val (.int (own_sign (na - mb)))]) rfl k)) ?_
        exact J210_13 _ _ X15 HQ15 N15 (own_sign (na - mb)) (by unfold own_exp own_exp2; rw [if_pos hc131, if_pos hc167])
      ·
        refine GoesW.pre (U' := T11.setTop (mkF m 173 #[.val (.int p1), .val (.int p2), .val (.int p3), .val (.int p4), .val (.int p5), .val (.int na), .val (.int mb), .val (.int (own_cp p2)), .val (.int (own_cp p3)), .val (.int cr), .val (.int ct), .val (.ref r9), .val (.ref r11), .unset] [(.int (2 : Int32)), (.int mb)])) (fun t k => XS.icmpNo X11.here hx rfl (hb hby at_167) rfl (flt hc167).1 (XS.iload X11.here hx rfl (hb hby at_170) rfl (XS.iconst X11.here hx rfl (hb hby at_172) k))) ?_
        by_cases hc173 : mb < (2 : Int32)
        ·
          refine GoesW.pre (U' := T11.setTop (mkF m 205 #[.val (.int p1), .val (.int p2), .val (.int p3), .val (.int p4), .val (.int p5), .val (.int na), .val (.int mb), .val (.int (own_cp p2)), .val (.int (own_cp p3)), .val (.int cr), .val (.int ct), .val (.ref r9), .val (.ref r11), .unset] [(.int (na - mb))])) (fun t k => XS.icmpYes X11.here hx rfl (pc0 := 173) (pc' := 200) rfl (hb hby at_173) rfl (tlt hc173).1 (by decide) (by decide) (XS.iload X11.here hx rfl (hb hby at_200) rfl (XS.iload X11.here hx rfl (hb hby at_202) rfl (XS.isub X11.here hx rfl (hb hby at_204) rfl k)))) ?_
          obtain ⟨_, _, ⟨T16, L16, k16, n16⟩, -, X16, ⟨Lc16, hQ16, l16, y16, z16⟩, st16⟩ := Jvm.LawKit.callS X11 hx (y := (⟨"com/example/bnodiff/bnodiff/model/CodePointOrderComparePinLaw", "sign", "(I)I"⟩ : MethodName)) hown (mvT hZ (wq hw 36 rfl)) (mvT hZ (wq hw 37 rfl)) (mvT hZ (wq hw 2 rfl)) (mvT hZ (wq hw 38 rfl)) (by decide) (backOf (W := 0) (rm_sign l Z a0 hw [] (na - mb) T11.heap n0 Z12) hZ (wq hw 38 rfl) (wq hw 2 rfl) (by decide) (by decide)) (g := (mkF m 205 #[.val (.int p1), .val (.int p2), .val (.int p3), .val (.int p4), .val (.int p5), .val (.int na), .val (.int mb), .val (.int (own_cp p2)), .val (.int (own_cp p3)), .val (.int cr), .val (.int ct), .val (.ref r9), .val (.ref r11), .unset] [(.int (na - mb))])) rfl (by rw [hml]; rfl) (argsL := [(.int (na - mb))]) (rest := []) (lenOf pd__28I_29I rfl) rfl (by show 2 * 0 + _ ≤ _; exact Nat.le_of_eq rfl) (hb hby at_205) (fun _ _ => ⟨rfl, rfl, (by decide : 10 + 0 ≤ _), (by decide : 48 + 0 ≤ _)⟩)
          dsimp only [Pt.U, Pt.locs, Pt.cells, Pt.slots] at X16 l16 y16 z16 st16 hQ16
          subst l16 y16 z16
          obtain ⟨rfl, N16q, HQ16⟩ := hQ16
          have N16 := Fr.app N11 N16q
          refine GoesW.pre (U' := T16.setTop (mkF m 210 #[.val (.int p1), .val (.int p2), .val (.int p3), .val (.int p4), .val (.int p5), .val (.int na), .val (.int mb), .val (.int (own_cp p2)), .val (.int (own_cp p3)), .val (.int cr), .val (.int ct), .val (.ref r9), .val (.ref r11), .val (.int (own_sign (na - mb)))] [])) (fun t k => st16 t (XS.istore X16.here hx rfl (hb hby at_208) rfl (l' := #[.val (.int p1), .val (.int p2), .val (.int p3), .val (.int p4), .val (.int p5), .val (.int na), .val (.int mb), .val (.int (own_cp p2)), .val (.int (own_cp p3)), .val (.int cr), .val (.int ct), .val (.ref r9), .val (.ref r11), .val (.int (own_sign (na - mb)))]) rfl k)) ?_
          exact J210_13 _ _ X16 HQ16 N16 (own_sign (na - mb)) (by unfold own_exp own_exp2; rw [if_pos hc131, if_neg hc167, if_pos hc173])
        ·
          refine GoesW.pre (U' := T11.setTop (mkF m 180 #[.val (.int p1), .val (.int p2), .val (.int p3), .val (.int p4), .val (.int p5), .val (.int na), .val (.int mb), .val (.int (own_cp p2)), .val (.int (own_cp p3)), .val (.int cr), .val (.int ct), .val (.ref r9), .val (.ref r11), .unset] [(.int ct), (.int (own_cp p3))])) (fun t k => XS.icmpNo X11.here hx rfl (hb hby at_173) rfl (flt hc173).1 (XS.iload X11.here hx rfl (hb hby at_176) rfl (XS.iload X11.here hx rfl (hb hby at_178) rfl k))) ?_
          by_cases hc180 : (own_cp p3) = ct
          ·
            refine GoesW.pre (U' := T11.setTop (mkF m 205 #[.val (.int p1), .val (.int p2), .val (.int p3), .val (.int p4), .val (.int p5), .val (.int na), .val (.int mb), .val (.int (own_cp p2)), .val (.int (own_cp p3)), .val (.int cr), .val (.int ct), .val (.ref r9), .val (.ref r11), .unset] [(.int (na - mb))])) (fun t k => XS.icmpYes X11.here hx rfl (pc0 := 180) (pc' := 200) rfl (hb hby at_180) rfl (teq hc180).1 (by decide) (by decide) (XS.iload X11.here hx rfl (hb hby at_200) rfl (XS.iload X11.here hx rfl (hb hby at_202) rfl (XS.isub X11.here hx rfl (hb hby at_204) rfl k)))) ?_
            obtain ⟨_, _, ⟨T17, L17, k17, n17⟩, -, X17, ⟨Lc17, hQ17, l17, y17, z17⟩, st17⟩ := Jvm.LawKit.callS X11 hx (y := (⟨"com/example/bnodiff/bnodiff/model/CodePointOrderComparePinLaw", "sign", "(I)I"⟩ : MethodName)) hown (mvT hZ (wq hw 36 rfl)) (mvT hZ (wq hw 37 rfl)) (mvT hZ (wq hw 2 rfl)) (mvT hZ (wq hw 38 rfl)) (by decide) (backOf (W := 0) (rm_sign l Z a0 hw [] (na - mb) T11.heap n0 Z12) hZ (wq hw 38 rfl) (wq hw 2 rfl) (by decide) (by decide)) (g := (mkF m 205 #[.val (.int p1), .val (.int p2), .val (.int p3), .val (.int p4), .val (.int p5), .val (.int na), .val (.int mb), .val (.int (own_cp p2)), .val (.int (own_cp p3)), .val (.int cr), .val (.int ct), .val (.ref r9), .val (.ref r11), .unset] [(.int (na - mb))])) rfl (by rw [hml]; rfl) (argsL := [(.int (na - mb))]) (rest := []) (lenOf pd__28I_29I rfl) rfl (by show 2 * 0 + _ ≤ _; exact Nat.le_of_eq rfl) (hb hby at_205) (fun _ _ => ⟨rfl, rfl, (by decide : 10 + 0 ≤ _), (by decide : 48 + 0 ≤ _)⟩)
            dsimp only [Pt.U, Pt.locs, Pt.cells, Pt.slots] at X17 l17 y17 z17 st17 hQ17
            subst l17 y17 z17
            obtain ⟨rfl, N17q, HQ17⟩ := hQ17
            have N17 := Fr.app N11 N17q
            refine GoesW.pre (U' := T17.setTop (mkF m 210 #[.val (.int p1), .val (.int p2), .val (.int p3), .val (.int p4), .val (.int p5), .val (.int na), .val (.int mb), .val (.int (own_cp p2)), .val (.int (own_cp p3)), .val (.int cr), .val (.int ct), .val (.ref r9), .val (.ref r11), .val (.int (own_sign (na - mb)))] [])) (fun t k => st17 t (XS.istore X17.here hx rfl (hb hby at_208) rfl (l' := #[.val (.int p1), .val (.int p2), .val (.int p3), .val (.int p4), .val (.int p5), .val (.int na), .val (.int mb), .val (.int (own_cp p2)), .val (.int (own_cp p3)), .val (.int cr), .val (.int ct), .val (.ref r9), .val (.ref r11), .val (.int (own_sign (na - mb)))]) rfl k)) ?_
            exact J210_13 _ _ X17 HQ17 N17 (own_sign (na - mb)) (by unfold own_exp own_exp2; rw [if_pos hc131, if_neg hc167, if_neg hc173, if_pos hc180])
          ·
            refine GoesW.pre (U' := T11.setTop (mkF m 187 #[.val (.int p1), .val (.int p2), .val (.int p3), .val (.int p4), .val (.int p5), .val (.int na), .val (.int mb), .val (.int (own_cp p2)), .val (.int (own_cp p3)), .val (.int cr), .val (.int ct), .val (.ref r9), .val (.ref r11), .unset] [(.int ct), (.int (own_cp p3))])) (fun t k => XS.icmpNo X11.here hx rfl (hb hby at_180) rfl (feq hc180).1 (XS.iload X11.here hx rfl (hb hby at_183) rfl (XS.iload X11.here hx rfl (hb hby at_185) rfl k))) ?_
            by_cases hc187 : (own_cp p3) < ct
            ·
              refine GoesW.pre (U' := T11.setTop (mkF m 210 #[.val (.int p1), .val (.int p2), .val (.int p3), .val (.int p4), .val (.int p5), .val (.int na), .val (.int mb), .val (.int (own_cp p2)), .val (.int (own_cp p3)), .val (.int cr), .val (.int ct), .val (.ref r9), .val (.ref r11), .val (.int (-1 : Int32))] [])) (fun t k => XS.icmpNo X11.here hx rfl (hb hby at_187) rfl (tlt hc187).2.1 (XS.iconst X11.here hx rfl (hb hby at_190) (XS.goto X11.here hx rfl (pc0 := 191) (pc' := 195) rfl (hb hby at_191) (by decide) (by decide) (XS.istore X11.here hx rfl (hb hby at_195) rfl (l' := #[.val (.int p1), .val (.int p2), .val (.int p3), .val (.int p4), .val (.int p5), .val (.int na), .val (.int mb), .val (.int (own_cp p2)), .val (.int (own_cp p3)), .val (.int cr), .val (.int ct), .val (.ref r9), .val (.ref r11), .val (.int (-1 : Int32))]) rfl (XS.goto X11.here hx rfl (pc0 := 197) (pc' := 210) rfl (hb hby at_197) (by decide) (by decide) k))))) ?_
              exact J210_13 _ _ X11 rfl N11 (-1 : Int32) (by unfold own_exp own_exp2; rw [if_pos hc131, if_neg hc167, if_neg hc173, if_neg hc180, if_pos hc187])
            ·
              refine GoesW.pre (U' := T11.setTop (mkF m 210 #[.val (.int p1), .val (.int p2), .val (.int p3), .val (.int p4), .val (.int p5), .val (.int na), .val (.int mb), .val (.int (own_cp p2)), .val (.int (own_cp p3)), .val (.int cr), .val (.int ct), .val (.ref r9), .val (.ref r11), .val (.int (1 : Int32))] [])) (fun t k => XS.icmpYes X11.here hx rfl (pc0 := 187) (pc' := 194) rfl (hb hby at_187) rfl (flt hc187).2.1 (by decide) (by decide) (XS.iconst X11.here hx rfl (hb hby at_194) (XS.istore X11.here hx rfl (hb hby at_195) rfl (l' := #[.val (.int p1), .val (.int p2), .val (.int p3), .val (.int p4), .val (.int p5), .val (.int na), .val (.int mb), .val (.int (own_cp p2)), .val (.int (own_cp p3)), .val (.int cr), .val (.int ct), .val (.ref r9), .val (.ref r11), .val (.int (1 : Int32))]) rfl (XS.goto X11.here hx rfl (pc0 := 197) (pc' := 210) rfl (hb hby at_197) (by decide) (by decide) k)))) ?_
              exact J210_13 _ _ X11 rfl N11 (1 : Int32) (by unfold own_exp own_exp2; rw [if_pos hc131, if_neg hc167, if_neg hc173, if_neg hc180, if_neg hc187])
    ·
      refine GoesW.pre (U' := T11.setTop (mkF m 137 #[.val (.int p1), .val (.int p2), .val (.int p3), .val (.int p4), .val (.int p5), .val (.int na), .val (.int mb), .val (.int (own_cp p2)), .val (.int (own_cp p3)), .val (.int cr), .val (.int ct), .val (.ref r9), .val (.ref r11), .unset] [(.int (1 : Int32)), (.int mb)])) (fun t k => XS.icmpNo X11.here hx rfl (hb hby at_131) rfl (flt hc131).1 (XS.iload X11.here hx rfl (hb hby at_134) rfl (XS.iconst X11.here hx rfl (hb hby at_136) k))) ?_
      by_cases hc137 : mb < (1 : Int32)
      ·
        refine GoesW.pre (U' := T11.setTop (mkF m 167 #[.val (.int p1), .val (.int p2), .val (.int p3), .val (.int p4), .val (.int p5), .val (.int na), .val (.int mb), .val (.int (own_cp p2)), .val (.int (own_cp p3)), .val (.int cr), .val (.int ct), .val (.ref r9), .val (.ref r11), .unset] [(.int (2 : Int32)), (.int na)])) (fun t k => XS.icmpYes X11.here hx rfl (pc0 := 137) (pc' := 164) rfl (hb hby at_137) rfl (tlt hc137).1 (by decide) (by decide) (XS.iload X11.here hx rfl (hb hby at_164) rfl (XS.iconst X11.here hx rfl (hb hby at_166) k))) ?_
        by_cases hc167 : na < (2 : Int32)
        ·
          refine GoesW.pre (U' := T11.setTop (mkF m 205 #[.val (.int p1), .val (.int p2), .val (.int p3), .val (.int p4), .val (.int p5), .val (.int na), .val (.int mb), .val (.int (own_cp p2)), .val (.int (own_cp p3)), .val (.int cr), .val (.int ct), .val (.ref r9), .val (.ref r11), .unset] [(.int (na - mb))])) (fun t k => XS.icmpYes X11.here hx rfl (pc0 := 167) (pc' := 200) rfl (hb hby at_167) rfl (tlt hc167).1 (by decide) (by decide) (XS.iload X11.here hx rfl (hb hby at_200) rfl (XS.iload X11.here hx rfl (hb hby at_202) rfl (XS.isub X11.here hx rfl (hb hby at_204) rfl k)))) ?_
          obtain ⟨_, _, ⟨T18, L18, k18, n18⟩, -, X18, ⟨Lc18, hQ18, l18, y18, z18⟩, st18⟩ := Jvm.LawKit.callS X11 hx (y := (⟨"com/example/bnodiff/bnodiff/model/CodePointOrderComparePinLaw", "sign", "(I)I"⟩ : MethodName)) hown (mvT hZ (wq hw 36 rfl)) (mvT hZ (wq hw 37 rfl)) (mvT hZ (wq hw 2 rfl)) (mvT hZ (wq hw 38 rfl)) (by decide) (backOf (W := 0) (rm_sign l Z a0 hw [] (na - mb) T11.heap n0 Z12) hZ (wq hw 38 rfl) (wq hw 2 rfl) (by decide) (by decide)) (g := (mkF m 205 #[.val (.int p1), .val (.int p2), .val (.int p3), .val (.int p4), .val (.int p5), .val (.int na), .val (.int mb), .val (.int (own_cp p2)), .val (.int (own_cp p3)), .val (.int cr), .val (.int ct), .val (.ref r9), .val (.ref r11), .unset] [(.int (na - mb))])) rfl (by rw [hml]; rfl) (argsL := [(.int (na - mb))]) (rest := []) (lenOf pd__28I_29I rfl) rfl (by show 2 * 0 + _ ≤ _; exact Nat.le_of_eq rfl) (hb hby at_205) (fun _ _ => ⟨rfl, rfl, (by decide : 10 + 0 ≤ _), (by decide : 48 + 0 ≤ _)⟩)
          dsimp only [Pt.U, Pt.locs, Pt.cells, Pt.slots] at X18 l18 y18 z18 st18 hQ18
          subst l18 y18 z18
          obtain ⟨rfl, N18q, HQ18⟩ := hQ18
          have N18 := Fr.app N11 N18q
          refine GoesW.pre (U' := T18.setTop (mkF m 210 #[.val (.int p1), .val (.int p2), .val (.int p3), .val (.int p4), .val (.int p5), .val (.int na), .val (.int mb), .val (.int (own_cp p2)), .val (.int (own_cp p3)), .val (.int cr), .val (.int ct), .val (.ref r9), .val (.ref r11), .val (.int (own_sign (na - mb)))] [])) (fun t k => st18 t (XS.istore X18.here hx rfl (hb hby at_208) rfl (l' := #[.val (.int p1), .val (.int p2), .val (.int p3), .val (.int p4), .val (.int p5), .val (.int na), .val (.int mb), .val (.int (own_cp p2)), .val (.int (own_cp p3)), .val (.int cr), .val (.int ct), .val (.ref r9), .val (.ref r11), .val (.int (own_sign (na - mb)))]) rfl k)) ?_
          exact J210_13 _ _ X18 HQ18 N18 (own_sign (na - mb)) (by unfold own_exp own_exp2; rw [if_neg hc131, if_pos hc137, if_pos hc167])
        ·
          refine GoesW.pre (U' := T11.setTop (mkF m 173 #[.val (.int p1), .val (.int p2), .val (.int p3), .val (.int p4), .val (.int p5), .val (.int na), .val (.int mb), .val (.int (own_cp p2)), .val (.int (own_cp p3)), .val (.int cr), .val (.int ct), .val (.ref r9), .val (.ref r11), .unset] [(.int (2 : Int32)), (.int mb)])) (fun t k => XS.icmpNo X11.here hx rfl (hb hby at_167) rfl (flt hc167).1 (XS.iload X11.here hx rfl (hb hby at_170) rfl (XS.iconst X11.here hx rfl (hb hby at_172) k))) ?_
          by_cases hc173 : mb < (2 : Int32)
          ·
            refine GoesW.pre (U' := T11.setTop (mkF m 205 #[.val (.int p1), .val (.int p2), .val (.int p3), .val (.int p4), .val (.int p5), .val (.int na), .val (.int mb), .val (.int (own_cp p2)), .val (.int (own_cp p3)), .val (.int cr), .val (.int ct), .val (.ref r9), .val (.ref r11), .unset] [(.int (na - mb))])) (fun t k => XS.icmpYes X11.here hx rfl (pc0 := 173) (pc' := 200) rfl (hb hby at_173) rfl (tlt hc173).1 (by decide) (by decide) (XS.iload X11.here hx rfl (hb hby at_200) rfl (XS.iload X11.here hx rfl (hb hby at_202) rfl (XS.isub X11.here hx rfl (hb hby at_204) rfl k)))) ?_
            obtain ⟨_, _, ⟨T19, L19, k19, n19⟩, -, X19, ⟨Lc19, hQ19, l19, y19, z19⟩, st19⟩ := Jvm.LawKit.callS X11 hx (y := (⟨"com/example/bnodiff/bnodiff/model/CodePointOrderComparePinLaw", "sign", "(I)I"⟩ : MethodName)) hown (mvT hZ (wq hw 36 rfl)) (mvT hZ (wq hw 37 rfl)) (mvT hZ (wq hw 2 rfl)) (mvT hZ (wq hw 38 rfl)) (by decide) (backOf (W := 0) (rm_sign l Z a0 hw [] (na - mb) T11.heap n0 Z12) hZ (wq hw 38 rfl) (wq hw 2 rfl) (by decide) (by decide)) (g := (mkF m 205 #[.val (.int p1), .val (.int p2), .val (.int p3), .val (.int p4), .val (.int p5), .val (.int na), .val (.int mb), .val (.int (own_cp p2)), .val (.int (own_cp p3)), .val (.int cr), .val (.int ct), .val (.ref r9), .val (.ref r11), .unset] [(.int (na - mb))])) rfl (by rw [hml]; rfl) (argsL := [(.int (na - mb))]) (rest := []) (lenOf pd__28I_29I rfl) rfl (by show 2 * 0 + _ ≤ _; exact Nat.le_of_eq rfl) (hb hby at_205) (fun _ _ => ⟨rfl, rfl, (by decide : 10 + 0 ≤ _), (by decide : 48 + 0 ≤ _)⟩)
            dsimp only [Pt.U, Pt.locs, Pt.cells, Pt.slots] at X19 l19 y19 z19 st19 hQ19
            subst l19 y19 z19
            obtain ⟨rfl, N19q, HQ19⟩ := hQ19
            have N19 := Fr.app N11 N19q
            refine GoesW.pre (U' := T19.setTop (mkF m 210 #[.val (.int p1), .val (.int p2), .val (.int p3), .val (.int p4), .val (.int p5), .val (.int na), .val (.int mb), .val (.int (own_cp p2)), .val (.int (own_cp p3)), .val (.int cr), .val (.int ct), .val (.ref r9), .val (.ref r11), .val (.int (own_sign (na - mb)))] [])) (fun t k => st19 t (XS.istore X19.here hx rfl (hb hby at_208) rfl (l' := #[.val (.int p1), .val (.int p2), .val (.int p3), .val (.int p4), .val (.int p5), .val (.int na), .val (.int mb), .val (.int (own_cp p2)), .val (.int (own_cp p3)), .val (.int cr), .val (.int ct), .val (.ref r9), .val (.ref r11), .val (.int (own_sign (na - mb)))]) rfl k)) ?_
            exact J210_13 _ _ X19 HQ19 N19 (own_sign (na - mb)) (by unfold own_exp own_exp2; rw [if_neg hc131, if_pos hc137, if_neg hc167, if_pos hc173])
          ·
            refine GoesW.pre (U' := T11.setTop (mkF m 180 #[.val (.int p1), .val (.int p2), .val (.int p3), .val (.int p4), .val (.int p5), .val (.int na), .val (.int mb), .val (.int (own_cp p2)), .val (.int (own_cp p3)), .val (.int cr), .val (.int ct), .val (.ref r9), .val (.ref r11), .unset] [(.int ct), (.int (own_cp p3))])) (fun t k => XS.icmpNo X11.here hx rfl (hb hby at_173) rfl (flt hc173).1 (XS.iload X11.here hx rfl (hb hby at_176) rfl (XS.iload X11.here hx rfl (hb hby at_178) rfl k))) ?_
            by_cases hc180 : (own_cp p3) = ct
            ·
              refine GoesW.pre (U' := T11.setTop (mkF m 205 #[.val (.int p1), .val (.int p2), .val (.int p3), .val (.int p4), .val (.int p5), .val (.int na), .val (.int mb), .val (.int (own_cp p2)), .val (.int (own_cp p3)), .val (.int cr), .val (.int ct), .val (.ref r9), .val (.ref r11), .unset] [(.int (na - mb))])) (fun t k => XS.icmpYes X11.here hx rfl (pc0 := 180) (pc' := 200) rfl (hb hby at_180) rfl (teq hc180).1 (by decide) (by decide) (XS.iload X11.here hx rfl (hb hby at_200) rfl (XS.iload X11.here hx rfl (hb hby at_202) rfl (XS.isub X11.here hx rfl (hb hby at_204) rfl k)))) ?_
              obtain ⟨_, _, ⟨T20, L20, k20, n20⟩, -, X20, ⟨Lc20, hQ20, l20, y20, z20⟩, st20⟩ := Jvm.LawKit.callS X11 hx (y := (⟨"com/example/bnodiff/bnodiff/model/CodePointOrderComparePinLaw", "sign", "(I)I"⟩ : MethodName)) hown (mvT hZ (wq hw 36 rfl)) (mvT hZ (wq hw 37 rfl)) (mvT hZ (wq hw 2 rfl)) (mvT hZ (wq hw 38 rfl)) (by decide) (backOf (W := 0) (rm_sign l Z a0 hw [] (na - mb) T11.heap n0 Z12) hZ (wq hw 38 rfl) (wq hw 2 rfl) (by decide) (by decide)) (g := (mkF m 205 #[.val (.int p1), .val (.int p2), .val (.int p3), .val (.int p4), .val (.int p5), .val (.int na), .val (.int mb), .val (.int (own_cp p2)), .val (.int (own_cp p3)), .val (.int cr), .val (.int ct), .val (.ref r9), .val (.ref r11), .unset] [(.int (na - mb))])) rfl (by rw [hml]; rfl) (argsL := [(.int (na - mb))]) (rest := []) (lenOf pd__28I_29I rfl) rfl (by show 2 * 0 + _ ≤ _; exact Nat.le_of_eq rfl) (hb hby at_205) (fun _ _ => ⟨rfl, rfl, (by decide : 10 + 0 ≤ _), (by decide : 48 + 0 ≤ _)⟩)
              dsimp only [Pt.U, Pt.locs, Pt.cells, Pt.slots] at X20 l20 y20 z20 st20 hQ20
              subst l20 y20 z20
              obtain ⟨rfl, N20q, HQ20⟩ := hQ20
              have N20 := Fr.app N11 N20q
              refine GoesW.pre (U' := T20.setTop (mkF m 210 #[.val (.int p1), .val (.int p2), .val (.int p3), .val (.int p4), .val (.int p5), .val (.int na), .val (.int mb), .val (.int (own_cp p2)), .val (.int (own_cp p3)), .val (.int cr), .val (.int ct), .val (.ref r9), .val (.ref r11), .val (.int (own_sign (na - mb)))] [])) (fun t k => st20 t (XS.istore X20.here hx rfl (hb hby at_208) rfl (l' := #[.val (.int p1), .val (.int p2), .val (.int p3), .val (.int p4), .val (.int p5), .val (.int na), .val (.int mb), .val (.int (own_cp p2)), .val (.int (own_cp p3)), .val (.int cr), .val (.int ct), .val (.ref r9), .val (.ref r11), .val (.int (own_sign (na - mb)))]) rfl k)) ?_
              exact J210_13 _ _ X20 HQ20 N20 (own_sign (na - mb)) (by unfold own_exp own_exp2; rw [if_neg hc131, if_pos hc137, if_neg hc167, if_neg hc173, if_pos hc180])
            ·
              refine GoesW.pre (U' := T11.setTop (mkF m 187 #[.val (.int p1), .val (.int p2), .val (.int p3), .val (.int p4), .val (.int p5), .val (.int na), .val (.int mb), .val (.int (own_cp p2)), .val (.int (own_cp p3)), .val (.int cr), .val (.int ct), .val (.ref r9), .val (.ref r11), .unset] [(.int ct), (.int (own_cp p3))])) (fun t k => XS.icmpNo X11.here hx rfl (hb hby at_180) rfl (feq hc180).1 (XS.iload X11.here hx rfl (hb hby at_183) rfl (XS.iload X11.here hx rfl (hb hby at_185) rfl k))) ?_
              by_cases hc187 : (own_cp p3) < ct
              ·
                refine GoesW.pre (U' := T11.setTop (mkF m 210 #[.val (.int p1), .val (.int p2), .val (.int p3), .val (.int p4), .val (.int p5), .val (.int na), .val (.int mb), .val (.int (own_cp p2)), .val (.int (own_cp p3)), .val (.int cr), .val (.int ct), .val (.ref r9), .val (.ref r11), .val (.int (-1 : Int32))] [])) (fun t k => XS.icmpNo X11.here hx rfl (hb hby at_187) rfl (tlt hc187).2.1 (XS.iconst X11.here hx rfl (hb hby at_190) (XS.goto X11.here hx rfl (pc0 := 191) (pc' := 195) rfl (hb hby at_191) (by decide) (by decide) (XS.istore X11.here hx rfl (hb hby at_195) rfl (l' := #[.val (.int p1), .val (.int p2), .val (.int p3), .val (.int p4), .val (.int p5), .val (.int na), .val (.int mb), .val (.int (own_cp p2)), .val (.int (own_cp p3)), .val (.int cr), .val (.int ct), .val (.ref r9), .val (.ref r11), .val (.int (-1 : Int32))]) rfl (XS.goto X11.here hx rfl (pc0 := 197) (pc' := 210) rfl (hb hby at_197) (by decide) (by decide) k))))) ?_
                exact J210_13 _ _ X11 rfl N11 (-1 : Int32) (by unfold own_exp own_exp2; rw [if_neg hc131, if_pos hc137, if_neg hc167, if_neg hc173, if_neg hc180, if_pos hc187])
              ·
                refine GoesW.pre (U' := T11.setTop (mkF m 210 #[.val (.int p1), .val (.int p2), .val (.int p3), .val (.int p4), .val (.int p5), .val (.int na), .val (.int mb), .val (.int (own_cp p2)), .val (.int (own_cp p3)), .val (.int cr), .val (.int ct), .val (.ref r9), .val (.ref r11), .val (.int (1 : Int32))] [])) (fun t k => XS.icmpYes X11.here hx rfl (pc0 := 187) (pc' := 194) rfl (hb hby at_187) rfl (flt hc187).2.1 (by decide) (by decide) (XS.iconst X11.here hx rfl (hb hby at_194) (XS.istore X11.here hx rfl (hb hby at_195) rfl (l' := #[.val (.int p1), .val (.int p2), .val (.int p3), .val (.int p4), .val (.int p5), .val (.int na), .val (.int mb), .val (.int (own_cp p2)), .val (.int (own_cp p3)), .val (.int cr), .val (.int ct), .val (.ref r9), .val (.ref r11), .val (.int (1 : Int32))]) rfl (XS.goto X11.here hx rfl (pc0 := 197) (pc' := 210) rfl (hb hby at_197) (by decide) (by decide) k)))) ?_
                exact J210_13 _ _ X11 rfl N11 (1 : Int32) (by unfold own_exp own_exp2; rw [if_neg hc131, if_pos hc137, if_neg hc167, if_neg hc173, if_neg hc180, if_neg hc187])
      ·
        refine GoesW.pre (U' := T11.setTop (mkF m 144 #[.val (.int p1), .val (.int p2), .val (.int p3), .val (.int p4), .val (.int p5), .val (.int na), .val (.int mb), .val (.int (own_cp p2)), .val (.int (own_cp p3)), .val (.int cr), .val (.int ct), .val (.ref r9), .val (.ref r11), .unset] [(.int cr), (.int (own_cp p2))])) (fun t k => XS.icmpNo X11.here hx rfl (hb hby at_137) rfl (flt hc137).1 (XS.iload X11.here hx rfl (hb hby at_140) rfl (XS.iload X11.here hx rfl (hb hby at_142) rfl k))) ?_
        by_cases hc144 : (own_cp p2) = cr
        ·
          refine GoesW.pre (U' := T11.setTop (mkF m 167 #[.val (.int p1), .val (.int p2), .val (.int p3), .val (.int p4), .val (.int p5), .val (.int na), .val (.int mb), .val (.int (own_cp p2)), .val (.int (own_cp p3)), .val (.int cr), .val (.int ct), .val (.ref r9), .val (.ref r11), .unset] [(.int (2 : Int32)), (.int na)])) (fun t k => XS.icmpYes X11.here hx rfl (pc0 := 144) (pc' := 164) rfl (hb hby at_144) rfl (teq hc144).1 (by decide) (by decide) (XS.iload X11.here hx rfl (hb hby at_164) rfl (XS.iconst X11.here hx rfl (hb hby at_166) k))) ?_
          by_cases hc167 : na < (2 : Int32)
          ·
            refine GoesW.pre (U' := T11.setTop (mkF m 205 #[.val (.int p1), .val (.int p2), .val (.int p3), .val (.int p4), .val (.int p5), .val (.int na), .val (.int mb), .val (.int (own_cp p2)), .val (.int (own_cp p3)), .val (.int cr), .val (.int ct), .val (.ref r9), .val (.ref r11), .unset] [(.int (na - mb))])) (fun t k => XS.icmpYes X11.here hx rfl (pc0 := 167) (pc' := 200) rfl (hb hby at_167) rfl (tlt hc167).1 (by decide) (by decide) (XS.iload X11.here hx rfl (hb hby at_200) rfl (XS.iload X11.here hx rfl (hb hby at_202) rfl (XS.isub X11.here hx rfl (hb hby at_204) rfl k)))) ?_
            obtain ⟨_, _, ⟨T21, L21, k21, n21⟩, -, X21, ⟨Lc21, hQ21, l21, y21, z21⟩, st21⟩ := Jvm.LawKit.callS X11 hx (y := (⟨"com/example/bnodiff/bnodiff/model/CodePointOrderComparePinLaw", "sign", "(I)I"⟩ : MethodName)) hown (mvT hZ (wq hw 36 rfl)) (mvT hZ (wq hw 37 rfl)) (mvT hZ (wq hw 2 rfl)) (mvT hZ (wq hw 38 rfl)) (by decide) (backOf (W := 0) (rm_sign l Z a0 hw [] (na - mb) T11.heap n0 Z12) hZ (wq hw 38 rfl) (wq hw 2 rfl) (by decide) (by decide)) (g := (mkF m 205 #[.val (.int p1), .val (.int p2), .val (.int p3), .val (.int p4), .val (.int p5), .val (.int na), .val (.int mb), .val (.int (own_cp p2)), .val (.int (own_cp p3)), .val (.int cr), .val (.int ct), .val (.ref r9), .val (.ref r11), .unset] [(.int (na - mb))])) rfl (by rw [hml]; rfl) (argsL := [(.int (na - mb))]) (rest := []) (lenOf pd__28I_29I rfl) rfl (by show 2 * 0 + _ ≤ _; exact Nat.le_of_eq rfl) (hb hby at_205) (fun _ _ => ⟨rfl, rfl, (by decide : 10 + 0 ≤ _), (by decide : 48 + 0 ≤ _)⟩)
            dsimp only [Pt.U, Pt.locs, Pt.cells, Pt.slots] at X21 l21 y21 z21 st21 hQ21
            subst l21 y21 z21
            obtain ⟨rfl, N21q, HQ21⟩ := hQ21
            have N21 := Fr.app N11 N21q
            refine GoesW.pre (U' := T21.setTop (mkF m 210 #[.val (.int p1), .val (.int p2), .val (.int p3), .val (.int p4), .val (.int p5), .val (.int na), .val (.int mb), .val (.int (own_cp p2)), .val (.int (own_cp p3)), .val (.int cr), .val (.int ct), .val (.ref r9), .val (.ref r11), .val (.int (own_sign (na - mb)))] [])) (fun t k => st21 t (XS.istore X21.here hx rfl (hb hby at_208) rfl (l' := #[.val (.int p1), .val (.int p2), .val (.int p3), .val (.int p4), .val (.int p5), .val (.int na), .val (.int mb), .val (.int (own_cp p2)), .val (.int (own_cp p3)), .val (.int cr), .val (.int ct), .val (.ref r9), .val (.ref r11), .val (.int (own_sign (na - mb)))]) rfl k)) ?_
            exact J210_13 _ _ X21 HQ21 N21 (own_sign (na - mb)) (by unfold own_exp own_exp2; rw [if_neg hc131, if_neg hc137, if_pos hc144, if_pos hc167])
          ·
            refine GoesW.pre (U' := T11.setTop (mkF m 173 #[.val (.int p1), .val (.int p2), .val (.int p3), .val (.int p4), .val (.int p5), .val (.int na), .val (.int mb), .val (.int (own_cp p2)), .val (.int (own_cp p3)), .val (.int cr), .val (.int ct), .val (.ref r9), .val (.ref r11), .unset] [(.int (2 : Int32)), (.int mb)])) (fun t k => XS.icmpNo X11.here hx rfl (hb hby at_167) rfl (flt hc167).1 (XS.iload X11.here hx rfl (hb hby at_170) rfl (XS.iconst X11.here hx rfl (hb hby at_172) k))) ?_
            by_cases hc173 : mb < (2 : Int32)
            ·
              refine GoesW.pre (U' := T11.setTop (mkF m 205 #[.val (.int p1), .val (.int p2), .val (.int p3), .val (.int p4), .val (.int p5), .val (.int na), .val (.int mb), .val (.int (own_cp p2)), .val (.int (own_cp p3)), .val (.int cr), .val (.int ct), .val (.ref r9), .val (.ref r11), .unset] [(.int (na - mb))])) (fun t k => XS.icmpYes X11.here hx rfl (pc0 := 173) (pc' := 200) rfl (hb hby at_173) rfl (tlt hc173).1 (by decide) (by decide) (XS.iload X11.here hx rfl (hb hby at_200) rfl (XS.iload X11.here hx rfl (hb hby at_202) rfl (XS.isub X11.here hx rfl (hb hby at_204) rfl k)))) ?_
              obtain ⟨_, _, ⟨T22, L22, k22, n22⟩, -, X22, ⟨Lc22, hQ22, l22, y22, z22⟩, st22⟩ := Jvm.LawKit.callS X11 hx (y := (⟨"com/example/bnodiff/bnodiff/model/CodePointOrderComparePinLaw", "sign", "(I)I"⟩ : MethodName)) hown (mvT hZ (wq hw 36 rfl)) (mvT hZ (wq hw 37 rfl)) (mvT hZ (wq hw 2 rfl)) (mvT hZ (wq hw 38 rfl)) (by decide) (backOf (W := 0) (rm_sign l Z a0 hw [] (na - mb) T11.heap n0 Z12) hZ (wq hw 38 rfl) (wq hw 2 rfl) (by decide) (by decide)) (g := (mkF m 205 #[.val (.int p1), .val (.int p2), .val (.int p3), .val (.int p4), .val (.int p5), .val (.int na), .val (.int mb), .val (.int (own_cp p2)), .val (.int (own_cp p3)), .val (.int cr), .val (.int ct), .val (.ref r9), .val (.ref r11), .unset] [(.int (na - mb))])) rfl (by rw [hml]; rfl) (argsL := [(.int (na - mb))]) (rest := []) (lenOf pd__28I_29I rfl) rfl (by show 2 * 0 + _ ≤ _; exact Nat.le_of_eq rfl) (hb hby at_205) (fun _ _ => ⟨rfl, rfl, (by decide : 10 + 0 ≤ _), (by decide : 48 + 0 ≤ _)⟩)
              dsimp only [Pt.U, Pt.locs, Pt.cells, Pt.slots] at X22 l22 y22 z22 st22 hQ22
              subst l22 y22 z22
              obtain ⟨rfl, N22q, HQ22⟩ := hQ22
              have N22 := Fr.app N11 N22q
              refine GoesW.pre (U' := T22.setTop (mkF m 210 #[.val (.int p1), .val (.int p2), .val (.int p3), .val (.int p4), .val (.int p5), .val (.int na), .val (.int mb), .val (.int (own_cp p2)), .val (.int (own_cp p3)), .val (.int cr), .val (.int ct), .val (.ref r9), .val (.ref r11), .val (.int (own_sign (na - mb)))] [])) (fun t k => st22 t (XS.istore X22.here hx rfl (hb hby at_208) rfl (l' := #[.val (.int p1), .val (.int p2), .val (.int p3), .val (.int p4), .val (.int p5), .val (.int na), .val (.int mb), .val (.int (own_cp p2)), .val (.int (own_cp p3)), .val (.int cr), .val (.int ct), .val (.ref r9), .val (.ref r11), .val (.int (own_sign (na - mb)))]) rfl k)) ?_
              exact J210_13 _ _ X22 HQ22 N22 (own_sign (na - mb)) (by unfold own_exp own_exp2; rw [if_neg hc131, if_neg hc137, if_pos hc144, if_neg hc167, if_pos hc173])
            ·
              refine GoesW.pre (U' := T11.setTop (mkF m 180 #[.val (.int p1), .val (.int p2), .val (.int p3), .val (.int p4), .val (.int p5), .val (.int na), .val (.int mb), .val (.int (own_cp p2)), .val (.int (own_cp p3)), .val (.int cr), .val (.int ct), .val (.ref r9), .val (.ref r11), .unset] [(.int ct), (.int (own_cp p3))])) (fun t k => XS.icmpNo X11.here hx rfl (hb hby at_173) rfl (flt hc173).1 (XS.iload X11.here hx rfl (hb hby at_176) rfl (XS.iload X11.here hx rfl (hb hby at_178) rfl k))) ?_
              by_cases hc180 : (own_cp p3) = ct
              ·
                refine GoesW.pre (U' := T11.setTop (mkF m 205 #[.val (.int p1), .val (.int p2), .val (.int p3), .val (.int p4), .val (.int p5), .val (.int na), .val (.int mb), .val (.int (own_cp p2)), .val (.int (own_cp p3)), .val (.int cr), .val (.int ct), .val (.ref r9), .val (.ref r11), .unset] [(.int (na - mb))])) (fun t k => XS.icmpYes X11.here hx rfl (pc0 := 180) (pc' := 200) rfl (hb hby at_180) rfl (teq hc180).1 (by decide) (by decide) (XS.iload X11.here hx rfl (hb hby at_200) rfl (XS.iload X11.here hx rfl (hb hby at_202) rfl (XS.isub X11.here hx rfl (hb hby at_204) rfl k)))) ?_
                obtain ⟨_, _, ⟨T23, L23, k23, n23⟩, -, X23, ⟨Lc23, hQ23, l23, y23, z23⟩, st23⟩ := Jvm.LawKit.callS X11 hx (y := (⟨"com/example/bnodiff/bnodiff/model/CodePointOrderComparePinLaw", "sign", "(I)I"⟩ : MethodName)) hown (mvT hZ (wq hw 36 rfl)) (mvT hZ (wq hw 37 rfl)) (mvT hZ (wq hw 2 rfl)) (mvT hZ (wq hw 38 rfl)) (by decide) (backOf (W := 0) (rm_sign l Z a0 hw [] (na - mb) T11.heap n0 Z12) hZ (wq hw 38 rfl) (wq hw 2 rfl) (by decide) (by decide)) (g := (mkF m 205 #[.val (.int p1), .val (.int p2), .val (.int p3), .val (.int p4), .val (.int p5), .val (.int na), .val (.int mb), .val (.int (own_cp p2)), .val (.int (own_cp p3)), .val (.int cr), .val (.int ct), .val (.ref r9), .val (.ref r11), .unset] [(.int (na - mb))])) rfl (by rw [hml]; rfl) (argsL := [(.int (na - mb))]) (rest := []) (lenOf pd__28I_29I rfl) rfl (by show 2 * 0 + _ ≤ _; exact Nat.le_of_eq rfl) (hb hby at_205) (fun _ _ => ⟨rfl, rfl, (by decide : 10 + 0 ≤ _), (by decide : 48 + 0 ≤ _)⟩)
                dsimp only [Pt.U, Pt.locs, Pt.cells, Pt.slots] at X23 l23 y23 z23 st23 hQ23
                subst l23 y23 z23
                obtain ⟨rfl, N23q, HQ23⟩ := hQ23
                have N23 := Fr.app N11 N23q
                refine GoesW.pre (U' := T23.setTop (mkF m 210 #[.val (.int p1), .val (.int p2), .val (.int p3), .val (.int p4), .val (.int p5), .val (.int na), .val (.int mb), .val (.int (own_cp p2)), .val (.int (own_cp p3)), .val (.int cr), .val (.int ct), .val (.ref r9), .val (.ref r11), .val (.int (own_sign (na - mb)))] [])) (fun t k => st23 t (XS.istore X23.here hx rfl (hb hby at_208) rfl (l' := #[.val (.int p1), .val (.int p2), .val (.int p3), .val (.int p4), .val (.int p5), .val (.int na), .val (.int mb), .val (.int (own_cp p2)), .val (.int (own_cp p3)), .val (.int cr), .val (.int ct), .val (.ref r9), .val (.ref r11), .val (.int (own_sign (na - mb)))]) rfl k)) ?_
                exact J210_13 _ _ X23 HQ23 N23 (own_sign (na - mb)) (by unfold own_exp own_exp2; rw [if_neg hc131, if_neg hc137, if_pos hc144, if_neg hc167, if_neg hc173, if_pos hc180])
              ·
                refine GoesW.pre (U' := T11.setTop (mkF m 187 #[.val (.int p1), .val (.int p2), .val (.int p3), .val (.int p4), .val (.int p5), .val (.int na), .val (.int mb), .val (.int (own_cp p2)), .val (.int (own_cp p3)), .val (.int cr), .val (.int ct), .val (.ref r9), .val (.ref r11), .unset] [(.int ct), (.int (own_cp p3))])) (fun t k => XS.icmpNo X11.here hx rfl (hb hby at_180) rfl (feq hc180).1 (XS.iload X11.here hx rfl (hb hby at_183) rfl (XS.iload X11.here hx rfl (hb hby at_185) rfl k))) ?_
                by_cases hc187 : (own_cp p3) < ct
                ·
                  refine GoesW.pre (U' := T11.setTop (mkF m 210 #[.val (.int p1), .val (.int p2), .val (.int p3), .val (.int p4), .val (.int p5), .val (.int na), .val (.int mb), .val (.int (own_cp p2)), .val (.int (own_cp p3)), .val (.int cr), .val (.int ct), .val (.ref r9), .val (.ref r11), .val (.int (-1 : Int32))] [])) (fun t k => XS.icmpNo X11.here hx rfl (hb hby at_187) rfl (tlt hc187).2.1 (XS.iconst X11.here hx rfl (hb hby at_190) (XS.goto X11.here hx rfl (pc0 := 191) (pc' := 195) rfl (hb hby at_191) (by decide) (by decide) (XS.istore X11.here hx rfl (hb hby at_195) rfl (l' := #[.val (.int p1), .val (.int p2), .val (.int p3), .val (.int p4), .val (.int p5), .val (.int na), .val (.int mb), .val (.int (own_cp p2)), .val (.int (own_cp p3)), .val (.int cr), .val (.int ct), .val (.ref r9), .val (.ref r11), .val (.int (-1 : Int32))]) rfl (XS.goto X11.here hx rfl (pc0 := 197) (pc' := 210) rfl (hb hby at_197) (by decide) (by decide) k))))) ?_
                  exact J210_13 _ _ X11 rfl N11 (-1 : Int32) (by unfold own_exp own_exp2; rw [if_neg hc131, if_neg hc137, if_pos hc144, if_neg hc167, if_neg hc173, if_neg hc180, if_pos hc187])
                ·
                  refine GoesW.pre (U' := T11.setTop (mkF m 210 #[.val (.int p1), .val (.int p2), .val (.int p3), .val (.int p4), .val (.int p5), .val (.int na), .val (.int mb), .val (.int (own_cp p2)), .val (.int (own_cp p3)), .val (.int cr), .val (.int ct), .val (.ref r9), .val (.ref r11), .val (.int (1 : Int32))] [])) (fun t k => XS.icmpYes X11.here hx rfl (pc0 := 187) (pc' := 194) rfl (hb hby at_187) rfl (flt hc187).2.1 (by decide) (by decide) (XS.iconst X11.here hx rfl (hb hby at_194) (XS.istore X11.here hx rfl (hb hby at_195) rfl (l' := #[.val (.int p1), .val (.int p2), .val (.int p3), .val (.int p4), .val (.int p5), .val (.int na), .val (.int mb), .val (.int (own_cp p2)), .val (.int (own_cp p3)), .val (.int cr), .val (.int ct), .val (.ref r9), .val (.ref r11), .val (.int (1 : Int32))]) rfl (XS.goto X11.here hx rfl (pc0 := 197) (pc' := 210) rfl (hb hby at_197) (by decide) (by decide) k)))) ?_
                  exact J210_13 _ _ X11 rfl N11 (1 : Int32) (by unfold own_exp own_exp2; rw [if_neg hc131, if_neg hc137, if_pos hc144, if_neg hc167, if_neg hc173, if_neg hc180, if_neg hc187])
        ·
          refine GoesW.pre (U' := T11.setTop (mkF m 151 #[.val (.int p1), .val (.int p2), .val (.int p3), .val (.int p4), .val (.int p5), .val (.int na), .val (.int mb), .val (.int (own_cp p2)), .val (.int (own_cp p3)), .val (.int cr), .val (.int ct), .val (.ref r9), .val (.ref r11), .unset] [(.int cr), (.int (own_cp p2))])) (fun t k => XS.icmpNo X11.here hx rfl (hb hby at_144) rfl (feq hc144).1 (XS.iload X11.here hx rfl (hb hby at_147) rfl (XS.iload X11.here hx rfl (hb hby at_149) rfl k))) ?_
          by_cases hc151 : (own_cp p2) < cr
          ·
            refine GoesW.pre (U' := T11.setTop (mkF m 210 #[.val (.int p1), .val (.int p2), .val (.int p3), .val (.int p4), .val (.int p5), .val (.int na), .val (.int mb), .val (.int (own_cp p2)), .val (.int (own_cp p3)), .val (.int cr), .val (.int ct), .val (.ref r9), .val (.ref r11), .val (.int (-1 : Int32))] [])) (fun t k => XS.icmpNo X11.here hx rfl (hb hby at_151) rfl (tlt hc151).2.1 (XS.iconst X11.here hx rfl (hb hby at_154) (XS.goto X11.here hx rfl (pc0 := 155) (pc' := 159) rfl (hb hby at_155) (by decide) (by decide) (XS.istore X11.here hx rfl (hb hby at_159) rfl (l' := #[.val (.int p1), .val (.int p2), .val (.int p3), .val (.int p4), .val (.int p5), .val (.int na), .val (.int mb), .val (.int (own_cp p2)), .val (.int (own_cp p3)), .val (.int cr), .val (.int ct), .val (.ref r9), .val (.ref r11), .val (.int (-1 : Int32))]) rfl (XS.goto X11.here hx rfl (pc0 := 161) (pc' := 210) rfl (hb hby at_161) (by decide) (by decide) k))))) ?_
            exact J210_13 _ _ X11 rfl N11 (-1 : Int32) (by unfold own_exp own_exp2; rw [if_neg hc131, if_neg hc137, if_neg hc144, if_pos hc151])
          ·
            refine GoesW.pre (U' := T11.setTop (mkF m 210 #[.val (.int p1), .val (.int p2), .val (.int p3), .val (.int p4), .val (.int p5), .val (.int na), .val (.int mb), .val (.int (own_cp p2)), .val (.int (own_cp p3)), .val (.int cr), .val (.int ct), .val (.ref r9), .val (.ref r11), .val (.int (1 : Int32))] [])) (fun t k => XS.icmpYes X11.here hx rfl (pc0 := 151) (pc' := 158) rfl (hb hby at_151) rfl (flt hc151).2.1 (by decide) (by decide) (XS.iconst X11.here hx rfl (hb hby at_158) (XS.istore X11.here hx rfl (hb hby at_159) rfl (l' := #[.val (.int p1), .val (.int p2), .val (.int p3), .val (.int p4), .val (.int p5), .val (.int na), .val (.int mb), .val (.int (own_cp p2)), .val (.int (own_cp p3)), .val (.int cr), .val (.int ct), .val (.ref r9), .val (.ref r11), .val (.int (1 : Int32))]) rfl (XS.goto X11.here hx rfl (pc0 := 161) (pc' := 210) rfl (hb hby at_161) (by decide) (by decide) k)))) ?_
            exact J210_13 _ _ X11 rfl N11 (1 : Int32) (by unfold own_exp own_exp2; rw [if_neg hc131, if_neg hc137, if_neg hc144, if_neg hc151])
  intro T14 lc14 X14 e14 N14 ex hex
  refine GoesW.pre (U' := T14.setTop (mkF m 214 #[.val (.int p1), .val (.int p2), .val (.int p3), .val (.int p4), .val (.int p5), .val (.int na), .val (.int mb), .val (.int (own_cp p2)), .val (.int (own_cp p3)), .val (.int cr), .val (.int ct), .val (.ref r9), .val (.ref r11), .val (.int ex)] [(.ref r11), (.ref r9)])) (fun t k => XS.aload X14.here hx rfl (hb hby at_210) rfl rfl (XS.aload X14.here hx rfl (hb hby at_212) rfl rfl k)) ?_
  obtain ⟨_, _, ⟨T24, L24, k24, n24⟩, -, X24, ⟨Lc24, hQ24, l24, y24, z24⟩, st24⟩ := Jvm.LawKit.callS X14 hx (y := (⟨"com/example/bnodiff/bnodiff/model/CodePointOrder", "compare", "(Ljava/lang/String;Ljava/lang/String;)I"⟩ : MethodName)) hown (mvT hZ (wq hw 39 rfl)) (mvT hZ (wq hw 40 rfl)) (mvT hZ (wq hw 41 rfl)) (mvT hZ (wq hw 42 rfl)) (by decide) (backOf (W := 0) (rm_cmpS l Z a0 hw [] r9 b9 kb9 (own_enc na (own_cp p2) (own_cp p3)) r11 b11 kb11 (own_enc mb cr ct) cs sf T11.heap n0 Z12 S_r9 S_r11 S_COMPACT_STRINGS S__assertionsDisabled S_HI_BYTE_SHIFT S_LO_BYTE_SHIFT S_SIOOBE_FORMATTER (own_enc_len _ _ _) (own_enc_len _ _ _) hcs hsf O) hZ (wq hw 42 rfl) (wq hw 41 rfl) (by decide) (by decide)) (g := (mkF m 214 #[.val (.int p1), .val (.int p2), .val (.int p3), .val (.int p4), .val (.int p5), .val (.int na), .val (.int mb), .val (.int (own_cp p2)), .val (.int (own_cp p3)), .val (.int cr), .val (.int ct), .val (.ref r9), .val (.ref r11), .val (.int ex)] [(.ref r11), (.ref r9)])) rfl (by rw [hml]; rfl) (argsL := [(.ref r9), (.ref r11)]) (rest := []) (lenOf pd__28Ljava_2flang_2fString_3bLjava_2flang_2fString_3b_29I rfl) rfl (by show 2 * 0 + _ ≤ _; exact Nat.le_of_eq rfl) (hb hby at_214) (fun _ _ => ⟨rfl, e14, (by decide : 10 + 0 ≤ _), (by decide : 48 + 0 ≤ _)⟩)
  dsimp only [Pt.U, Pt.locs, Pt.cells, Pt.slots] at X24 l24 y24 z24 st24 hQ24
  subst l24 y24 z24
  obtain ⟨rfl, N24q, HQ24⟩ := hQ24
  have N24 := Fr.app N14 N24q
  refine GoesW.pre (U' := T24.setTop (mkF m 217 #[.val (.int p1), .val (.int p2), .val (.int p3), .val (.int p4), .val (.int p5), .val (.int na), .val (.int mb), .val (.int (own_cp p2)), .val (.int (own_cp p3)), .val (.int cr), .val (.int ct), .val (.ref r9), .val (.ref r11), .val (.int ex)] [(.int (own_cmp (own_enc na (own_cp p2) (own_cp p3)) (own_enc mb cr ct)))])) (fun t k => st24 t k) ?_
  obtain ⟨_, _, ⟨T25, L25, k25, n25⟩, -, X25, ⟨Lc25, hQ25, l25, y25, z25⟩, st25⟩ := Jvm.LawKit.callS X24 hx (y := (⟨"com/example/bnodiff/bnodiff/model/CodePointOrderComparePinLaw", "sign", "(I)I"⟩ : MethodName)) hown (mvT hZ (wq hw 36 rfl)) (mvT hZ (wq hw 37 rfl)) (mvT hZ (wq hw 2 rfl)) (mvT hZ (wq hw 38 rfl)) (by decide) (backOf (W := 0) (rm_sign l Z a0 hw [] (own_cmp (own_enc na (own_cp p2) (own_cp p3)) (own_enc mb cr ct)) T11.heap n0 Z12) hZ (wq hw 38 rfl) (wq hw 2 rfl) (by decide) (by decide)) (g := (mkF m 217 #[.val (.int p1), .val (.int p2), .val (.int p3), .val (.int p4), .val (.int p5), .val (.int na), .val (.int mb), .val (.int (own_cp p2)), .val (.int (own_cp p3)), .val (.int cr), .val (.int ct), .val (.ref r9), .val (.ref r11), .val (.int ex)] [(.int (own_cmp (own_enc na (own_cp p2) (own_cp p3)) (own_enc mb cr ct)))])) rfl (by rw [hml]; rfl) (argsL := [(.int (own_cmp (own_enc na (own_cp p2) (own_cp p3)) (own_enc mb cr ct)))]) (rest := []) (lenOf pd__28I_29I rfl) rfl (by show 2 * 0 + _ ≤ _; exact Nat.le_of_eq rfl) (hb hby at_217) (fun _ _ => ⟨rfl, HQ24, (by decide : 10 + 0 ≤ _), (by decide : 48 + 0 ≤ _)⟩)
  dsimp only [Pt.U, Pt.locs, Pt.cells, Pt.slots] at X25 l25 y25 z25 st25 hQ25
  subst l25 y25 z25
  obtain ⟨rfl, N25q, HQ25⟩ := hQ25
  have N25 := Fr.app N24 N25q
  refine GoesW.pre (U' := T25.setTop (mkF m 222 #[.val (.int p1), .val (.int p2), .val (.int p3), .val (.int p4), .val (.int p5), .val (.int na), .val (.int mb), .val (.int (own_cp p2)), .val (.int (own_cp p3)), .val (.int cr), .val (.int ct), .val (.ref r9), .val (.ref r11), .val (.int ex)] [(.int ex), (.int (own_sign (own_cmp (own_enc na (own_cp p2) (own_cp p3)) (own_enc mb cr ct))))])) (fun t k => st25 t (XS.iload X25.here hx rfl (hb hby at_220) rfl k)) ?_
  have hc222 : (own_sign (own_cmp (own_enc na (own_cp p2) (own_cp p3)) (own_enc mb cr ct))) = ex := (own_law na mb (own_cp p2) (own_cp p3) cr ct ex (own_n3 _ _ hna) (own_n3 _ _ hmb) (own_cpok _) (own_cpok _) hcr hct hex).1
  refine GoesW.pre (U' := T25.setTop (mkF m 229 #[.val (.int p1), .val (.int p2), .val (.int p3), .val (.int p4), .val (.int p5), .val (.int na), .val (.int mb), .val (.int (own_cp p2)), .val (.int (own_cp p3)), .val (.int cr), .val (.int ct), .val (.ref r9), .val (.ref r11), .val (.int ex)] [(.ref r9), (.ref r11)])) (fun t k => XS.icmpNo X25.here hx rfl (hb hby at_222) rfl (teq hc222).2 (XS.aload X25.here hx rfl (hb hby at_225) rfl rfl (XS.aload X25.here hx rfl (hb hby at_227) rfl rfl k))) ?_
  obtain ⟨_, _, ⟨T26, L26, k26, n26⟩, -, X26, ⟨Lc26, hQ26, l26, y26, z26⟩, st26⟩ := Jvm.LawKit.callS X25 hx (y := (⟨"com/example/bnodiff/bnodiff/model/CodePointOrder", "compare", "(Ljava/lang/String;Ljava/lang/String;)I"⟩ : MethodName)) hown (mvT hZ (wq hw 39 rfl)) (mvT hZ (wq hw 40 rfl)) (mvT hZ (wq hw 41 rfl)) (mvT hZ (wq hw 42 rfl)) (by decide) (backOf (W := 0) (rm_cmpS l Z a0 hw [] r11 b11 kb11 (own_enc mb cr ct) r9 b9 kb9 (own_enc na (own_cp p2) (own_cp p3)) cs sf T11.heap n0 Z12 S_r11 S_r9 S_COMPACT_STRINGS S__assertionsDisabled S_HI_BYTE_SHIFT S_LO_BYTE_SHIFT S_SIOOBE_FORMATTER (own_enc_len _ _ _) (own_enc_len _ _ _) hcs hsf O) hZ (wq hw 42 rfl) (wq hw 41 rfl) (by decide) (by decide)) (g := (mkF m 229 #[.val (.int p1), .val (.int p2), .val (.int p3), .val (.int p4), .val (.int p5), .val (.int na), .val (.int mb), .val (.int (own_cp p2)), .val (.int (own_cp p3)), .val (.int cr), .val (.int ct), .val (.ref r9), .val (.ref r11), .val (.int ex)] [(.ref r9), (.ref r11)])) rfl (by rw [hml]; rfl) (argsL := [(.ref r11), (.ref r9)]) (rest := []) (lenOf pd__28Ljava_2flang_2fString_3bLjava_2flang_2fString_3b_29I rfl) rfl (by show 2 * 0 + _ ≤ _; exact Nat.le_of_eq rfl) (hb hby at_229) (fun _ _ => ⟨rfl, HQ25, (by decide : 10 + 0 ≤ _), (by decide : 48 + 0 ≤ _)⟩)
  dsimp only [Pt.U, Pt.locs, Pt.cells, Pt.slots] at X26 l26 y26 z26 st26 hQ26
  subst l26 y26 z26
  obtain ⟨rfl, N26q, HQ26⟩ := hQ26
  have N26 := Fr.app N25 N26q
  refine GoesW.pre (U' := T26.setTop (mkF m 232 #[.val (.int p1), .val (.int p2), .val (.int p3), .val (.int p4), .val (.int p5), .val (.int na), .val (.int mb), .val (.int (own_cp p2)), .val (.int (own_cp p3)), .val (.int cr), .val (.int ct), .val (.ref r9), .val (.ref r11), .val (.int ex)] [(.int (own_cmp (own_enc mb cr ct) (own_enc na (own_cp p2) (own_cp p3))))])) (fun t k => st26 t k) ?_
  obtain ⟨_, _, ⟨T27, L27, k27, n27⟩, -, X27, ⟨Lc27, hQ27, l27, y27, z27⟩, st27⟩ := Jvm.LawKit.callS X26 hx (y := (⟨"com/example/bnodiff/bnodiff/model/CodePointOrderComparePinLaw", "sign", "(I)I"⟩ : MethodName)) hown (mvT hZ (wq hw 36 rfl)) (mvT hZ (wq hw 37 rfl)) (mvT hZ (wq hw 2 rfl)) (mvT hZ (wq hw 38 rfl)) (by decide) (backOf (W := 0) (rm_sign l Z a0 hw [] (own_cmp (own_enc mb cr ct) (own_enc na (own_cp p2) (own_cp p3))) T11.heap n0 Z12) hZ (wq hw 38 rfl) (wq hw 2 rfl) (by decide) (by decide)) (g := (mkF m 232 #[.val (.int p1), .val (.int p2), .val (.int p3), .val (.int p4), .val (.int p5), .val (.int na), .val (.int mb), .val (.int (own_cp p2)), .val (.int (own_cp p3)), .val (.int cr), .val (.int ct), .val (.ref r9), .val (.ref r11), .val (.int ex)] [(.int (own_cmp (own_enc mb cr ct) (own_enc na (own_cp p2) (own_cp p3))))])) rfl (by rw [hml]; rfl) (argsL := [(.int (own_cmp (own_enc mb cr ct) (own_enc na (own_cp p2) (own_cp p3))))]) (rest := []) (lenOf pd__28I_29I rfl) rfl (by show 2 * 0 + _ ≤ _; exact Nat.le_of_eq rfl) (hb hby at_232) (fun _ _ => ⟨rfl, HQ26, (by decide : 10 + 0 ≤ _), (by decide : 48 + 0 ≤ _)⟩)
  dsimp only [Pt.U, Pt.locs, Pt.cells, Pt.slots] at X27 l27 y27 z27 st27 hQ27
  subst l27 y27 z27
  obtain ⟨rfl, N27q, HQ27⟩ := hQ27
  have N27 := Fr.app N26 N27q
  refine GoesW.pre (U' := T27.setTop (mkF m 238 #[.val (.int p1), .val (.int p2), .val (.int p3), .val (.int p4), .val (.int p5), .val (.int na), .val (.int mb), .val (.int (own_cp p2)), .val (.int (own_cp p3)), .val (.int cr), .val (.int ct), .val (.ref r9), .val (.ref r11), .val (.int ex)] [(.int (-ex)), (.int (own_sign (own_cmp (own_enc mb cr ct) (own_enc na (own_cp p2) (own_cp p3)))))])) (fun t k => st27 t (XS.iload X27.here hx rfl (hb hby at_235) rfl (XS.ineg X27.here hx rfl (hb hby at_237) rfl k))) ?_
  have hc238 : (own_sign (own_cmp (own_enc mb cr ct) (own_enc na (own_cp p2) (own_cp p3)))) = (-ex) := (own_law na mb (own_cp p2) (own_cp p3) cr ct ex (own_n3 _ _ hna) (own_n3 _ _ hmb) (own_cpok _) (own_cpok _) hcr hct hex).2
  refine GoesW.pre (U' := T27.setTop (mkF m 246 #[.val (.int p1), .val (.int p2), .val (.int p3), .val (.int p4), .val (.int p5), .val (.int na), .val (.int mb), .val (.int (own_cp p2)), .val (.int (own_cp p3)), .val (.int cr), .val (.int ct), .val (.ref r9), .val (.ref r11), .val (.int ex)] [(.int (1 : Int32))])) (fun t k => XS.icmpNo X27.here hx rfl (hb hby at_238) rfl (teq hc238).2 (XS.iconst X27.here hx rfl (hb hby at_241) (XS.goto X27.here hx rfl (pc0 := 242) (pc' := 246) rfl (hb hby at_242) (by decide) (by decide) k))) ?_
  refine GoesW.ret X27 hZ hEL hS hk H CR (v := (some (.int (1 : Int32)))) (fun h => by rw [hret] at h; cases h) hlk (by decide) (by decide) HQ27 (fun fs hr => retN X27 hx (t := .boolean) hret (by simp) (hb hby at_246) hr) ?_
  exact ⟨rfl, N27⟩
theorem own_stat {Z : State} {args : Array Value} {t : Term} {k : Int32} (w : (Cond.eq t (Term.int k)).value args Z none Z [] = some true) : t.eval args Z none [] Z = some (.int k) := by
  obtain ⟨x, y, e1, e2, k1, -⟩ := cmp_v (Or.inl w)
  have e3 : y = .int k := (Option.some.inj (e2.symm.trans (Term.int_eval k)))
  subst e3
  have e4 : ∃ i, x = .int i := by
    have w' := w
    simp only [Cond.value, e1, e2] at w'
    cases x <;> simp at w' ⊢
  obtain ⟨i, rfl⟩ := e4
  rw [e1, gotT (Cond.eq_ints e1 e2) w]
set_option maxRecDepth 65536 in
set_option maxHeartbeats 40000000 in
theorem comes_1 {Post : Tables → Env → Array Value → State → Outcome → State → Prop} (hpost : ∀ tb e args s v u, (limb_1_1.after args s (.returned v) u = true ∧ limb_1_2.after args s (.returned v) u = true ∧ True) → ReturnedEndW s (.returned v) u (Jvm.fieldLocs frame_1_writes args s ++ Jvm.arrayLocs frame_1_arrays args s ++ Jvm.staticLocs frame_1_statics s) 32 1216 → Post tb e args s (.returned v) u) :
    ArmFor flags0 classFile x code maxLocals ret World_1 tables_1 room_1 Calls_1 rest_1 Pre_1 Post := by
  intro l hfl _ _ p e ha hc hk s m args below hf hA hF happ hP
  obtain ⟨hcalls, hrest, hpre⟩ := hP
  obtain ⟨-, -, -, hnamed, -, -, -, hat⟩ := (Spec.applies_iff hf).mp happ
  obtain ⟨hg, hn⟩ := and_e (Cond.before_iff.mp (show (Jvm.Cond.and given_1 narrow_1).before args s = true from hpre))
  obtain ⟨g1, g2⟩ := and_e hg
  obtain ⟨g3, g4⟩ := and_e g2
  obtain ⟨g5, g6⟩ := and_e g4
  obtain ⟨g7, g8⟩ := and_e g6
  obtain ⟨g9, g10⟩ := and_e g8
  obtain ⟨w0, w1, w2, w3, w4, rfl⟩ : ∃ w0 w1 w2 w3 w4 : Value, args = #[w0, w1, w2, w3, w4] := by
    have hs : args.size = 5 := by simpa [Cond.value, given_1] using g1
    obtain ⟨L⟩ := args
    match L, hs with
    | [w0, w1, w2, w3, w4], _ => exact ⟨w0, w1, w2, w3, w4, rfl⟩
  have hw := fun d (hd : d ∈ tables_1) => atoms_spec (ws := Jvm.Cond.code x code maxLocals ret :: tables_1) hat d (List.mem_cons_of_mem _ hd)
  have hfit : Fit s := fun {y c} hc i hi => by
    obtain ⟨ha, rfl⟩ := Array.getElem?_eq_some_iff.mp hc
    have q := List.all_eq_true.mp ((Array.all_eq_true_iff_forall_mem.mp hF) _ (Array.getElem_mem ha)) i (List.mem_range.mpr hi)
    simpa [Array.getElem?_eq_getElem hi] using q
  obtain ⟨hsets, hown0⟩ := atoms_of _ (rest_1_c_eq ▸ (show rest_1_c.before _ s = true from hrest))
  have hr0 := Cond.before_iff.mp hown0
  obtain ⟨i0, ei0⟩ := is_v g3
  obtain rfl : w0 = (.int i0) := Option.some.inj ei0
  obtain ⟨i1, ei1⟩ := is_v g5
  obtain rfl : w1 = (.int i1) := Option.some.inj ei1
  obtain ⟨i2, ei2⟩ := is_v g7
  obtain rfl : w2 = (.int i2) := Option.some.inj ei2
  obtain ⟨i3, ei3⟩ := is_v g9
  obtain rfl : w3 = (.int i3) := Option.some.inj ei3
  obtain ⟨i4, ei4⟩ := is_v g10
  obtain rfl : w4 = (.int i4) := Option.some.inj ei4
  obtain ⟨cs, ecs⟩ := is_v (Cond.before_iff.mp (hsets _ (List.mem_of_getElem? (i := 1) rfl)))
  have S_CS : Sta s s.heap "java/lang/String" "COMPACT_STRINGS" "Z" (.int cs) := Sta.start ecs (Or.inl (hsets _ (List.mem_of_getElem? (i := 0) rfl)))
  have hcs : ¬ (cs = (0 : Int32)) := gotF (Cond.eq_ints ecs (Term.int_eval (0))) (not_v (Cond.before_iff.mp (hsets _ (List.mem_of_getElem? (i := 2) rfl))))
  obtain ⟨sf, esf, hsf⟩ := isR_v (Cond.before_iff.mp (hsets _ (List.mem_of_getElem? (i := 8) rfl)))
  have S_SF : Sta s s.heap "jdk/internal/util/Preconditions" "SIOOBE_FORMATTER" "Ljava/util/function/BiFunction;" sf := Sta.start esf (Or.inl (hsets _ (List.mem_of_getElem? (i := 7) rfl)))
  have S_AD : Sta s s.heap "java/lang/StringUTF16" "$assertionsDisabled" "Z" (.int (1 : Int32)) := Sta.start (own_stat (Cond.before_iff.mp (hsets _ (List.mem_of_getElem? (i := 12) rfl)))) (Or.inl (hsets _ (List.mem_of_getElem? (i := 11) rfl)))
  have S_HI : Sta s s.heap "java/lang/StringUTF16" "HI_BYTE_SHIFT" "I" (.int (0 : Int32)) := Sta.start (own_stat (Cond.before_iff.mp (hsets _ (List.mem_of_getElem? (i := 15) rfl)))) (Or.inl (hsets _ (List.mem_of_getElem? (i := 14) rfl)))
  have S_LO : Sta s s.heap "java/lang/StringUTF16" "LO_BYTE_SHIFT" "I" (.int (8 : Int32)) := Sta.start (own_stat (Cond.before_iff.mp (hsets _ (List.mem_of_getElem? (i := 18) rfl)))) (Or.inl (hsets _ (List.mem_of_getElem? (i := 17) rfl)))
  have hEL : EW s _ own_EL := (EW.cons (wq hw 28 rfl) (by decide) EW.nil)
  have hCH : CHv s own_EL s.vm s.heap := CHv.start hEL (fun p hp => hcalls.1 p hp) (hsets _ (List.mem_of_getElem? (i := 2) rfl)) (wq hw 29 rfl) (wq hw 16 rfl)
  obtain ⟨n, o, h1, h2, h3, _, L, rfl, ⟨rfl, N⟩, -, hq⟩ := rm0 l s _ hw hEL tables_1 i0 i1 i2 i3 i4 cs sf s.heap s.heap.size (Nat.le_refl _) S_CS S_AD S_HI S_LO S_SF hcs hsf (Old.start s) p e ha hc hk s m _ below hf ((Spec.applies_iff_loose hf).mp happ).1 ⟨rfl, State.Warmed39.refl s, rfl, hCH, all0⟩ trivial
  refine ⟨n, _, h1, h2, h3, hpost _ _ _ _ _ _ ⟨Cond.after_iff.mpr rfl, Cond.after_iff.mpr (eq_i res_at (Term.int_eval (1)) rfl), trivial⟩ ⟨hq.1, hq.2.1, hq.2.2.1, (hq.2.2.2.sift fun y hy => Or.inr (N y hy)).mono (by decide) (by decide)⟩⟩
theorem main_1_1 : Claimed_1_1 := comes_1 fun _ _ _ _ _ _ h hF => ⟨h.1, hF⟩
theorem main_1_2 : Claimed_1_2 := comes_1 fun _ _ _ _ _ _ h hF => ⟨h.2.1, hF⟩
end Jvm.Pilot.@@N@@
namespace Jvm.Pilot.@@N@@
open Jvm Jvm.ClassFile Sem Op Lib Jvm.Free Jvm.Stand Jvm.Pilot.@@N@@.Jvm.D
/-! MADE BY PROGRAM (witnessworld.py) out of the Statement's table words and the real class files: 22 classes; the members and pool entries that the words name. The judged class is class 1, her method 1. -/
namespace start1
open Jvm.ClassFile
def u (s : String) : CpInfo := .utf8 (stringToUtf16 s)
/-- a pool by its gaps: so many unusable entries, then the entry; so many at the end -/
def gap : Nat → List CpInfo → List CpInfo
  | 0, r => r
  | n + 1, r => .unusable :: gap n r
def poolList (es : List (Nat × CpInfo)) (last : Nat) : List CpInfo := es.foldr (fun e r => gap e.1 (e.2 :: r)) (gap last [])
def pool (es : List (Nat × CpInfo)) (last : Nat) : Array CpInfo := ⟨poolList es last⟩
def fileOf (pool : Array CpInfo) (this : Nat) (attrs : Array Attribute := #[]) (ms : Array MethodInfo := #[]) (fl : Nat := 33) (sup : Nat := 0) (ifs : Array Nat := #[]) (fds : Array FieldInfo := #[]) : ClassFile where
  minorVersion := 0
  majorVersion := 65
  constantPool := pool
  accessFlags := fl
  thisClass := this
  superClass := sup
  interfaces := ifs
  fields := fds
  methods := ms
  attributes := attrs
def plain (name : String) (sup : Option ClassId) : Class where
  name := name
  kind := .ordinary
  loader := none
  accessFlags := 33
  super := sup
  interfaces := #[]
  cf := none
  fields := #[]
  methods := #[]
  instanceTypes := #[]
  staticTypes := #[]
  resolved := #[]
  callSites := []
  init := .initialized
  statics := none
  mirror := none

def pool0 : Array CpInfo := pool [(5, u "<init>"), (0, u "()V"), (1, .class_ 10), (1, u "java/lang/Object")] 113

def k0c0 : Code := { maxStack := 0, maxLocals := 1, code := object_method_1_code, exceptionTable := #[], attributes := #[] }
def k0m0 : Method := { name := "<init>", desc := "()V", sig := { parameters := [], returnType := none }, accessFlags := 1, code := some k0c0 }
/-- java/lang/Object -/
def k0 : Class := { plain "java/lang/Object" none with
  accessFlags := 33
  interfaces := #[]
  cf := some (fileOf pool0 8 #[] #[{ accessFlags := 1, nameIndex := 5, descriptorIndex := 6, attributes := #[] }] 33 0 #[] #[])
  fields := #[]
  methods := #[k0m0]
  instanceTypes := #[]
  staticTypes := #[]
  resolved := Array.replicate 124 none
  statics := none }

def pool1 : Array CpInfo := pool [(2, .class_ 4), (1, u "java/lang/Object"), (0, u "<init>"), (0, u "()V"), (0, .methodref 8 9), (0, .class_ 10), (0, .nameAndType 11 12), (0, u "com/example/bnodiff/bnodiff/model/CodePointOrderComparePinLaw"), (0, u "cp"), (0, u "(I)I"), (0, .methodref 8 14), (0, .nameAndType 15 16), (0, u "enc"), (0, u "(III)Ljava/lang/String;"), (0, .methodref 8 18), (0, .nameAndType 19 12), (0, u "sign"), (0, .methodref 21 22), (0, .class_ 23), (0, .nameAndType 24 25), (0, u "com/example/bnodiff/bnodiff/model/CodePointOrder"), (0, u "compare"), (0, u "(Ljava/lang/String;Ljava/lang/String;)I"), (0, .integer 57344), (0, .integer 55296), (0, .integer 65536), (0, .integer 1048576), (0, .integer 56320), (0, .methodref 8 32), (0, .nameAndType 33 34), (0, u "hi"), (0, u "(I)C"), (0, .methodref 8 36), (0, .nameAndType 37 34), (0, u "lo"), (0, .methodref 8 39), (0, .nameAndType 40 41), (0, u "take"), (0, u "([CI)Ljava/lang/String;"), (0, .class_ 43), (0, u "java/lang/String"), (0, .methodref 42 45), (0, .nameAndType 5 46), (0, u "([C)V"), (2, u "law"), (0, u "(IIIII)Z")] 5

def k1m0 : Method := { name := "<init>", desc := "()V", sig := { parameters := [], returnType := none }, accessFlags := 2, code := none }
def k1c1 : Code := { maxStack := 3, maxLocals := 14, code := code, exceptionTable := #[], attributes := #[] }
def k1m1 : Method := { name := "law", desc := "(IIIII)Z", sig := { parameters := [.int, .int, .int, .int, .int], returnType := some .boolean }, accessFlags := 9, code := some k1c1 }
def k1c2 : Code := { maxStack := 3, maxLocals := 3, code := method_3_code, exceptionTable := #[], attributes := #[] }
def k1m2 : Method := { name := "cp", desc := "(I)I", sig := { parameters := [.int], returnType := some .int }, accessFlags := 10, code := some k1c2 }
def k1c3 : Code := { maxStack := 3, maxLocals := 1, code := method_4_code, exceptionTable := #[], attributes := #[] }
def k1m3 : Method := { name := "hi", desc := "(I)C", sig := { parameters := [.int], returnType := some .char }, accessFlags := 10, code := some k1c3 }
def k1c4 : Code := { maxStack := 3, maxLocals := 1, code := method_5_code, exceptionTable := #[], attributes := #[] }
def k1m4 : Method := { name := "lo", desc := "(I)C", sig := { parameters := [.int], returnType := some .char }, accessFlags := 10, code := some k1c4 }
def k1c5 : Code := { maxStack := 3, maxLocals := 5, code := method_6_code, exceptionTable := #[], attributes := #[] }
def k1m5 : Method := { name := "enc", desc := "(III)Ljava/lang/String;", sig := { parameters := [.int, .int, .int], returnType := some (.object "java/lang/String") }, accessFlags := 10, code := some k1c5 }
def k1c6 : Code := { maxStack := 7, maxLocals := 2, code := method_7_code, exceptionTable := #[], attributes := #[] }
def k1m6 : Method := { name := "take", desc := "([CI)Ljava/lang/String;", sig := { parameters := [(.array .char), .int], returnType := some (.object "java/lang/String") }, accessFlags := 10, code := some k1c6 }
def k1c7 : Code := { maxStack := 1, maxLocals := 1, code := method_8_code, exceptionTable := #[], attributes := #[] }
def k1m7 : Method := { name := "sign", desc := "(I)I", sig := { parameters := [.int], returnType := some .int }, accessFlags := 10, code := some k1c7 }
/-- com/example/bnodiff/bnodiff/model/CodePointOrderComparePinLaw -/
def k1 : Class := { plain "com/example/bnodiff/bnodiff/model/CodePointOrderComparePinLaw" (some 0) with
  accessFlags := 49
  interfaces := #[]
  cf := some (fileOf pool1 8 #[] #[{ accessFlags := 2, nameIndex := 5, descriptorIndex := 6, attributes := #[] }, { accessFlags := 9, nameIndex := 49, descriptorIndex := 50, attributes := #[] }, { accessFlags := 10, nameIndex := 11, descriptorIndex := 12, attributes := #[] }, { accessFlags := 10, nameIndex := 33, descriptorIndex := 34, attributes := #[] }, { accessFlags := 10, nameIndex := 37, descriptorIndex := 34, attributes := #[] }, { accessFlags := 10, nameIndex := 15, descriptorIndex := 16, attributes := #[] }, { accessFlags := 10, nameIndex := 40, descriptorIndex := 41, attributes := #[] }, { accessFlags := 10, nameIndex := 19, descriptorIndex := 12, attributes := #[] }] 49 2 #[] #[])
  fields := #[]
  methods := #[k1m0, k1m1, k1m2, k1m3, k1m4, k1m5, k1m6, k1m7]
  instanceTypes := #[]
  staticTypes := #[]
  resolved := Array.replicate 56 none
  statics := none }

def pool2 : Array CpInfo := pool [(1, .class_ 2), (0, u "java/io/Serializable"), (0, .class_ 4), (0, u "java/lang/Object")] 2

/-- java/io/Serializable -/
def k2 : Class := { plain "java/io/Serializable" (some 0) with
  accessFlags := 1537
  interfaces := #[]
  cf := some (fileOf pool2 1 #[] #[] 1537 3 #[] #[])
  fields := #[]
  methods := #[]
  instanceTypes := #[]
  staticTypes := #[]
  resolved := Array.replicate 7 none
  statics := none }

def pool3 : Array CpInfo := pool [(1, .class_ 2), (0, u "java/lang/Comparable"), (0, .class_ 4), (0, u "java/lang/Object")] 7

/-- java/lang/Comparable -/
def k3 : Class := { plain "java/lang/Comparable" (some 0) with
  accessFlags := 1537
  interfaces := #[]
  cf := some (fileOf pool3 1 #[] #[] 1537 3 #[] #[])
  fields := #[]
  methods := #[]
  instanceTypes := #[]
  staticTypes := #[]
  resolved := Array.replicate 12 none
  statics := none }

def pool4 : Array CpInfo := pool [(2, .class_ 4), (1, u "java/lang/CharSequence"), (42, .class_ 48), (0, u "java/lang/CharSequence$1CodePointIterator"), (10, .class_ 60), (0, u "java/lang/CharSequence$1CharIterator"), (5, .class_ 67), (0, u "java/lang/Object")] 63

/-- java/lang/CharSequence -/
def k4 : Class := { plain "java/lang/CharSequence" (some 0) with
  accessFlags := 1537
  interfaces := #[]
  cf := some (fileOf pool4 2 #[.nestMembers #[47, 59]] #[] 1537 66 #[] #[])
  fields := #[]
  methods := #[]
  instanceTypes := #[]
  staticTypes := #[]
  resolved := Array.replicate 131 none
  statics := none }

def pool5 : Array CpInfo := pool [(1, .class_ 2), (0, u "java/lang/constant/Constable"), (0, .class_ 4), (0, u "java/lang/Object")] 6

/-- java/lang/constant/Constable -/
def k5 : Class := { plain "java/lang/constant/Constable" (some 0) with
  accessFlags := 1537
  interfaces := #[]
  cf := some (fileOf pool5 1 #[] #[] 1537 3 #[] #[])
  fields := #[]
  methods := #[]
  instanceTypes := #[]
  staticTypes := #[]
  resolved := Array.replicate 11 none
  statics := none }

def pool6 : Array CpInfo := pool [(1, .class_ 2), (0, u "java/lang/constant/ConstantDesc"), (0, .class_ 4), (0, u "java/lang/Object")] 32

/-- java/lang/constant/ConstantDesc -/
def k6 : Class := { plain "java/lang/constant/ConstantDesc" (some 0) with
  accessFlags := 1537
  interfaces := #[]
  cf := some (fileOf pool6 1 #[] #[] 1537 3 #[] #[])
  fields := #[]
  methods := #[]
  instanceTypes := #[]
  staticTypes := #[]
  resolved := Array.replicate 37 none
  statics := none }

def pool7 : Array CpInfo := pool [(1, .methodref 2 3), (0, .class_ 4), (0, .nameAndType 5 6), (0, u "java/lang/Object"), (0, u "<init>"), (0, u "()V"), (0, .string 8), (0, u ""), (0, .fieldref 10 11), (0, .class_ 12), (0, .nameAndType 13 14), (0, u "java/lang/String"), (0, u "value"), (0, u "[B"), (0, .fieldref 10 16), (0, .nameAndType 17 18), (0, u "coder"), (0, u "B"), (2, u "hash"), (0, u "I"), (2, u "hashIsZero"), (0, u "Z"), (0, .methodref 10 28), (0, .nameAndType 5 29), (0, u "([CIILjava/lang/Void;)V"), (8, .fieldref 10 39), (0, .nameAndType 40 26), (0, u "COMPACT_STRINGS"), (1, .class_ 44), (1, u "java/lang/StringUTF16"), (0, u "compress"), (1, .methodref 42 48), (0, .nameAndType 49 50), (0, u "coderFromArrayLen"), (0, u "([BI)B"), (56, .class_ 109), (1, u "java/lang/StringLatin1"), (32, u "()Z"), (34, .methodref 42 178), (0, .nameAndType 45 179), (0, u "([CII)[B"), (154, u "()I"), (0, .methodref 10 336), (0, .nameAndType 17 337), (0, u "()B"), (25, u "([BI)C"), (27, u "(II)V"), (35, u "(I)C"), (64, .methodref 10 493), (0, .nameAndType 494 142), (0, u "isLatin1"), (0, .methodref 107 496), (0, .nameAndType 497 363), (0, u "charAt"), (0, .methodref 42 496), (2, u "checkIndex"), (5, u "length"), (67, .class_ 576), (0, u "java/lang/CharSequence"), (22, u "CASE_INSENSITIVE_ORDER"), (0, u "Ljava/util/Comparator;"), (409, u "([C)V"), (42, .fieldref 1054 1055), (0, .class_ 1056), (0, .nameAndType 1057 1058), (0, u "jdk/internal/util/Preconditions"), (0, u "SIOOBE_FORMATTER"), (0, u "Ljava/util/function/BiFunction;"), (0, .methodref 1054 1060), (0, .nameAndType 501 1061), (0, u "(IILjava/util/function/BiFunction;)I"), (39, u "serialPersistentFields"), (0, u "[Ljava/io/ObjectStreamField;"), (0, .class_ 1104), (0, u "java/lang/String$CaseInsensitiveComparator"), (1, .class_ 1107), (0, u "java/io/Serializable"), (0, .class_ 1109), (0, u "java/lang/Comparable"), (0, .class_ 1111), (0, u "java/lang/constant/Constable"), (0, .class_ 1113), (0, u "java/lang/constant/ConstantDesc"), (2, u "serialVersionUID"), (0, u "J"), (3, u "REPL"), (0, u "C"), (2, u "LATIN1"), (1, u "UTF16")] 323

def k7m0 : Method := { name := "<init>", desc := "()V", sig := { parameters := [], returnType := none }, accessFlags := 1, code := none }
def k7c1 : Code := { maxStack := 5, maxLocals := 2, code := jdk_42_method_3_code, exceptionTable := #[], attributes := #[] }
def k7m1 : Method := { name := "<init>", desc := "([C)V", sig := { parameters := [(.array .char)], returnType := none }, accessFlags := 1, code := some k7c1 }
def k7c2 : Code := { maxStack := 2, maxLocals := 1, code := jdk_42_method_54_code, exceptionTable := #[], attributes := #[] }
def k7m2 : Method := { name := "length", desc := "()I", sig := { parameters := [], returnType := some .int }, accessFlags := 1, code := some k7c2 }
def k7c3 : Code := { maxStack := 2, maxLocals := 2, code := jdk_42_method_56_code, exceptionTable := #[], attributes := #[] }
def k7m3 : Method := { name := "charAt", desc := "(I)C", sig := { parameters := [.int], returnType := some .char }, accessFlags := 1, code := some k7c3 }
def k7c4 : Code := { maxStack := 4, maxLocals := 6, code := jdk_42_method_149_code, exceptionTable := #[], attributes := #[] }
def k7m4 : Method := { name := "<init>", desc := "([CIILjava/lang/Void;)V", sig := { parameters := [(.array .char), .int, .int, (.object "java/lang/Void")], returnType := none }, accessFlags := 2, code := some k7c4 }
def k7c5 : Code := { maxStack := 1, maxLocals := 1, code := jdk_42_method_152_code, exceptionTable := #[], attributes := #[] }
def k7m5 : Method := { name := "coder", desc := "()B", sig := { parameters := [], returnType := some .byte }, accessFlags := 0, code := some k7c5 }
def k7c6 : Code := { maxStack := 1, maxLocals := 1, code := jdk_42_method_154_code, exceptionTable := #[], attributes := #[] }
def k7m6 : Method := { name := "isLatin1", desc := "()Z", sig := { parameters := [], returnType := some .boolean }, accessFlags := 0, code := some k7c6 }
def k7c7 : Code := { maxStack := 3, maxLocals := 2, code := jdk_42_method_155_code, exceptionTable := #[], attributes := #[] }
def k7m7 : Method := { name := "checkIndex", desc := "(II)V", sig := { parameters := [.int, .int], returnType := none }, accessFlags := 8, code := some k7c7 }
/-- java/lang/String -/
def k7 : Class := { plain "java/lang/String" (some 0) with
  accessFlags := 49
  interfaces := #[2, 3, 4, 5, 6]
  cf := some (fileOf pool7 10 #[.nestMembers #[1103]] #[{ accessFlags := 1, nameIndex := 5, descriptorIndex := 6, attributes := #[] }, { accessFlags := 1, nameIndex := 5, descriptorIndex := 1010, attributes := #[] }, { accessFlags := 1, nameIndex := 507, descriptorIndex := 334, attributes := #[] }, { accessFlags := 1, nameIndex := 497, descriptorIndex := 427, attributes := #[] }, { accessFlags := 2, nameIndex := 5, descriptorIndex := 29, attributes := #[] }, { accessFlags := 0, nameIndex := 17, descriptorIndex := 337, attributes := #[] }, { accessFlags := 0, nameIndex := 494, descriptorIndex := 142, attributes := #[] }, { accessFlags := 8, nameIndex := 501, descriptorIndex := 391, attributes := #[] }] 49 2 #[1106, 1108, 575, 1110, 1112] #[{ accessFlags := 18, nameIndex := 13, descriptorIndex := 14, attributes := #[] }, { accessFlags := 18, nameIndex := 17, descriptorIndex := 18, attributes := #[] }, { accessFlags := 2, nameIndex := 21, descriptorIndex := 22, attributes := #[] }, { accessFlags := 2, nameIndex := 25, descriptorIndex := 26, attributes := #[] }, { accessFlags := 26, nameIndex := 1116, descriptorIndex := 1117, attributes := #[] }, { accessFlags := 24, nameIndex := 40, descriptorIndex := 26, attributes := #[] }, { accessFlags := 26, nameIndex := 1101, descriptorIndex := 1102, attributes := #[] }, { accessFlags := 26, nameIndex := 1121, descriptorIndex := 1122, attributes := #[] }, { accessFlags := 25, nameIndex := 599, descriptorIndex := 600, attributes := #[] }, { accessFlags := 24, nameIndex := 1125, descriptorIndex := 18, attributes := #[] }, { accessFlags := 24, nameIndex := 1127, descriptorIndex := 18, attributes := #[] }])
  fields := #[{ name := "value", type := (.array .byte), accessFlags := 18, slot := 0, constantValue := 0 }, { name := "coder", type := .byte, accessFlags := 18, slot := 1, constantValue := 0 }, { name := "hash", type := .int, accessFlags := 2, slot := 2, constantValue := 0 }, { name := "hashIsZero", type := .boolean, accessFlags := 2, slot := 3, constantValue := 0 }, { name := "serialVersionUID", type := .long, accessFlags := 26, slot := 0, constantValue := 0 }, { name := "COMPACT_STRINGS", type := .boolean, accessFlags := 24, slot := 1, constantValue := 0 }, { name := "serialPersistentFields", type := (.array (.object "java/io/ObjectStreamField")), accessFlags := 26, slot := 2, constantValue := 0 }, { name := "REPL", type := .char, accessFlags := 26, slot := 3, constantValue := 0 }, { name := "CASE_INSENSITIVE_ORDER", type := (.object "java/util/Comparator"), accessFlags := 25, slot := 4, constantValue := 0 }, { name := "LATIN1", type := .byte, accessFlags := 24, slot := 5, constantValue := 0 }, { name := "UTF16", type := .byte, accessFlags := 24, slot := 6, constantValue := 0 }]
  methods := #[k7m0, k7m1, k7m2, k7m3, k7m4, k7m5, k7m6, k7m7]
  instanceTypes := #[(.array .byte), .byte, .int, .boolean]
  staticTypes := #[.long, .boolean, (.array (.object "java/io/ObjectStreamField")), .char, (.object "java/util/Comparator"), .byte, .byte]
  resolved := Array.replicate 1451 none
  statics := some 0 }

def pool8 : Array CpInfo := pool [(2, .class_ 4), (1, u "java/lang/Object"), (0, u "<init>"), (0, u "()V"), (0, .methodref 8 9), (0, .class_ 10), (0, .nameAndType 11 12), (0, u "java/lang/String"), (0, u "length"), (0, u "()I"), (0, .methodref 14 15), (0, .class_ 16), (0, .nameAndType 17 18), (0, u "java/lang/Math"), (0, u "min"), (0, u "(II)I"), (0, .methodref 8 20), (0, .nameAndType 21 22), (0, u "charAt"), (0, u "(I)C"), (0, .methodref 24 25), (0, .class_ 26), (0, .nameAndType 27 28), (0, u "com/example/bnodiff/bnodiff/model/CodePointOrder"), (0, u "rank"), (0, u "(C)I"), (0, .methodref 30 31), (0, .class_ 32), (0, .nameAndType 33 34), (0, u "java/lang/Character"), (0, u "isSurrogate"), (0, u "(C)Z"), (0, .integer 65536), (2, u "compare"), (3, u "COMPARATOR"), (0, u "Ljava/util/Comparator;"), (4, u "(Ljava/lang/String;Ljava/lang/String;)I")] 24

def k8m0 : Method := { name := "<init>", desc := "()V", sig := { parameters := [], returnType := none }, accessFlags := 2, code := none }
def k8c1 : Code := { maxStack := 2, maxLocals := 6, code := prog_43_method_2_code, exceptionTable := #[], attributes := #[] }
def k8m1 : Method := { name := "compare", desc := "(Ljava/lang/String;Ljava/lang/String;)I", sig := { parameters := [(.object "java/lang/String"), (.object "java/lang/String")], returnType := some .int }, accessFlags := 9, code := some k8c1 }
def k8c2 : Code := { maxStack := 2, maxLocals := 1, code := prog_43_method_3_code, exceptionTable := #[], attributes := #[] }
def k8m2 : Method := { name := "rank", desc := "(C)I", sig := { parameters := [.char], returnType := some .int }, accessFlags := 10, code := some k8c2 }
/-- com/example/bnodiff/bnodiff/model/CodePointOrder -/
def k8 : Class := { plain "com/example/bnodiff/bnodiff/model/CodePointOrder" (some 0) with
  accessFlags := 49
  interfaces := #[]
  cf := some (fileOf pool8 24 #[] #[{ accessFlags := 2, nameIndex := 5, descriptorIndex := 6, attributes := #[] }, { accessFlags := 9, nameIndex := 38, descriptorIndex := 48, attributes := #[] }, { accessFlags := 10, nameIndex := 27, descriptorIndex := 28, attributes := #[] }] 49 2 #[] #[{ accessFlags := 25, nameIndex := 42, descriptorIndex := 43, attributes := #[] }])
  fields := #[{ name := "COMPARATOR", type := (.object "java/util/Comparator"), accessFlags := 25, slot := 0, constantValue := 0 }]
  methods := #[k8m0, k8m1, k8m2]
  instanceTypes := #[]
  staticTypes := #[(.object "java/util/Comparator")]
  resolved := Array.replicate 73 none
  statics := none }

def pool9 : Array CpInfo := pool [(1, .class_ 2), (0, u "java/lang/Math"), (1, .class_ 6), (1, u "java/lang/Object"), (0, u "<init>"), (0, u "()V"), (89, .class_ 100), (1, u "java/lang/Math$RandomNumberGeneratorHolder"), (71, u "negativeZeroFloatBits"), (0, u "J"), (2, u "negativeZeroDoubleBits"), (24, u "min"), (43, u "$assertionsDisabled"), (0, u "Z"), (88, u "(II)I"), (2, u "twoToTheDoubleScaleDown"), (0, u "D"), (4, u "twoToTheDoubleScaleUp"), (9, u "E"), (3, u "PI"), (2, u "TAU"), (2, u "DEGREES_TO_RADIANS"), (0, u "RADIANS_TO_DEGREES")] 94

def k9m0 : Method := { name := "<init>", desc := "()V", sig := { parameters := [], returnType := none }, accessFlags := 2, code := none }
def k9c1 : Code := { maxStack := 2, maxLocals := 2, code := jdk_29_method_69_code, exceptionTable := #[], attributes := #[] }
def k9m1 : Method := { name := "min", desc := "(II)I", sig := { parameters := [.int, .int], returnType := some .int }, accessFlags := 9, code := some k9c1 }
/-- java/lang/Math -/
def k9 : Class := { plain "java/lang/Math" (some 0) with
  accessFlags := 49
  interfaces := #[]
  cf := some (fileOf pool9 1 #[.nestMembers #[98]] #[{ accessFlags := 2, nameIndex := 7, descriptorIndex := 8, attributes := #[] }, { accessFlags := 9, nameIndex := 201, descriptorIndex := 335, attributes := #[] }] 49 4 #[] #[{ accessFlags := 25, nameIndex := 354, descriptorIndex := 339, attributes := #[] }, { accessFlags := 25, nameIndex := 358, descriptorIndex := 339, attributes := #[] }, { accessFlags := 25, nameIndex := 361, descriptorIndex := 339, attributes := #[] }, { accessFlags := 26, nameIndex := 364, descriptorIndex := 339, attributes := #[] }, { accessFlags := 26, nameIndex := 365, descriptorIndex := 339, attributes := #[] }, { accessFlags := 26, nameIndex := 172, descriptorIndex := 173, attributes := #[] }, { accessFlags := 26, nameIndex := 176, descriptorIndex := 173, attributes := #[] }, { accessFlags := 8, nameIndex := 344, descriptorIndex := 339, attributes := #[] }, { accessFlags := 8, nameIndex := 338, descriptorIndex := 339, attributes := #[] }, { accessFlags := 4120, nameIndex := 245, descriptorIndex := 246, attributes := #[] }])
  fields := #[{ name := "E", type := .double, accessFlags := 25, slot := 0, constantValue := 0 }, { name := "PI", type := .double, accessFlags := 25, slot := 1, constantValue := 0 }, { name := "TAU", type := .double, accessFlags := 25, slot := 2, constantValue := 0 }, { name := "DEGREES_TO_RADIANS", type := .double, accessFlags := 26, slot := 3, constantValue := 0 }, { name := "RADIANS_TO_DEGREES", type := .double, accessFlags := 26, slot := 4, constantValue := 0 }, { name := "negativeZeroFloatBits", type := .long, accessFlags := 26, slot := 5, constantValue := 0 }, { name := "negativeZeroDoubleBits", type := .long, accessFlags := 26, slot := 6, constantValue := 0 }, { name := "twoToTheDoubleScaleUp", type := .double, accessFlags := 8, slot := 7, constantValue := 0 }, { name := "twoToTheDoubleScaleDown", type := .double, accessFlags := 8, slot := 8, constantValue := 0 }, { name := "$assertionsDisabled", type := .boolean, accessFlags := 4120, slot := 9, constantValue := 0 }]
  methods := #[k9m0, k9m1]
  instanceTypes := #[]
  staticTypes := #[.double, .double, .double, .double, .double, .long, .long, .double, .double, .boolean]
  resolved := Array.replicate 460 none
  statics := none }

def pool10 : Array CpInfo := pool [(3, .class_ 4), (0, u "java/lang/String"), (1, .class_ 8), (1, u "java/lang/Object"), (0, u "<init>"), (0, u "()V"), (0, .methodref 12 13), (0, .class_ 14), (0, .nameAndType 15 16), (0, u "java/lang/StringUTF16"), (0, u "newBytesLength"), (0, u "(I)I"), (3, .integer 1073741823), (23, .fieldref 12 45), (0, .nameAndType 46 47), (0, u "$assertionsDisabled"), (0, u "Z"), (0, .methodref 12 49), (0, .nameAndType 50 51), (0, u "length"), (0, u "([B)I"), (7, .fieldref 12 60), (0, .nameAndType 61 62), (0, u "HI_BYTE_SHIFT"), (0, u "I"), (0, .fieldref 12 64), (0, .nameAndType 65 62), (0, u "LO_BYTE_SHIFT"), (1, .methodref 12 68), (0, .nameAndType 69 70), (0, u "checkIndex"), (0, u "(I[B)V"), (0, .methodref 12 72), (0, .nameAndType 73 74), (0, u "getChar"), (0, u "([BI)C"), (32, .methodref 12 108), (0, .nameAndType 109 110), (0, u "newBytesFor"), (0, u "(I)[B"), (0, .methodref 12 112), (0, .nameAndType 113 114), (0, u "putChar"), (0, u "([BII)V"), (0, .methodref 12 116), (0, .nameAndType 117 118), (0, u "compress"), (0, u "([CI[BII)I"), (0, .methodref 12 120), (0, .nameAndType 121 122), (0, u "toBytes"), (0, u "([CII)[B"), (138, u "coderFromArrayLen"), (0, u "([BI)B"), (106, .class_ 371), (1, u "java/lang/StringUTF16$LinesSpliterator"), (20, u "charAt"), (21, .methodref 3 415), (0, .nameAndType 69 416), (0, u "(II)V"), (13, u "MAX_LENGTH"), (196, .class_ 628), (0, u "java/lang/StringUTF16$CodePointsSpliterator"), (0, .class_ 630), (0, u "java/lang/StringUTF16$CharsSpliterator")] 4

def k10m0 : Method := { name := "<init>", desc := "()V", sig := { parameters := [], returnType := none }, accessFlags := 0, code := none }
def k10c1 : Code := { maxStack := 1, maxLocals := 1, code := jdk_52_method_2_code, exceptionTable := #[], attributes := #[] }
def k10m1 : Method := { name := "newBytesFor", desc := "(I)[B", sig := { parameters := [.int], returnType := some (.array .byte) }, accessFlags := 9, code := some k10c1 }
def k10c2 : Code := { maxStack := 4, maxLocals := 1, code := jdk_52_method_3_code, exceptionTable := #[], attributes := #[] }
def k10m2 : Method := { name := "newBytesLength", desc := "(I)I", sig := { parameters := [.int], returnType := some .int }, accessFlags := 9, code := some k10c2 }
def k10c3 : Code := { maxStack := 4, maxLocals := 3, code := jdk_52_method_4_code, exceptionTable := #[], attributes := #[] }
def k10m3 : Method := { name := "putChar", desc := "([BII)V", sig := { parameters := [(.array .byte), .int, .int], returnType := none }, accessFlags := 8, code := some k10c3 }
def k10c4 : Code := { maxStack := 3, maxLocals := 2, code := jdk_52_method_5_code, exceptionTable := #[], attributes := #[] }
def k10m4 : Method := { name := "getChar", desc := "([BI)C", sig := { parameters := [(.array .byte), .int], returnType := some .char }, accessFlags := 8, code := some k10c4 }
def k10c5 : Code := { maxStack := 2, maxLocals := 1, code := jdk_52_method_6_code, exceptionTable := #[], attributes := #[] }
def k10m5 : Method := { name := "length", desc := "([B)I", sig := { parameters := [(.array .byte)], returnType := some .int }, accessFlags := 9, code := some k10c5 }
def k10c6 : Code := { maxStack := 4, maxLocals := 5, code := jdk_52_method_14_code, exceptionTable := #[], attributes := #[] }
def k10m6 : Method := { name := "toBytes", desc := "([CII)[B", sig := { parameters := [(.array .char), .int, .int], returnType := some (.array .byte) }, accessFlags := 9, code := some k10c6 }
def k10c7 : Code := { maxStack := 2, maxLocals := 2, code := jdk_52_method_15_code, exceptionTable := #[], attributes := #[] }
def k10m7 : Method := { name := "coderFromArrayLen", desc := "([BI)B", sig := { parameters := [(.array .byte), .int], returnType := some .byte }, accessFlags := 8, code := some k10c7 }
def k10c8 : Code := { maxStack := 5, maxLocals := 6, code := jdk_52_method_16_code, exceptionTable := #[], attributes := #[] }
def k10m8 : Method := { name := "compress", desc := "([CII)[B", sig := { parameters := [(.array .char), .int, .int], returnType := some (.array .byte) }, accessFlags := 9, code := some k10c8 }
def k10c9 : Code := { maxStack := 3, maxLocals := 7, code := jdk_52_method_21_code, exceptionTable := #[], attributes := #[] }
def k10m9 : Method := { name := "compress", desc := "([CI[BII)I", sig := { parameters := [(.array .char), .int, (.array .byte), .int, .int], returnType := some .int }, accessFlags := 9, code := some k10c9 }
def k10c10 : Code := { maxStack := 2, maxLocals := 2, code := jdk_52_method_83_code, exceptionTable := #[], attributes := #[] }
def k10m10 : Method := { name := "charAt", desc := "([BI)C", sig := { parameters := [(.array .byte), .int], returnType := some .char }, accessFlags := 9, code := some k10c10 }
def k10c11 : Code := { maxStack := 2, maxLocals := 2, code := jdk_52_method_91_code, exceptionTable := #[], attributes := #[] }
def k10m11 : Method := { name := "checkIndex", desc := "(I[B)V", sig := { parameters := [.int, (.array .byte)], returnType := none }, accessFlags := 9, code := some k10c11 }
/-- java/lang/StringUTF16 -/
def k10 : Class := { plain "java/lang/StringUTF16" (some 0) with
  accessFlags := 48
  interfaces := #[]
  cf := some (fileOf pool10 12 #[.nestMembers #[627, 629, 369]] #[{ accessFlags := 0, nameIndex := 9, descriptorIndex := 10, attributes := #[] }, { accessFlags := 9, nameIndex := 109, descriptorIndex := 110, attributes := #[] }, { accessFlags := 9, nameIndex := 15, descriptorIndex := 16, attributes := #[] }, { accessFlags := 8, nameIndex := 113, descriptorIndex := 114, attributes := #[] }, { accessFlags := 8, nameIndex := 73, descriptorIndex := 74, attributes := #[] }, { accessFlags := 9, nameIndex := 50, descriptorIndex := 51, attributes := #[] }, { accessFlags := 9, nameIndex := 121, descriptorIndex := 122, attributes := #[] }, { accessFlags := 8, nameIndex := 261, descriptorIndex := 262, attributes := #[] }, { accessFlags := 9, nameIndex := 117, descriptorIndex := 122, attributes := #[] }, { accessFlags := 9, nameIndex := 117, descriptorIndex := 118, attributes := #[] }, { accessFlags := 9, nameIndex := 392, descriptorIndex := 74, attributes := #[] }, { accessFlags := 9, nameIndex := 69, descriptorIndex := 70, attributes := #[] }] 48 6 #[] #[{ accessFlags := 26, nameIndex := 61, descriptorIndex := 62, attributes := #[] }, { accessFlags := 26, nameIndex := 65, descriptorIndex := 62, attributes := #[] }, { accessFlags := 24, nameIndex := 430, descriptorIndex := 62, attributes := #[] }, { accessFlags := 4120, nameIndex := 46, descriptorIndex := 47, attributes := #[] }])
  fields := #[{ name := "HI_BYTE_SHIFT", type := .int, accessFlags := 26, slot := 0, constantValue := 0 }, { name := "LO_BYTE_SHIFT", type := .int, accessFlags := 26, slot := 1, constantValue := 0 }, { name := "MAX_LENGTH", type := .int, accessFlags := 24, slot := 2, constantValue := 0 }, { name := "$assertionsDisabled", type := .boolean, accessFlags := 4120, slot := 3, constantValue := 0 }]
  methods := #[k10m0, k10m1, k10m2, k10m3, k10m4, k10m5, k10m6, k10m7, k10m8, k10m9, k10m10, k10m11]
  instanceTypes := #[]
  staticTypes := #[.int, .int, .int, .boolean]
  resolved := Array.replicate 635 none
  statics := some 1 }

def pool11 : Array CpInfo := pool [(1, .class_ 2), (0, u "java/lang/String"), (1, .class_ 6), (1, u "java/lang/Object"), (0, u "<init>"), (0, u "()V"), (0, .methodref 1 10), (0, .nameAndType 11 12), (0, u "checkIndex"), (0, u "(II)V"), (1, .class_ 16), (1, u "java/lang/StringLatin1"), (36, u "([BI)C"), (67, u "$assertionsDisabled"), (0, u "Z"), (98, .class_ 223), (1, u "java/lang/StringLatin1$LinesSpliterator"), (28, u "charAt"), (137, .class_ 391), (0, u "java/lang/StringLatin1$CharsSpliterator")] 3

def k11m0 : Method := { name := "<init>", desc := "()V", sig := { parameters := [], returnType := none }, accessFlags := 0, code := none }
def k11c1 : Code := { maxStack := 2, maxLocals := 2, code := jdk_43_method_2_code, exceptionTable := #[], attributes := #[] }
def k11m1 : Method := { name := "charAt", desc := "([BI)C", sig := { parameters := [(.array .byte), .int], returnType := some .char }, accessFlags := 9, code := some k11c1 }
/-- java/lang/StringLatin1 -/
def k11 : Class := { plain "java/lang/StringLatin1" (some 0) with
  accessFlags := 48
  interfaces := #[]
  cf := some (fileOf pool11 14 #[.nestMembers #[390, 221]] #[{ accessFlags := 0, nameIndex := 7, descriptorIndex := 8, attributes := #[] }, { accessFlags := 9, nameIndex := 252, descriptorIndex := 53, attributes := #[] }] 48 4 #[] #[{ accessFlags := 4120, nameIndex := 121, descriptorIndex := 122, attributes := #[] }])
  fields := #[{ name := "$assertionsDisabled", type := .boolean, accessFlags := 4120, slot := 0, constantValue := 0 }]
  methods := #[k11m0, k11m1]
  instanceTypes := #[]
  staticTypes := #[.boolean]
  resolved := Array.replicate 395 none
  statics := none }

def pool12 : Array CpInfo := pool [(2, .class_ 4), (1, u "java/lang/Object"), (0, u "<init>"), (0, u "()V"), (17, .class_ 26), (1, u "jdk/internal/util/Preconditions"), (6, u "checkIndex"), (21, .class_ 56), (0, u "jdk/internal/util/Preconditions$4"), (57, .class_ 115), (0, u "jdk/internal/util/Preconditions$1"), (7, u "SIOOBE_FORMATTER"), (0, u "Ljava/util/function/BiFunction;"), (0, .class_ 126), (0, u "jdk/internal/util/Preconditions$2"), (3, u "AIOOBE_FORMATTER"), (0, .class_ 132), (0, u "jdk/internal/util/Preconditions$3"), (3, u "IOOBE_FORMATTER"), (41, u "(IILjava/util/function/BiFunction;)I")] 15

def k12m0 : Method := { name := "<init>", desc := "()V", sig := { parameters := [], returnType := none }, accessFlags := 1, code := none }
def k12c1 : Code := { maxStack := 3, maxLocals := 3, code := jdk_41_method_11_code, exceptionTable := #[], attributes := #[] }
def k12m1 : Method := { name := "checkIndex", desc := "(IILjava/util/function/BiFunction;)I", sig := { parameters := [.int, .int, (.object "java/util/function/BiFunction")], returnType := some .int }, accessFlags := 9, code := some k12c1 }
/-- jdk/internal/util/Preconditions -/
def k12 : Class := { plain "jdk/internal/util/Preconditions" (some 0) with
  accessFlags := 33
  interfaces := #[]
  cf := some (fileOf pool12 24 #[.nestMembers #[55, 131, 125, 114]] #[{ accessFlags := 1, nameIndex := 5, descriptorIndex := 6, attributes := #[] }, { accessFlags := 9, nameIndex := 33, descriptorIndex := 178, attributes := #[] }] 33 2 #[] #[{ accessFlags := 25, nameIndex := 123, descriptorIndex := 124, attributes := #[] }, { accessFlags := 25, nameIndex := 130, descriptorIndex := 124, attributes := #[] }, { accessFlags := 25, nameIndex := 136, descriptorIndex := 124, attributes := #[] }])
  fields := #[{ name := "SIOOBE_FORMATTER", type := (.object "java/util/function/BiFunction"), accessFlags := 25, slot := 0, constantValue := 0 }, { name := "AIOOBE_FORMATTER", type := (.object "java/util/function/BiFunction"), accessFlags := 25, slot := 1, constantValue := 0 }, { name := "IOOBE_FORMATTER", type := (.object "java/util/function/BiFunction"), accessFlags := 25, slot := 2, constantValue := 0 }]
  methods := #[k12m0, k12m1]
  instanceTypes := #[]
  staticTypes := #[(.object "java/util/function/BiFunction"), (.object "java/util/function/BiFunction"), (.object "java/util/function/BiFunction")]
  resolved := Array.replicate 194 none
  statics := some 2 }

def pool13 : Array CpInfo := pool [(1, .class_ 2), (0, u "java/lang/Character"), (18, u "value"), (0, u "C"), (19, .class_ 44), (1, u "java/lang/Object"), (3, .class_ 50), (1, u "java/lang/Character$CharacterCache"), (24, .integer 55296), (1, .integer 57344), (3, u "(C)Z"), (202, u "$assertionsDisabled"), (0, u "Z"), (21, .class_ 309), (1, u "java/lang/Character$UnicodeBlock"), (73, u "TYPE"), (0, u "Ljava/lang/Class;"), (0, .class_ 386), (0, u "java/io/Serializable"), (0, .class_ 388), (0, u "java/lang/Comparable"), (0, .class_ 390), (0, u "java/lang/constant/Constable"), (0, u "MIN_RADIX"), (0, u "I"), (2, u "MAX_RADIX"), (1, u "MIN_VALUE"), (1, u "MAX_VALUE"), (3, u "UNASSIGNED"), (0, u "B"), (0, u "UPPERCASE_LETTER"), (1, u "LOWERCASE_LETTER"), (0, u "TITLECASE_LETTER"), (1, u "MODIFIER_LETTER"), (1, u "OTHER_LETTER"), (1, u "NON_SPACING_MARK"), (1, u "ENCLOSING_MARK"), (1, u "COMBINING_SPACING_MARK"), (1, u "DECIMAL_DIGIT_NUMBER"), (1, u "LETTER_NUMBER"), (1, u "OTHER_NUMBER"), (1, u "SPACE_SEPARATOR"), (1, u "LINE_SEPARATOR"), (1, u "PARAGRAPH_SEPARATOR"), (1, u "CONTROL"), (1, u "FORMAT"), (1, u "PRIVATE_USE"), (1, u "SURROGATE"), (1, u "DASH_PUNCTUATION"), (1, u "START_PUNCTUATION"), (1, u "END_PUNCTUATION"), (1, u "CONNECTOR_PUNCTUATION"), (1, u "OTHER_PUNCTUATION"), (1, u "MATH_SYMBOL"), (1, u "CURRENCY_SYMBOL"), (1, u "MODIFIER_SYMBOL"), (1, u "OTHER_SYMBOL"), (1, u "INITIAL_QUOTE_PUNCTUATION"), (1, u "FINAL_QUOTE_PUNCTUATION"), (1, u "ERROR"), (1, u "DIRECTIONALITY_UNDEFINED"), (0, u "DIRECTIONALITY_LEFT_TO_RIGHT"), (0, u "DIRECTIONALITY_RIGHT_TO_LEFT"), (0, u "DIRECTIONALITY_RIGHT_TO_LEFT_ARABIC"), (0, u "DIRECTIONALITY_EUROPEAN_NUMBER"), (0, u "DIRECTIONALITY_EUROPEAN_NUMBER_SEPARATOR"), (0, u "DIRECTIONALITY_EUROPEAN_NUMBER_TERMINATOR"), (0, u "DIRECTIONALITY_ARABIC_NUMBER"), (0, u "DIRECTIONALITY_COMMON_NUMBER_SEPARATOR"), (0, u "DIRECTIONALITY_NONSPACING_MARK"), (0, u "DIRECTIONALITY_BOUNDARY_NEUTRAL"), (0, u "DIRECTIONALITY_PARAGRAPH_SEPARATOR"), (0, u "DIRECTIONALITY_SEGMENT_SEPARATOR"), (0, u "DIRECTIONALITY_WHITESPACE"), (0, u "DIRECTIONALITY_OTHER_NEUTRALS"), (0, u "DIRECTIONALITY_LEFT_TO_RIGHT_EMBEDDING"), (0, u "DIRECTIONALITY_LEFT_TO_RIGHT_OVERRIDE"), (0, u "DIRECTIONALITY_RIGHT_TO_LEFT_EMBEDDING"), (0, u "DIRECTIONALITY_RIGHT_TO_LEFT_OVERRIDE"), (1, u "DIRECTIONALITY_POP_DIRECTIONAL_FORMAT"), (0, u "DIRECTIONALITY_LEFT_TO_RIGHT_ISOLATE"), (0, u "DIRECTIONALITY_RIGHT_TO_LEFT_ISOLATE"), (0, u "DIRECTIONALITY_FIRST_STRONG_ISOLATE"), (0, u "DIRECTIONALITY_POP_DIRECTIONAL_ISOLATE"), (0, u "MIN_HIGH_SURROGATE"), (0, u "MAX_HIGH_SURROGATE"), (1, u "MIN_LOW_SURROGATE"), (0, u "MAX_LOW_SURROGATE"), (1, u "MIN_SURROGATE"), (0, u "MAX_SURROGATE"), (0, u "MIN_SUPPLEMENTARY_CODE_POINT"), (0, u "MIN_CODE_POINT"), (0, u "MAX_CODE_POINT"), (1, u "serialVersionUID"), (0, u "J"), (2, u "SIZE"), (0, u "BYTES"), (24, u "isSurrogate"), (63, .class_ 596), (0, u "java/lang/Character$UnicodeScript"), (0, .class_ 598), (0, u "java/lang/Character$Subset")] 5

def k13c0 : Code := { maxStack := 2, maxLocals := 1, code := jdk_89_method_16_code, exceptionTable := #[], attributes := #[] }
def k13m0 : Method := { name := "isSurrogate", desc := "(C)Z", sig := { parameters := [.char], returnType := some .boolean }, accessFlags := 9, code := some k13c0 }
/-- java/lang/Character -/
def k13 : Class := { plain "java/lang/Character" (some 0) with
  accessFlags := 49
  interfaces := #[2, 3, 5]
  cf := some (fileOf pool13 1 #[.nestMembers #[48, 595, 307, 597]] #[{ accessFlags := 9, nameIndex := 531, descriptorIndex := 81, attributes := #[] }] 49 42 #[385, 387, 389] #[{ accessFlags := 25, nameIndex := 391, descriptorIndex := 392, attributes := #[] }, { accessFlags := 25, nameIndex := 395, descriptorIndex := 392, attributes := #[] }, { accessFlags := 25, nameIndex := 397, descriptorIndex := 22, attributes := #[] }, { accessFlags := 25, nameIndex := 399, descriptorIndex := 22, attributes := #[] }, { accessFlags := 25, nameIndex := 383, descriptorIndex := 384, attributes := #[] }, { accessFlags := 25, nameIndex := 403, descriptorIndex := 404, attributes := #[] }, { accessFlags := 25, nameIndex := 405, descriptorIndex := 404, attributes := #[] }, { accessFlags := 25, nameIndex := 407, descriptorIndex := 404, attributes := #[] }, { accessFlags := 25, nameIndex := 408, descriptorIndex := 404, attributes := #[] }, { accessFlags := 25, nameIndex := 410, descriptorIndex := 404, attributes := #[] }, { accessFlags := 25, nameIndex := 412, descriptorIndex := 404, attributes := #[] }, { accessFlags := 25, nameIndex := 414, descriptorIndex := 404, attributes := #[] }, { accessFlags := 25, nameIndex := 416, descriptorIndex := 404, attributes := #[] }, { accessFlags := 25, nameIndex := 418, descriptorIndex := 404, attributes := #[] }, { accessFlags := 25, nameIndex := 420, descriptorIndex := 404, attributes := #[] }, { accessFlags := 25, nameIndex := 422, descriptorIndex := 404, attributes := #[] }, { accessFlags := 25, nameIndex := 424, descriptorIndex := 404, attributes := #[] }, { accessFlags := 25, nameIndex := 426, descriptorIndex := 404, attributes := #[] }, { accessFlags := 25, nameIndex := 428, descriptorIndex := 404, attributes := #[] }, { accessFlags := 25, nameIndex := 430, descriptorIndex := 404, attributes := #[] }, { accessFlags := 25, nameIndex := 432, descriptorIndex := 404, attributes := #[] }, { accessFlags := 25, nameIndex := 434, descriptorIndex := 404, attributes := #[] }, { accessFlags := 25, nameIndex := 436, descriptorIndex := 404, attributes := #[] }, { accessFlags := 25, nameIndex := 438, descriptorIndex := 404, attributes := #[] }, { accessFlags := 25, nameIndex := 440, descriptorIndex := 404, attributes := #[] }, { accessFlags := 25, nameIndex := 442, descriptorIndex := 404, attributes := #[] }, { accessFlags := 25, nameIndex := 444, descriptorIndex := 404, attributes := #[] }, { accessFlags := 25, nameIndex := 446, descriptorIndex := 404, attributes := #[] }, { accessFlags := 25, nameIndex := 448, descriptorIndex := 404, attributes := #[] }, { accessFlags := 25, nameIndex := 450, descriptorIndex := 404, attributes := #[] }, { accessFlags := 25, nameIndex := 452, descriptorIndex := 404, attributes := #[] }, { accessFlags := 25, nameIndex := 454, descriptorIndex := 404, attributes := #[] }, { accessFlags := 25, nameIndex := 456, descriptorIndex := 404, attributes := #[] }, { accessFlags := 25, nameIndex := 458, descriptorIndex := 404, attributes := #[] }, { accessFlags := 25, nameIndex := 460, descriptorIndex := 404, attributes := #[] }, { accessFlags := 24, nameIndex := 462, descriptorIndex := 392, attributes := #[] }, { accessFlags := 25, nameIndex := 464, descriptorIndex := 404, attributes := #[] }, { accessFlags := 25, nameIndex := 465, descriptorIndex := 404, attributes := #[] }, { accessFlags := 25, nameIndex := 466, descriptorIndex := 404, attributes := #[] }, { accessFlags := 25, nameIndex := 467, descriptorIndex := 404, attributes := #[] }, { accessFlags := 25, nameIndex := 468, descriptorIndex := 404, attributes := #[] }, { accessFlags := 25, nameIndex := 469, descriptorIndex := 404, attributes := #[] }, { accessFlags := 25, nameIndex := 470, descriptorIndex := 404, attributes := #[] }, { accessFlags := 25, nameIndex := 471, descriptorIndex := 404, attributes := #[] }, { accessFlags := 25, nameIndex := 472, descriptorIndex := 404, attributes := #[] }, { accessFlags := 25, nameIndex := 473, descriptorIndex := 404, attributes := #[] }, { accessFlags := 25, nameIndex := 474, descriptorIndex := 404, attributes := #[] }, { accessFlags := 25, nameIndex := 475, descriptorIndex := 404, attributes := #[] }, { accessFlags := 25, nameIndex := 476, descriptorIndex := 404, attributes := #[] }, { accessFlags := 25, nameIndex := 477, descriptorIndex := 404, attributes := #[] }, { accessFlags := 25, nameIndex := 478, descriptorIndex := 404, attributes := #[] }, { accessFlags := 25, nameIndex := 479, descriptorIndex := 404, attributes := #[] }, { accessFlags := 25, nameIndex := 480, descriptorIndex := 404, attributes := #[] }, { accessFlags := 25, nameIndex := 481, descriptorIndex := 404, attributes := #[] }, { accessFlags := 25, nameIndex := 482, descriptorIndex := 404, attributes := #[] }, { accessFlags := 25, nameIndex := 484, descriptorIndex := 404, attributes := #[] }, { accessFlags := 25, nameIndex := 485, descriptorIndex := 404, attributes := #[] }, { accessFlags := 25, nameIndex := 486, descriptorIndex := 404, attributes := #[] }, { accessFlags := 25, nameIndex := 487, descriptorIndex := 404, attributes := #[] }, { accessFlags := 25, nameIndex := 488, descriptorIndex := 404, attributes := #[] }, { accessFlags := 25, nameIndex := 489, descriptorIndex := 22, attributes := #[] }, { accessFlags := 25, nameIndex := 490, descriptorIndex := 22, attributes := #[] }, { accessFlags := 25, nameIndex := 492, descriptorIndex := 22, attributes := #[] }, { accessFlags := 25, nameIndex := 493, descriptorIndex := 22, attributes := #[] }, { accessFlags := 25, nameIndex := 495, descriptorIndex := 22, attributes := #[] }, { accessFlags := 25, nameIndex := 496, descriptorIndex := 22, attributes := #[] }, { accessFlags := 25, nameIndex := 497, descriptorIndex := 392, attributes := #[] }, { accessFlags := 25, nameIndex := 498, descriptorIndex := 392, attributes := #[] }, { accessFlags := 25, nameIndex := 499, descriptorIndex := 392, attributes := #[] }, { accessFlags := 18, nameIndex := 21, descriptorIndex := 22, attributes := #[] }, { accessFlags := 26, nameIndex := 501, descriptorIndex := 502, attributes := #[] }, { accessFlags := 25, nameIndex := 505, descriptorIndex := 392, attributes := #[] }, { accessFlags := 25, nameIndex := 506, descriptorIndex := 392, attributes := #[] }, { accessFlags := 4120, nameIndex := 284, descriptorIndex := 285, attributes := #[] }])
  fields := #[{ name := "MIN_RADIX", type := .int, accessFlags := 25, slot := 0, constantValue := 0 }, { name := "MAX_RADIX", type := .int, accessFlags := 25, slot := 1, constantValue := 0 }, { name := "MIN_VALUE", type := .char, accessFlags := 25, slot := 2, constantValue := 0 }, { name := "MAX_VALUE", type := .char, accessFlags := 25, slot := 3, constantValue := 0 }, { name := "TYPE", type := (.object "java/lang/Class"), accessFlags := 25, slot := 4, constantValue := 0 }, { name := "UNASSIGNED", type := .byte, accessFlags := 25, slot := 5, constantValue := 0 }, { name := "UPPERCASE_LETTER", type := .byte, accessFlags := 25, slot := 6, constantValue := 0 }, { name := "LOWERCASE_LETTER", type := .byte, accessFlags := 25, slot := 7, constantValue := 0 }, { name := "TITLECASE_LETTER", type := .byte, accessFlags := 25, slot := 8, constantValue := 0 }, { name := "MODIFIER_LETTER", type := .byte, accessFlags := 25, slot := 9, constantValue := 0 }, { name := "OTHER_LETTER", type := .byte, accessFlags := 25, slot := 10, constantValue := 0 }, { name := "NON_SPACING_MARK", type := .byte, accessFlags := 25, slot := 11, constantValue := 0 }, { name := "ENCLOSING_MARK", type := .byte, accessFlags := 25, slot := 12, constantValue := 0 }, { name := "COMBINING_SPACING_MARK", type := .byte, accessFlags := 25, slot := 13, constantValue := 0 }, { name := "DECIMAL_DIGIT_NUMBER", type := .byte, accessFlags := 25, slot := 14, constantValue := 0 }, { name := "LETTER_NUMBER", type := .byte, accessFlags := 25, slot := 15, constantValue := 0 }, { name := "OTHER_NUMBER", type := .byte, accessFlags := 25, slot := 16, constantValue := 0 }, { name := "SPACE_SEPARATOR", type := .byte, accessFlags := 25, slot := 17, constantValue := 0 }, { name := "LINE_SEPARATOR", type := .byte, accessFlags := 25, slot := 18, constantValue := 0 }, { name := "PARAGRAPH_SEPARATOR", type := .byte, accessFlags := 25, slot := 19, constantValue := 0 }, { name := "CONTROL", type := .byte, accessFlags := 25, slot := 20, constantValue := 0 }, { name := "FORMAT", type := .byte, accessFlags := 25, slot := 21, constantValue := 0 }, { name := "PRIVATE_USE", type := .byte, accessFlags := 25, slot := 22, constantValue := 0 }, { name := "SURROGATE", type := .byte, accessFlags := 25, slot := 23, constantValue := 0 }, { name := "DASH_PUNCTUATION", type := .byte, accessFlags := 25, slot := 24, constantValue := 0 }, { name := "START_PUNCTUATION", type := .byte, accessFlags := 25, slot := 25, constantValue := 0 }, { name := "END_PUNCTUATION", type := .byte, accessFlags := 25, slot := 26, constantValue := 0 }, { name := "CONNECTOR_PUNCTUATION", type := .byte, accessFlags := 25, slot := 27, constantValue := 0 }, { name := "OTHER_PUNCTUATION", type := .byte, accessFlags := 25, slot := 28, constantValue := 0 }, { name := "MATH_SYMBOL", type := .byte, accessFlags := 25, slot := 29, constantValue := 0 }, { name := "CURRENCY_SYMBOL", type := .byte, accessFlags := 25, slot := 30, constantValue := 0 }, { name := "MODIFIER_SYMBOL", type := .byte, accessFlags := 25, slot := 31, constantValue := 0 }, { name := "OTHER_SYMBOL", type := .byte, accessFlags := 25, slot := 32, constantValue := 0 }, { name := "INITIAL_QUOTE_PUNCTUATION", type := .byte, accessFlags := 25, slot := 33, constantValue := 0 }, { name := "FINAL_QUOTE_PUNCTUATION", type := .byte, accessFlags := 25, slot := 34, constantValue := 0 }, { name := "ERROR", type := .int, accessFlags := 24, slot := 35, constantValue := 0 }, { name := "DIRECTIONALITY_UNDEFINED", type := .byte, accessFlags := 25, slot := 36, constantValue := 0 }, { name := "DIRECTIONALITY_LEFT_TO_RIGHT", type := .byte, accessFlags := 25, slot := 37, constantValue := 0 }, { name := "DIRECTIONALITY_RIGHT_TO_LEFT", type := .byte, accessFlags := 25, slot := 38, constantValue := 0 }, { name := "DIRECTIONALITY_RIGHT_TO_LEFT_ARABIC", type := .byte, accessFlags := 25, slot := 39, constantValue := 0 }, { name := "DIRECTIONALITY_EUROPEAN_NUMBER", type := .byte, accessFlags := 25, slot := 40, constantValue := 0 }, { name := "DIRECTIONALITY_EUROPEAN_NUMBER_SEPARATOR", type := .byte, accessFlags := 25, slot := 41, constantValue := 0 }, { name := "DIRECTIONALITY_EUROPEAN_NUMBER_TERMINATOR", type := .byte, accessFlags := 25, slot := 42, constantValue := 0 }, { name := "DIRECTIONALITY_ARABIC_NUMBER", type := .byte, accessFlags := 25, slot := 43, constantValue := 0 }, { name := "DIRECTIONALITY_COMMON_NUMBER_SEPARATOR", type := .byte, accessFlags := 25, slot := 44, constantValue := 0 }, { name := "DIRECTIONALITY_NONSPACING_MARK", type := .byte, accessFlags := 25, slot := 45, constantValue := 0 }, { name := "DIRECTIONALITY_BOUNDARY_NEUTRAL", type := .byte, accessFlags := 25, slot := 46, constantValue := 0 }, { name := "DIRECTIONALITY_PARAGRAPH_SEPARATOR", type := .byte, accessFlags := 25, slot := 47, constantValue := 0 }, { name := "DIRECTIONALITY_SEGMENT_SEPARATOR", type := .byte, accessFlags := 25, slot := 48, constantValue := 0 }, { name := "DIRECTIONALITY_WHITESPACE", type := .byte, accessFlags := 25, slot := 49, constantValue := 0 }, { name := "DIRECTIONALITY_OTHER_NEUTRALS", type := .byte, accessFlags := 25, slot := 50, constantValue := 0 }, { name := "DIRECTIONALITY_LEFT_TO_RIGHT_EMBEDDING", type := .byte, accessFlags := 25, slot := 51, constantValue := 0 }, { name := "DIRECTIONALITY_LEFT_TO_RIGHT_OVERRIDE", type := .byte, accessFlags := 25, slot := 52, constantValue := 0 }, { name := "DIRECTIONALITY_RIGHT_TO_LEFT_EMBEDDING", type := .byte, accessFlags := 25, slot := 53, constantValue := 0 }, { name := "DIRECTIONALITY_RIGHT_TO_LEFT_OVERRIDE", type := .byte, accessFlags := 25, slot := 54, constantValue := 0 }, { name := "DIRECTIONALITY_POP_DIRECTIONAL_FORMAT", type := .byte, accessFlags := 25, slot := 55, constantValue := 0 }, { name := "DIRECTIONALITY_LEFT_TO_RIGHT_ISOLATE", type := .byte, accessFlags := 25, slot := 56, constantValue := 0 }, { name := "DIRECTIONALITY_RIGHT_TO_LEFT_ISOLATE", type := .byte, accessFlags := 25, slot := 57, constantValue := 0 }, { name := "DIRECTIONALITY_FIRST_STRONG_ISOLATE", type := .byte, accessFlags := 25, slot := 58, constantValue := 0 }, { name := "DIRECTIONALITY_POP_DIRECTIONAL_ISOLATE", type := .byte, accessFlags := 25, slot := 59, constantValue := 0 }, { name := "MIN_HIGH_SURROGATE", type := .char, accessFlags := 25, slot := 60, constantValue := 0 }, { name := "MAX_HIGH_SURROGATE", type := .char, accessFlags := 25, slot := 61, constantValue := 0 }, { name := "MIN_LOW_SURROGATE", type := .char, accessFlags := 25, slot := 62, constantValue := 0 }, { name := "MAX_LOW_SURROGATE", type := .char, accessFlags := 25, slot := 63, constantValue := 0 }, { name := "MIN_SURROGATE", type := .char, accessFlags := 25, slot := 64, constantValue := 0 }, { name := "MAX_SURROGATE", type := .char, accessFlags := 25, slot := 65, constantValue := 0 }, { name := "MIN_SUPPLEMENTARY_CODE_POINT", type := .int, accessFlags := 25, slot := 66, constantValue := 0 }, { name := "MIN_CODE_POINT", type := .int, accessFlags := 25, slot := 67, constantValue := 0 }, { name := "MAX_CODE_POINT", type := .int, accessFlags := 25, slot := 68, constantValue := 0 }, { name := "value", type := .char, accessFlags := 18, slot := 0, constantValue := 0 }, { name := "serialVersionUID", type := .long, accessFlags := 26, slot := 69, constantValue := 0 }, { name := "SIZE", type := .int, accessFlags := 25, slot := 70, constantValue := 0 }, { name := "BYTES", type := .int, accessFlags := 25, slot := 71, constantValue := 0 }, { name := "$assertionsDisabled", type := .boolean, accessFlags := 4120, slot := 72, constantValue := 0 }]
  methods := #[k13m0]
  instanceTypes := #[.char]
  staticTypes := #[.int, .int, .char, .char, (.object "java/lang/Class"), .byte, .byte, .byte, .byte, .byte, .byte, .byte, .byte, .byte, .byte, .byte, .byte, .byte, .byte, .byte, .byte, .byte, .byte, .byte, .byte, .byte, .byte, .byte, .byte, .byte, .byte, .byte, .byte, .byte, .byte, .int, .byte, .byte, .byte, .byte, .byte, .byte, .byte, .byte, .byte, .byte, .byte, .byte, .byte, .byte, .byte, .byte, .byte, .byte, .byte, .byte, .byte, .byte, .byte, .byte, .char, .char, .char, .char, .char, .char, .int, .int, .int, .long, .int, .int, .boolean]
  resolved := Array.replicate 604 none
  statics := none }

def pool14 : Array CpInfo := pool [(9, u "<init>"), (6, .class_ 18), (1, u "java/lang/Object"), (0, u "()V"), (1, .class_ 23), (1, u "jdk/internal/util/ArraysSupport"), (0, u "LOG2_ARRAY_LONG_INDEX_SCALE"), (0, u "I"), (2, u "U"), (0, u "Ljdk/internal/misc/Unsafe;"), (8, u "BIG_ENDIAN"), (0, u "Z"), (8, u "LOG2_BYTE_BIT_SIZE"), (4, u "LOG2_ARRAY_INT_INDEX_SCALE"), (54, u "JLA"), (0, u "Ljdk/internal/access/JavaLangAccess;"), (11, u "LOG2_ARRAY_BOOLEAN_INDEX_SCALE"), (9, u "LOG2_ARRAY_BYTE_INDEX_SCALE"), (5, u "LOG2_ARRAY_CHAR_INDEX_SCALE"), (5, u "LOG2_ARRAY_SHORT_INDEX_SCALE"), (18, u "LOG2_ARRAY_FLOAT_INDEX_SCALE"), (24, u "LOG2_ARRAY_DOUBLE_INDEX_SCALE"), (89, u "T_BOOLEAN"), (2, u "T_CHAR"), (1, u "T_FLOAT"), (1, u "T_DOUBLE"), (1, u "T_BYTE"), (1, u "T_SHORT"), (1, u "T_INT"), (1, u "T_LONG"), (1, u "SOFT_MAX_ARRAY_LENGTH")] 83

def k14m0 : Method := { name := "<init>", desc := "()V", sig := { parameters := [], returnType := none }, accessFlags := 2, code := none }
/-- jdk/internal/util/ArraysSupport -/
def k14 : Class := { plain "jdk/internal/util/ArraysSupport" (some 0) with
  accessFlags := 33
  interfaces := #[]
  cf := some (fileOf pool14 21 #[] #[{ accessFlags := 2, nameIndex := 9, descriptorIndex := 19, attributes := #[] }] 33 16 #[] #[{ accessFlags := 24, nameIndex := 28, descriptorIndex := 29, attributes := #[] }, { accessFlags := 26, nameIndex := 38, descriptorIndex := 39, attributes := #[] }, { accessFlags := 25, nameIndex := 121, descriptorIndex := 25, attributes := #[] }, { accessFlags := 25, nameIndex := 131, descriptorIndex := 25, attributes := #[] }, { accessFlags := 25, nameIndex := 137, descriptorIndex := 25, attributes := #[] }, { accessFlags := 25, nameIndex := 143, descriptorIndex := 25, attributes := #[] }, { accessFlags := 25, nameIndex := 53, descriptorIndex := 25, attributes := #[] }, { accessFlags := 25, nameIndex := 24, descriptorIndex := 25, attributes := #[] }, { accessFlags := 25, nameIndex := 162, descriptorIndex := 25, attributes := #[] }, { accessFlags := 25, nameIndex := 187, descriptorIndex := 25, attributes := #[] }, { accessFlags := 26, nameIndex := 48, descriptorIndex := 25, attributes := #[] }, { accessFlags := 25, nameIndex := 277, descriptorIndex := 25, attributes := #[] }, { accessFlags := 25, nameIndex := 280, descriptorIndex := 25, attributes := #[] }, { accessFlags := 25, nameIndex := 282, descriptorIndex := 25, attributes := #[] }, { accessFlags := 25, nameIndex := 284, descriptorIndex := 25, attributes := #[] }, { accessFlags := 25, nameIndex := 286, descriptorIndex := 25, attributes := #[] }, { accessFlags := 25, nameIndex := 288, descriptorIndex := 25, attributes := #[] }, { accessFlags := 25, nameIndex := 290, descriptorIndex := 25, attributes := #[] }, { accessFlags := 25, nameIndex := 292, descriptorIndex := 25, attributes := #[] }, { accessFlags := 26, nameIndex := 108, descriptorIndex := 109, attributes := #[] }, { accessFlags := 25, nameIndex := 294, descriptorIndex := 25, attributes := #[] }])
  fields := #[{ name := "U", type := (.object "jdk/internal/misc/Unsafe"), accessFlags := 24, slot := 0, constantValue := 0 }, { name := "BIG_ENDIAN", type := .boolean, accessFlags := 26, slot := 1, constantValue := 0 }, { name := "LOG2_ARRAY_BOOLEAN_INDEX_SCALE", type := .int, accessFlags := 25, slot := 2, constantValue := 0 }, { name := "LOG2_ARRAY_BYTE_INDEX_SCALE", type := .int, accessFlags := 25, slot := 3, constantValue := 0 }, { name := "LOG2_ARRAY_CHAR_INDEX_SCALE", type := .int, accessFlags := 25, slot := 4, constantValue := 0 }, { name := "LOG2_ARRAY_SHORT_INDEX_SCALE", type := .int, accessFlags := 25, slot := 5, constantValue := 0 }, { name := "LOG2_ARRAY_INT_INDEX_SCALE", type := .int, accessFlags := 25, slot := 6, constantValue := 0 }, { name := "LOG2_ARRAY_LONG_INDEX_SCALE", type := .int, accessFlags := 25, slot := 7, constantValue := 0 }, { name := "LOG2_ARRAY_FLOAT_INDEX_SCALE", type := .int, accessFlags := 25, slot := 8, constantValue := 0 }, { name := "LOG2_ARRAY_DOUBLE_INDEX_SCALE", type := .int, accessFlags := 25, slot := 9, constantValue := 0 }, { name := "LOG2_BYTE_BIT_SIZE", type := .int, accessFlags := 26, slot := 10, constantValue := 0 }, { name := "T_BOOLEAN", type := .int, accessFlags := 25, slot := 11, constantValue := 0 }, { name := "T_CHAR", type := .int, accessFlags := 25, slot := 12, constantValue := 0 }, { name := "T_FLOAT", type := .int, accessFlags := 25, slot := 13, constantValue := 0 }, { name := "T_DOUBLE", type := .int, accessFlags := 25, slot := 14, constantValue := 0 }, { name := "T_BYTE", type := .int, accessFlags := 25, slot := 15, constantValue := 0 }, { name := "T_SHORT", type := .int, accessFlags := 25, slot := 16, constantValue := 0 }, { name := "T_INT", type := .int, accessFlags := 25, slot := 17, constantValue := 0 }, { name := "T_LONG", type := .int, accessFlags := 25, slot := 18, constantValue := 0 }, { name := "JLA", type := (.object "jdk/internal/access/JavaLangAccess"), accessFlags := 26, slot := 19, constantValue := 0 }, { name := "SOFT_MAX_ARRAY_LENGTH", type := .int, accessFlags := 25, slot := 20, constantValue := 0 }]
  methods := #[k14m0]
  instanceTypes := #[]
  staticTypes := #[(.object "jdk/internal/misc/Unsafe"), .boolean, .int, .int, .int, .int, .int, .int, .int, .int, .int, .int, .int, .int, .int, .int, .int, .int, .int, (.object "jdk/internal/access/JavaLangAccess"), .int]
  resolved := Array.replicate 378 none
  statics := none }

def pool15 : Array CpInfo := pool [(1, u "java/lang/Cloneable"), (0, .class_ 1), (0, u "java/lang/Object"), (0, .class_ 3)] 3

/-- java/lang/Cloneable -/
def k15 : Class := { plain "java/lang/Cloneable" (some 0) with
  accessFlags := 1537
  interfaces := #[]
  cf := some (fileOf pool15 2 #[] #[] 1537 4 #[] #[])
  fields := #[]
  methods := #[]
  instanceTypes := #[]
  staticTypes := #[]
  resolved := Array.replicate 8 none
  statics := none }

/-- the primitive byte -/
def k16 : Class := { plain "byte" none with kind := .primitive 'B', accessFlags := 0x411 }
/-- [B -/
def k17 : Class := { plain "[B" (some 0) with kind := .array 16 .byte, interfaces := #[15, 2], accessFlags := 1041 }

/-- the primitive char -/
def k18 : Class := { plain "char" none with kind := .primitive 'C', accessFlags := 0x411 }
/-- [C -/
def k19 : Class := { plain "[C" (some 0) with kind := .array 18 .char, interfaces := #[15, 2], accessFlags := 1041 }

/-- the primitive int -/
def k20 : Class := { plain "int" none with kind := .primitive 'I', accessFlags := 0x411 }
/-- [I -/
def k21 : Class := { plain "[I" (some 0) with kind := .array 20 .int, interfaces := #[15, 2], accessFlags := 1041 }

def heap : Heap := #[{ cls := 7, slots := #[.long 0, .int 1, .null, .int 0, .null, .int 0, .int 0], vm := .statics 7 },
  { cls := 10, slots := #[.int 0, .int 8, .int 0, .int 1], vm := .statics 10 },
  { cls := 12, slots := #[.null, .null, .null], vm := .statics 12 }]
def classes : Array Class := #[k0, k1, k2, k3, k4, k5, k6, k7, k8, k9, k10, k11, k12, k13, k14, k15, k16, k17, k18, k19, k20, k21]
def interned : List (Array UInt16 × Addr) := []
def slotsUsed : Nat := 14
def theMethod : MethodId := ⟨1, 1⟩
def args0 : Array Value := #[.int 2, .int 65, .int 66, .int 1, .int 7]
def aboutOver (below : List Frame) : State where
  vm := { classes := classes, interned := interned.toArray }
  heap := heap
  slotsUsed := slotsUsed
  threads := #[{ frames := .invoking theMethod args0 :: below }]
def below0 : List Frame := [.native { method := ⟨0, 0⟩, args := #[] }]
def about1 : State := aboutOver below0
def p0 : Program := .bare "" "" ""
def e0 : Env := launch0.env 0 0 0
theorem w_frames : about1.frames = Frame.invoking theMethod args0 :: below0 := rfl
set_option maxRecDepth 65536 in
theorem w_args : argsFit about1.vm theMethod args0 = true := by decide +kernel
set_option maxRecDepth 65536 in
theorem w_heap : heapFits about1 = true := by decide +kernel
set_option maxRecDepth 65536 in
theorem w_runnable : about1.curStatus? = some .runnable := by decide +kernel
set_option maxRecDepth 65536 in
theorem w_alone : about1.alone = true := by decide +kernel
set_option maxRecDepth 65536 in
theorem w_named : about1.methodNamed? x = some theMethod := by decide +kernel
set_option maxRecDepth 65536 in
theorem w_hears : about1.hears theMethod below0 = true := by decide +kernel
set_option maxRecDepth 65536 in
theorem w_ripe : about1.ripe theMethod args0 below0 = true := by decide +kernel
theorem w_running : about1.status = .running := rfl
set_option maxRecDepth 65536 in
theorem w_room : about1.hasRoom e0.platform room_1 = true :=
  launch0.hasRoom_least _ room_1 (by decide +kernel) (by decide +kernel) (by decide +kernel) (by decide +kernel) (by decide +kernel) (by decide +kernel)
theorem allAtoms_all (ts : List Jvm.Cond) (a : Array Jvm.Value) (st : Jvm.State) : (allAtoms ts).before a st = ts.all (fun c => c.before a st) := by
  induction ts with
  | nil => rfl
  | cons c t ih =>
    show (Jvm.Cond.and c (allAtoms t)).before a st = _
    rw [Jvm.Cond.before_and, ih, List.all_cons]
def words1 : List Jvm.Cond := Jvm.Cond.code x code maxLocals ret :: tables_1
/-- a 'code' word, met by the world's own term for the bytes: nothing is compared byte by byte -/
theorem code_word {y : MethodName} {bytes : ByteArray} {mx : Nat} {rt : Option FieldType} {a : Array Value} {s : State} {m : MethodId} {meth : Method} {c : Code} (h1 : s.methodNamed? y = some m) (h2 : s.vm.method? m = some meth) (h3 : meth.code = some c) (h4 : c.code = bytes)
    (h5 : (c.maxLocals == mx && c.exceptionTable.isEmpty && decide (c.maxStack ≤ mostOperands) && decide (meth.sig.returnType = rt) && !meth.locks && decide (parseMethodDescriptor y.desc = some meth.sig)) = true) : (Jvm.Cond.code y bytes mx rt).before a s = true := by
  simp only [Bool.and_eq_true, beq_iff_eq, Bool.not_eq_true', decide_eq_true_eq] at h5
  obtain ⟨⟨⟨⟨⟨g1, g2⟩, g3⟩, g4⟩, g5⟩, g6⟩ := h5
  simp [Cond.before, Cond.holds, Cond.value, h1, h2, h3, h4, g1, g2, g3, g4, g5, g6]
def isCode : Jvm.Cond → Bool
  | .code _ _ _ _ => true
  | _ => false
theorem all_split {L : List Jvm.Cond} {P : Jvm.Cond → Bool} (h1 : L.all (fun c => isCode c || P c) = true) (h2 : ∀ c ∈ L.filter isCode, P c = true) : L.all P = true := by
  refine List.all_eq_true.mpr fun c hc => ?_
  have h := List.all_eq_true.mp h1 c hc
  rcases Bool.eq_false_or_eq_true (isCode c) with hi | hi
  · exact h2 c (List.mem_filter.mpr ⟨hc, hi⟩)
  · simpa [hi] using h
set_option maxRecDepth 65536 in
theorem w_c0 : (Jvm.Cond.code x code maxLocals ret).before args0 about1 = true := code_word (m := ⟨1, 1⟩) (meth := k1m1) (c := k1c1) (by decide +kernel) rfl rfl rfl (by decide +kernel)
set_option maxRecDepth 65536 in
theorem w_c1 : (Jvm.Cond.code ({ cls := "com/example/bnodiff/bnodiff/model/CodePointOrderComparePinLaw", name := "cp", desc := "(I)I" } : Jvm.MethodName) method_3_code (3 : Nat) (Option.some Jvm.ClassFile.FieldType.int)).before args0 about1 = true := code_word (m := ⟨1, 2⟩) (meth := k1m2) (c := k1c2) (by decide +kernel) rfl rfl rfl (by decide +kernel)
set_option maxRecDepth 65536 in
theorem w_c2 : (Jvm.Cond.code ({ cls := "com/example/bnodiff/bnodiff/model/CodePointOrderComparePinLaw", name := "enc", desc := "(III)Ljava/lang/String;" } : Jvm.MethodName) method_6_code (5 : Nat) (Option.some (Jvm.ClassFile.FieldType.object "java/lang/String"))).before args0 about1 = true := code_word (m := ⟨1, 5⟩) (meth := k1m5) (c := k1c5) (by decide +kernel) rfl rfl rfl (by decide +kernel)
set_option maxRecDepth 65536 in
theorem w_c3 : (Jvm.Cond.code ({ cls := "com/example/bnodiff/bnodiff/model/CodePointOrderComparePinLaw", name := "take", desc := "([CI)Ljava/lang/String;" } : Jvm.MethodName) method_7_code (2 : Nat) (Option.some (Jvm.ClassFile.FieldType.object "java/lang/String"))).before args0 about1 = true := code_word (m := ⟨1, 6⟩) (meth := k1m6) (c := k1c6) (by decide +kernel) rfl rfl rfl (by decide +kernel)
set_option maxRecDepth 65536 in
theorem w_c4 : (Jvm.Cond.code ({ cls := "java/lang/String", name := "<init>", desc := "([C)V" } : Jvm.MethodName) jdk_42_method_3_code (2 : Nat) (Option.none : Option Jvm.ClassFile.FieldType)).before args0 about1 = true := code_word (m := ⟨7, 1⟩) (meth := k7m1) (c := k7c1) (by decide +kernel) rfl rfl rfl (by decide +kernel)
set_option maxRecDepth 65536 in
theorem w_c5 : (Jvm.Cond.code ({ cls := "java/lang/String", name := "<init>", desc := "([CIILjava/lang/Void;)V" } : Jvm.MethodName) jdk_42_method_149_code (6 : Nat) (Option.none : Option Jvm.ClassFile.FieldType)).before args0 about1 = true := code_word (m := ⟨7, 4⟩) (meth := k7m4) (c := k7c4) (by decide +kernel) rfl rfl rfl (by decide +kernel)
set_option maxRecDepth 65536 in
theorem w_c6 : (Jvm.Cond.code ({ cls := "java/lang/Object", name := "<init>", desc := "()V" } : Jvm.MethodName) object_method_1_code (1 : Nat) (Option.none : Option Jvm.ClassFile.FieldType)).before args0 about1 = true := code_word (m := ⟨0, 0⟩) (meth := k0m0) (c := k0c0) (by decide +kernel) rfl rfl rfl (by decide +kernel)
set_option maxRecDepth 65536 in
theorem w_c7 : (Jvm.Cond.code ({ cls := "com/example/bnodiff/bnodiff/model/CodePointOrderComparePinLaw", name := "sign", desc := "(I)I" } : Jvm.MethodName) method_8_code (1 : Nat) (Option.some Jvm.ClassFile.FieldType.int)).before args0 about1 = true := code_word (m := ⟨1, 7⟩) (meth := k1m7) (c := k1c7) (by decide +kernel) rfl rfl rfl (by decide +kernel)
set_option maxRecDepth 65536 in
theorem w_c8 : (Jvm.Cond.code ({ cls := "com/example/bnodiff/bnodiff/model/CodePointOrder", name := "compare", desc := "(Ljava/lang/String;Ljava/lang/String;)I" } : Jvm.MethodName) prog_43_method_2_code (6 : Nat) (Option.some Jvm.ClassFile.FieldType.int)).before args0 about1 = true := code_word (m := ⟨8, 1⟩) (meth := k8m1) (c := k8c1) (by decide +kernel) rfl rfl rfl (by decide +kernel)
set_option maxRecDepth 65536 in
theorem w_c9 : (Jvm.Cond.code ({ cls := "java/lang/String", name := "length", desc := "()I" } : Jvm.MethodName) jdk_42_method_54_code (1 : Nat) (Option.some Jvm.ClassFile.FieldType.int)).before args0 about1 = true := code_word (m := ⟨7, 2⟩) (meth := k7m2) (c := k7c2) (by decide +kernel) rfl rfl rfl (by decide +kernel)
set_option maxRecDepth 65536 in
theorem w_c10 : (Jvm.Cond.code ({ cls := "java/lang/String", name := "coder", desc := "()B" } : Jvm.MethodName) jdk_42_method_152_code (1 : Nat) (Option.some Jvm.ClassFile.FieldType.byte)).before args0 about1 = true := code_word (m := ⟨7, 5⟩) (meth := k7m5) (c := k7c5) (by decide +kernel) rfl rfl rfl (by decide +kernel)
set_option maxRecDepth 65536 in
theorem w_c11 : (Jvm.Cond.code ({ cls := "java/lang/Math", name := "min", desc := "(II)I" } : Jvm.MethodName) jdk_29_method_69_code (2 : Nat) (Option.some Jvm.ClassFile.FieldType.int)).before args0 about1 = true := code_word (m := ⟨9, 1⟩) (meth := k9m1) (c := k9c1) (by decide +kernel) rfl rfl rfl (by decide +kernel)
set_option maxRecDepth 65536 in
theorem w_c12 : (Jvm.Cond.code ({ cls := "com/example/bnodiff/bnodiff/model/CodePointOrderComparePinLaw", name := "hi", desc := "(I)C" } : Jvm.MethodName) method_4_code (1 : Nat) (Option.some Jvm.ClassFile.FieldType.char)).before args0 about1 = true := code_word (m := ⟨1, 3⟩) (meth := k1m3) (c := k1c3) (by decide +kernel) rfl rfl rfl (by decide +kernel)
set_option maxRecDepth 65536 in
theorem w_c13 : (Jvm.Cond.code ({ cls := "java/lang/StringUTF16", name := "compress", desc := "([CII)[B" } : Jvm.MethodName) jdk_52_method_16_code (6 : Nat) (Option.some (Jvm.ClassFile.FieldType.array Jvm.ClassFile.FieldType.byte))).before args0 about1 = true := code_word (m := ⟨10, 8⟩) (meth := k10m8) (c := k10c8) (by decide +kernel) rfl rfl rfl (by decide +kernel)
set_option maxRecDepth 65536 in
theorem w_c14 : (Jvm.Cond.code ({ cls := "java/lang/StringUTF16", name := "compress", desc := "([CI[BII)I" } : Jvm.MethodName) jdk_52_method_21_code (7 : Nat) (Option.some Jvm.ClassFile.FieldType.int)).before args0 about1 = true := code_word (m := ⟨10, 9⟩) (meth := k10m9) (c := k10c9) (by decide +kernel) rfl rfl rfl (by decide +kernel)
set_option maxRecDepth 65536 in
theorem w_c15 : (Jvm.Cond.code ({ cls := "java/lang/StringUTF16", name := "toBytes", desc := "([CII)[B" } : Jvm.MethodName) jdk_52_method_14_code (5 : Nat) (Option.some (Jvm.ClassFile.FieldType.array Jvm.ClassFile.FieldType.byte))).before args0 about1 = true := code_word (m := ⟨10, 6⟩) (meth := k10m6) (c := k10c6) (by decide +kernel) rfl rfl rfl (by decide +kernel)
set_option maxRecDepth 65536 in
theorem w_c16 : (Jvm.Cond.code ({ cls := "java/lang/StringUTF16", name := "newBytesFor", desc := "(I)[B" } : Jvm.MethodName) jdk_52_method_2_code (1 : Nat) (Option.some (Jvm.ClassFile.FieldType.array Jvm.ClassFile.FieldType.byte))).before args0 about1 = true := code_word (m := ⟨10, 1⟩) (meth := k10m1) (c := k10c1) (by decide +kernel) rfl rfl rfl (by decide +kernel)
set_option maxRecDepth 65536 in
theorem w_c17 : (Jvm.Cond.code ({ cls := "java/lang/StringUTF16", name := "newBytesLength", desc := "(I)I" } : Jvm.MethodName) jdk_52_method_3_code (1 : Nat) (Option.some Jvm.ClassFile.FieldType.int)).before args0 about1 = true := code_word (m := ⟨10, 2⟩) (meth := k10m2) (c := k10c2) (by decide +kernel) rfl rfl rfl (by decide +kernel)
set_option maxRecDepth 65536 in
theorem w_c18 : (Jvm.Cond.code ({ cls := "java/lang/StringUTF16", name := "putChar", desc := "([BII)V" } : Jvm.MethodName) jdk_52_method_4_code (3 : Nat) (Option.none : Option Jvm.ClassFile.FieldType)).before args0 about1 = true := code_word (m := ⟨10, 3⟩) (meth := k10m3) (c := k10c3) (by decide +kernel) rfl rfl rfl (by decide +kernel)
set_option maxRecDepth 65536 in
theorem w_c19 : (Jvm.Cond.code ({ cls := "java/lang/StringUTF16", name := "getChar", desc := "([BI)C" } : Jvm.MethodName) jdk_52_method_5_code (2 : Nat) (Option.some Jvm.ClassFile.FieldType.char)).before args0 about1 = true := code_word (m := ⟨10, 4⟩) (meth := k10m4) (c := k10c4) (by decide +kernel) rfl rfl rfl (by decide +kernel)
set_option maxRecDepth 65536 in
theorem w_c20 : (Jvm.Cond.code ({ cls := "java/lang/StringUTF16", name := "coderFromArrayLen", desc := "([BI)B" } : Jvm.MethodName) jdk_52_method_15_code (2 : Nat) (Option.some Jvm.ClassFile.FieldType.byte)).before args0 about1 = true := code_word (m := ⟨10, 7⟩) (meth := k10m7) (c := k10c7) (by decide +kernel) rfl rfl rfl (by decide +kernel)
set_option maxRecDepth 65536 in
theorem w_c21 : (Jvm.Cond.code ({ cls := "com/example/bnodiff/bnodiff/model/CodePointOrderComparePinLaw", name := "lo", desc := "(I)C" } : Jvm.MethodName) method_5_code (1 : Nat) (Option.some Jvm.ClassFile.FieldType.char)).before args0 about1 = true := code_word (m := ⟨1, 4⟩) (meth := k1m4) (c := k1c4) (by decide +kernel) rfl rfl rfl (by decide +kernel)
set_option maxRecDepth 65536 in
theorem w_c22 : (Jvm.Cond.code ({ cls := "java/lang/String", name := "charAt", desc := "(I)C" } : Jvm.MethodName) jdk_42_method_56_code (2 : Nat) (Option.some Jvm.ClassFile.FieldType.char)).before args0 about1 = true := code_word (m := ⟨7, 3⟩) (meth := k7m3) (c := k7c3) (by decide +kernel) rfl rfl rfl (by decide +kernel)
set_option maxRecDepth 65536 in
theorem w_c23 : (Jvm.Cond.code ({ cls := "java/lang/String", name := "isLatin1", desc := "()Z" } : Jvm.MethodName) jdk_42_method_154_code (1 : Nat) (Option.some Jvm.ClassFile.FieldType.boolean)).before args0 about1 = true := code_word (m := ⟨7, 6⟩) (meth := k7m6) (c := k7c6) (by decide +kernel) rfl rfl rfl (by decide +kernel)
set_option maxRecDepth 65536 in
theorem w_c24 : (Jvm.Cond.code ({ cls := "java/lang/StringLatin1", name := "charAt", desc := "([BI)C" } : Jvm.MethodName) jdk_43_method_2_code (2 : Nat) (Option.some Jvm.ClassFile.FieldType.char)).before args0 about1 = true := code_word (m := ⟨11, 1⟩) (meth := k11m1) (c := k11c1) (by decide +kernel) rfl rfl rfl (by decide +kernel)
set_option maxRecDepth 65536 in
theorem w_c25 : (Jvm.Cond.code ({ cls := "java/lang/String", name := "checkIndex", desc := "(II)V" } : Jvm.MethodName) jdk_42_method_155_code (2 : Nat) (Option.none : Option Jvm.ClassFile.FieldType)).before args0 about1 = true := code_word (m := ⟨7, 7⟩) (meth := k7m7) (c := k7c7) (by decide +kernel) rfl rfl rfl (by decide +kernel)
set_option maxRecDepth 65536 in
theorem w_c26 : (Jvm.Cond.code ({ cls := "jdk/internal/util/Preconditions", name := "checkIndex", desc := "(IILjava/util/function/BiFunction;)I" } : Jvm.MethodName) jdk_41_method_11_code (3 : Nat) (Option.some Jvm.ClassFile.FieldType.int)).before args0 about1 = true := code_word (m := ⟨12, 1⟩) (meth := k12m1) (c := k12c1) (by decide +kernel) rfl rfl rfl (by decide +kernel)
set_option maxRecDepth 65536 in
theorem w_c27 : (Jvm.Cond.code ({ cls := "java/lang/StringUTF16", name := "charAt", desc := "([BI)C" } : Jvm.MethodName) jdk_52_method_83_code (2 : Nat) (Option.some Jvm.ClassFile.FieldType.char)).before args0 about1 = true := code_word (m := ⟨10, 10⟩) (meth := k10m10) (c := k10c10) (by decide +kernel) rfl rfl rfl (by decide +kernel)
set_option maxRecDepth 65536 in
theorem w_c28 : (Jvm.Cond.code ({ cls := "java/lang/StringUTF16", name := "checkIndex", desc := "(I[B)V" } : Jvm.MethodName) jdk_52_method_91_code (2 : Nat) (Option.none : Option Jvm.ClassFile.FieldType)).before args0 about1 = true := code_word (m := ⟨10, 11⟩) (meth := k10m11) (c := k10c11) (by decide +kernel) rfl rfl rfl (by decide +kernel)
set_option maxRecDepth 65536 in
theorem w_c29 : (Jvm.Cond.code ({ cls := "java/lang/StringUTF16", name := "length", desc := "([B)I" } : Jvm.MethodName) jdk_52_method_6_code (1 : Nat) (Option.some Jvm.ClassFile.FieldType.int)).before args0 about1 = true := code_word (m := ⟨10, 5⟩) (meth := k10m5) (c := k10c5) (by decide +kernel) rfl rfl rfl (by decide +kernel)
set_option maxRecDepth 65536 in
theorem w_c30 : (Jvm.Cond.code ({ cls := "com/example/bnodiff/bnodiff/model/CodePointOrder", name := "rank", desc := "(C)I" } : Jvm.MethodName) prog_43_method_3_code (1 : Nat) (Option.some Jvm.ClassFile.FieldType.int)).before args0 about1 = true := code_word (m := ⟨8, 2⟩) (meth := k8m2) (c := k8c2) (by decide +kernel) rfl rfl rfl (by decide +kernel)
set_option maxRecDepth 65536 in
theorem w_c31 : (Jvm.Cond.code ({ cls := "java/lang/Character", name := "isSurrogate", desc := "(C)Z" } : Jvm.MethodName) jdk_89_method_16_code (1 : Nat) (Option.some Jvm.ClassFile.FieldType.boolean)).before args0 about1 = true := code_word (m := ⟨13, 0⟩) (meth := k13m0) (c := k13c0) (by decide +kernel) rfl rfl rfl (by decide +kernel)
def codes1 : List Jvm.Cond := [Jvm.Cond.code x code maxLocals ret, Jvm.Cond.code ({ cls := "com/example/bnodiff/bnodiff/model/CodePointOrderComparePinLaw", name := "cp", desc := "(I)I" } : Jvm.MethodName) method_3_code (3 : Nat) (Option.some Jvm.ClassFile.FieldType.int), Jvm.Cond.code ({ cls := "com/example/bnodiff/bnodiff/model/CodePointOrderComparePinLaw", name := "enc", desc := "(III)Ljava/lang/String;" } : Jvm.MethodName) method_6_code (5 : Nat) (Option.some (Jvm.ClassFile.FieldType.object "java/lang/String")), Jvm.Cond.code ({ cls := "com/example/bnodiff/bnodiff/model/CodePointOrderComparePinLaw", name := "take", desc := "([CI)Ljava/lang/String;" } : Jvm.MethodName) method_7_code (2 : Nat) (Option.some (Jvm.ClassFile.FieldType.object "java/lang/String")), Jvm.Cond.code ({ cls := "java/lang/String", name := "<init>", desc := "([C)V" } : Jvm.MethodName) jdk_42_method_3_code (2 : Nat) (Option.none : Option Jvm.ClassFile.FieldType), Jvm.Cond.code ({ cls := "java/lang/String", name := "<init>", desc := "([CIILjava/lang/Void;)V" } : Jvm.MethodName) jdk_42_method_149_code (6 : Nat) (Option.none : Option Jvm.ClassFile.FieldType), Jvm.Cond.code ({ cls := "java/lang/Object", name := "<init>", desc := "()V" } : Jvm.MethodName) object_method_1_code (1 : Nat) (Option.none : Option Jvm.ClassFile.FieldType), Jvm.Cond.code ({ cls := "com/example/bnodiff/bnodiff/model/CodePointOrderComparePinLaw", name := "sign", desc := "(I)I" } : Jvm.MethodName) method_8_code (1 : Nat) (Option.some Jvm.ClassFile.FieldType.int), Jvm.Cond.code ({ cls := "com/example/bnodiff/bnodiff/model/CodePointOrder", name := "compare", desc := "(Ljava/lang/String;Ljava/lang/String;)I" } : Jvm.MethodName) prog_43_method_2_code (6 : Nat) (Option.some Jvm.ClassFile.FieldType.int), Jvm.Cond.code ({ cls := "java/lang/String", name := "length", desc := "()I" } : Jvm.MethodName) jdk_42_method_54_code (1 : Nat) (Option.some Jvm.ClassFile.FieldType.int), Jvm.Cond.code ({ cls := "java/lang/String", name := "coder", desc := "()B" } : Jvm.MethodName) jdk_42_method_152_code (1 : Nat) (Option.some Jvm.ClassFile.FieldType.byte), Jvm.Cond.code ({ cls := "java/lang/Math", name := "min", desc := "(II)I" } : Jvm.MethodName) jdk_29_method_69_code (2 : Nat) (Option.some Jvm.ClassFile.FieldType.int), Jvm.Cond.code ({ cls := "com/example/bnodiff/bnodiff/model/CodePointOrderComparePinLaw", name := "hi", desc := "(I)C" } : Jvm.MethodName) method_4_code (1 : Nat) (Option.some Jvm.ClassFile.FieldType.char), Jvm.Cond.code ({ cls := "java/lang/StringUTF16", name := "compress", desc := "([CII)[B" } : Jvm.MethodName) jdk_52_method_16_code (6 : Nat) (Option.some (Jvm.ClassFile.FieldType.array Jvm.ClassFile.FieldType.byte)), Jvm.Cond.code ({ cls := "java/lang/StringUTF16", name := "compress", desc := "([CI[BII)I" } : Jvm.MethodName) jdk_52_method_21_code (7 : Nat) (Option.some Jvm.ClassFile.FieldType.int), Jvm.Cond.code ({ cls := "java/lang/StringUTF16", name := "toBytes", desc := "([CII)[B" } : Jvm.MethodName) jdk_52_method_14_code (5 : Nat) (Option.some (Jvm.ClassFile.FieldType.array Jvm.ClassFile.FieldType.byte)), Jvm.Cond.code ({ cls := "java/lang/StringUTF16", name := "newBytesFor", desc := "(I)[B" } : Jvm.MethodName) jdk_52_method_2_code (1 : Nat) (Option.some (Jvm.ClassFile.FieldType.array Jvm.ClassFile.FieldType.byte)), Jvm.Cond.code ({ cls := "java/lang/StringUTF16", name := "newBytesLength", desc := "(I)I" } : Jvm.MethodName) jdk_52_method_3_code (1 : Nat) (Option.some Jvm.ClassFile.FieldType.int), Jvm.Cond.code ({ cls := "java/lang/StringUTF16", name := "putChar", desc := "([BII)V" } : Jvm.MethodName) jdk_52_method_4_code (3 : Nat) (Option.none : Option Jvm.ClassFile.FieldType), Jvm.Cond.code ({ cls := "java/lang/StringUTF16", name := "getChar", desc := "([BI)C" } : Jvm.MethodName) jdk_52_method_5_code (2 : Nat) (Option.some Jvm.ClassFile.FieldType.char), Jvm.Cond.code ({ cls := "java/lang/StringUTF16", name := "coderFromArrayLen", desc := "([BI)B" } : Jvm.MethodName) jdk_52_method_15_code (2 : Nat) (Option.some Jvm.ClassFile.FieldType.byte), Jvm.Cond.code ({ cls := "com/example/bnodiff/bnodiff/model/CodePointOrderComparePinLaw", name := "lo", desc := "(I)C" } : Jvm.MethodName) method_5_code (1 : Nat) (Option.some Jvm.ClassFile.FieldType.char), Jvm.Cond.code ({ cls := "java/lang/String", name := "charAt", desc := "(I)C" } : Jvm.MethodName) jdk_42_method_56_code (2 : Nat) (Option.some Jvm.ClassFile.FieldType.char), Jvm.Cond.code ({ cls := "java/lang/String", name := "isLatin1", desc := "()Z" } : Jvm.MethodName) jdk_42_method_154_code (1 : Nat) (Option.some Jvm.ClassFile.FieldType.boolean), Jvm.Cond.code ({ cls := "java/lang/StringLatin1", name := "charAt", desc := "([BI)C" } : Jvm.MethodName) jdk_43_method_2_code (2 : Nat) (Option.some Jvm.ClassFile.FieldType.char), Jvm.Cond.code ({ cls := "java/lang/String", name := "checkIndex", desc := "(II)V" } : Jvm.MethodName) jdk_42_method_155_code (2 : Nat) (Option.none : Option Jvm.ClassFile.FieldType), Jvm.Cond.code ({ cls := "jdk/internal/util/Preconditions", name := "checkIndex", desc := "(IILjava/util/function/BiFunction;)I" } : Jvm.MethodName) jdk_41_method_11_code (3 : Nat) (Option.some Jvm.ClassFile.FieldType.int), Jvm.Cond.code ({ cls := "java/lang/StringUTF16", name := "charAt", desc := "([BI)C" } : Jvm.MethodName) jdk_52_method_83_code (2 : Nat) (Option.some Jvm.ClassFile.FieldType.char), Jvm.Cond.code ({ cls := "java/lang/StringUTF16", name := "checkIndex", desc := "(I[B)V" } : Jvm.MethodName) jdk_52_method_91_code (2 : Nat) (Option.none : Option Jvm.ClassFile.FieldType), Jvm.Cond.code ({ cls := "java/lang/StringUTF16", name := "length", desc := "([B)I" } : Jvm.MethodName) jdk_52_method_6_code (1 : Nat) (Option.some Jvm.ClassFile.FieldType.int), Jvm.Cond.code ({ cls := "com/example/bnodiff/bnodiff/model/CodePointOrder", name := "rank", desc := "(C)I" } : Jvm.MethodName) prog_43_method_3_code (1 : Nat) (Option.some Jvm.ClassFile.FieldType.int), Jvm.Cond.code ({ cls := "java/lang/Character", name := "isSurrogate", desc := "(C)Z" } : Jvm.MethodName) jdk_89_method_16_code (1 : Nat) (Option.some Jvm.ClassFile.FieldType.boolean)]
set_option maxRecDepth 65536 in
theorem codes_eq : words1.filter isCode = codes1 := rfl
theorem w_codes : ∀ c ∈ words1.filter isCode, c.before args0 about1 = true := by
  rw [codes_eq]
  intro c hc
  simp only [codes1, List.mem_cons, List.not_mem_nil, or_false] at hc
  rcases hc with rfl | rfl | rfl | rfl | rfl | rfl | rfl | rfl | rfl | rfl | rfl | rfl | rfl | rfl | rfl | rfl | rfl | rfl | rfl | rfl | rfl | rfl | rfl | rfl | rfl | rfl | rfl | rfl | rfl | rfl | rfl | rfl
  · exact w_c0
  · exact w_c1
  · exact w_c2
  · exact w_c3
  · exact w_c4
  · exact w_c5
  · exact w_c6
  · exact w_c7
  · exact w_c8
  · exact w_c9
  · exact w_c10
  · exact w_c11
  · exact w_c12
  · exact w_c13
  · exact w_c14
  · exact w_c15
  · exact w_c16
  · exact w_c17
  · exact w_c18
  · exact w_c19
  · exact w_c20
  · exact w_c21
  · exact w_c22
  · exact w_c23
  · exact w_c24
  · exact w_c25
  · exact w_c26
  · exact w_c27
  · exact w_c28
  · exact w_c29
  · exact w_c30
  · exact w_c31
set_option maxRecDepth 65536 in
theorem w_t1 : (words1.take 24).all (fun c => isCode c || c.before args0 about1) = true := by decide +kernel
set_option maxRecDepth 65536 in
theorem w_t2 : ((words1.drop 24).take 24).all (fun c => isCode c || c.before args0 about1) = true := by decide +kernel
set_option maxRecDepth 65536 in
theorem w_t3 : (((words1.drop 24).drop 24).take 24).all (fun c => isCode c || c.before args0 about1) = true := by decide +kernel
set_option maxRecDepth 65536 in
theorem w_t4 : ((((words1.drop 24).drop 24).drop 24).take 24).all (fun c => isCode c || c.before args0 about1) = true := by decide +kernel
set_option maxRecDepth 65536 in
theorem w_t5 : (((((words1.drop 24).drop 24).drop 24).drop 24).take 24).all (fun c => isCode c || c.before args0 about1) = true := by decide +kernel
set_option maxRecDepth 65536 in
theorem w_t6 : (((((words1.drop 24).drop 24).drop 24).drop 24).drop 24).all (fun c => isCode c || c.before args0 about1) = true := by decide +kernel
theorem w_tables : (allAtoms (Jvm.Cond.code x code maxLocals ret :: tables_1)).before args0 about1 = true := by
  rw [allAtoms_all]
  show words1.all (fun c => c.before args0 about1) = true
  refine all_split ?_ w_codes
  rw [← List.take_append_drop 24 words1, List.all_append, w_t1, ← List.take_append_drop 24 (words1.drop 24), List.all_append, w_t2, ← List.take_append_drop 24 ((words1.drop 24).drop 24), List.all_append, w_t3, ← List.take_append_drop 24 (((words1.drop 24).drop 24).drop 24), List.all_append, w_t4, ← List.take_append_drop 24 ((((words1.drop 24).drop 24).drop 24).drop 24), List.all_append, w_t5, w_t6]
  rfl
set_option maxRecDepth 65536 in
theorem w_rest : rest_1_c.before args0 about1 = true := by decide +kernel
set_option maxRecDepth 65536 in
theorem w_case : (Jvm.Cond.and given_1 narrow_1).before args0 about1 = true := by decide +kernel
set_option maxRecDepth 65536 in
theorem w_consts : constsHeld consts_1 about1 := Jvm.Lit.constsHeldB_iff.mp (by decide +kernel)
theorem w_applies : (headSpec (Jvm.Cond.code x code maxLocals ret :: tables_1) room_1).applies x e0.platform about1 = true :=
  (Spec.applies_iff w_frames).mpr ⟨w_running, w_runnable, w_alone, w_named, w_hears, w_ripe, w_room, w_tables⟩
theorem atStart : AtStart classFile x code maxLocals ret World_1 tables_1 room_1 Calls_1 rest_1 Pre_1 launch0 p0 e0 about1 theMethod args0 below0 :=
  ⟨lists_1, trivial, launch0.admits_env _ _ _, launch0.least_env, fairChoices_fair.cas, fairChoices_fair.clock, w_frames, w_args, w_heap, w_applies, ⟨w_consts, trivial⟩, w_rest, w_case⟩
end start1
theorem witness_1 : WitnessClaimed_1 := ⟨start1.p0, start1.e0, start1.about1, start1.theMethod, start1.args0, start1.below0, start1.atStart⟩
end Jvm.Pilot.@@N@@
