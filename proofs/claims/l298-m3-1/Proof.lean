import JvmDerived
import JvmDerived.Pilot.@@N@@Statement
import JvmDerived.Pilot.@@N@@Code
set_option linter.unusedVariables false
set_option linter.unusedSimpArgs false
namespace Jvm.RoadKit
open Sem ClassFile Op Lib Jvm.Stand Jvm.Free Jvm.LawKit
section New
variable {p : Program} {l : Launch} {e : Env} {R : Room} {s : State} {m : MethodId} {args : Array Value} {below : List Frame} {meth : Method} {c : Code} {T : State} {locs : List Loc} {cells slots : Nat}
theorem retI (X : Stand p l e R s m args below meth c T locs cells slots) (hx : p.tables.exec = Jvm.exec) {pc : Nat} {Ls : Array Slot} {z : Int32} {rest : List Value} (hret : meth.sig.returnType = some .int) (hd : decode c.code pc = .ok (.ireturn, 1)) {fs : List Frame}
    (hl : ∀ (f : JFrame) (acts : List Action), f.method = m → f.locked = none → f.entered = [] → (doReturn e (T.setTop f) acts (some (.int z))).1 = T.setFrames fs) : Steps p.tables e below (T.setTop (mkF m pc Ls (.int z :: rest))) (T.setFrames fs) := by
  have hm' : T.vm.method? m = some meth := X.method'
  have hn : narrow .int (.int z) = .int z := rfl
  show Steps p.tables e below (T.setTop { method := m, pc := pc, locals := Ls, stack := _ :: rest, locked := none }) _
  jvm_step X.here [X.here.top, hx, hd, hm', hret, hn]
  first | (intro acts; rw [hl _ acts rfl rfl rfl]) | rw [hl _ _ rfl rfl rfl]
  exact Steps.refl _
end New
end Jvm.RoadKit
namespace Jvm.Pilot.@@N@@
open Jvm Jvm.ClassFile Sem Op Lib Jvm.Free Jvm.Stand Jvm.LawKit Jvm.RoadKit Bundle Jvm.Pilot.@@N@@.Jvm.D
theorem wq {a0 : Array Value} {Z : State} (hw : ∀ d ∈ tables_1, d.before a0 Z = true) (i : Nat) {d : Jvm.Cond} (h : tables_1[i]? = some d) : d.before a0 Z = true := hw d (List.mem_of_getElem? h)
/-- from U the run comes back to its caller; what it returns, the heap and the places written meet Q -/
def Goes (p : Program) (e : Env) (below : List Frame) (s : State) (Q : Option Value → Heap → List Loc → Prop) (C S : Nat) (U : State) : Prop :=
  ∃ s₂ o, Steps p.tables e below U s₂ ∧ s₂.status = .running ∧ Ended s₂ below o ∧ ∃ v L, o = .returned v ∧ Q v s₂.heap L ∧ FrameEnd s o s₂ L C S
section Own
variable {p : Program} {l : Launch} {e : Env} {R : Room} {s : State} {m : MethodId} {args : Array Value} {below : List Frame} {meth : Method} {c : Code} {T : State} {locs : List Loc} {cells slots : Nat} {Q : Option Value → Heap → List Loc → Prop} {C S : Nat} {U U' : State}
theorem Goes.pre (f : ∀ t, Steps p.tables e below U' t → Steps p.tables e below U t) (g : Goes p e below s Q C S U') : Goes p e below s Q C S U := by
  obtain ⟨s₂, o, h1, r⟩ := g
  exact ⟨s₂, o, f _ h1, r⟩
theorem Goes.enter {g g' : JFrame} (q : g = g') (h : Goes p e below s Q C S (U.setTop g')) : Goes p e below s Q C S (U.setTop g) := q ▸ h
theorem Goes.ret (X : Stand p l e R s m args below meth c T locs cells slots) {v : Option Value} (hv : meth.sig.returnType = none → v = none) (hlocks : meth.locks = false) (hc : cells ≤ C) (hs : slots ≤ S) {h : Heap} (eT : T.heap = h)
    (step : ∀ fs, (∀ (f : JFrame) (acts : List Action), f.method = m → f.locked = none → f.entered = [] → (doReturn e (T.setTop f) acts v).1 = T.setFrames fs) → Steps p.tables e below U (T.setFrames fs)) (q : Q v h locs) : Goes p e below s Q C S U := by
  obtain ⟨fs, hr, hrun, hended, hW, hsame⟩ := X.leave hv hlocks
  refine ⟨_, _, step fs hr, hrun, hended, _, _, rfl, ?_, ⟨_, rfl⟩, hW, hsame.mono hc hs⟩
  show Q v T.heap locs
  rw [eT]
  exact q
end Own
abbrev Rm (f c s l : Nat) : Room := { frames := f, cells := c, slots := s, locals := l }
/-- the contract of a body: called with these values at the heap h0, it comes back and Q holds of what it leaves -/
abbrev Met (l : Launch) (Z : State) (y : MethodName) (bytes : ByteArray) (maxL : Nat) (ret : Option FieldType) (ws : List Jvm.Cond) (rm : Room) (as' : Array Value) (h0 : Heap) (Q : Option Value → Heap → List Loc → Prop) : Prop :=
  MetFree l y (head1 (Jvm.Cond.code y bytes maxL ret :: ws) rm) (fun argv U => argv = as' ∧ Z.Warmed39 U.vm ∧ U.heap = h0) (fun _ _ _ _ _ => True) (fun _ U o U' => ∃ v L, o = .returned v ∧ Q v U'.heap L ∧ FrameEnd U o U' L rm.cells rm.slots)
theorem met_of {l : Launch} {Z : State} {y : MethodName} {bytes : ByteArray} {maxL : Nat} {ret : Option FieldType} {ws : List Jvm.Cond} {rm : Room} {as' : Array Value} {h0 : Heap} {Q : Option Value → Heap → List Loc → Prop} {L0 : Array Slot} {own : String}
    (hp : plainFor y = true) (ho : y.cls = own) (ef : ∀ m, entryFrame m as' maxL = mkF m 0 L0 [])
    (body : ∀ (p : Program) (e : Env) (s : State) (m : MethodId) (below : List Frame) (meth : Method) (c : Code) (s₁ : State), p.tables.exec = Jvm.exec → c.code = bytes → c.maxLocals = maxL → s.vm.findClass own = some m.cls → meth.name = y.name → Z.Warmed39 s.vm → Stand p l e rm s m as' below meth c s₁ [] 0 0 → s₁.heap = h0 → meth.sig.returnType = ret → meth.locks = false → Goes p e below s Q rm.cells rm.slots (s₁.setTop (mkF m 0 L0 []))) :
    Met l Z y bytes maxL ret ws rm as' h0 Q := by
  refine MetFree.of_bodySF hp hisR ?_
  intro p e s m args below meth c s₁ Bd hml0 hP hK
  obtain ⟨rfl, hZ, hh⟩ := hP
  refine Goes.enter (ef m) (body p e s m below meth c s₁ Bd.exec Bd.bytes hml0 (ho ▸ findClass_of_methodNamed Bd.named) (name_of_methodNamed Bd.named Bd.method).1 hZ (Stand.of_body Bd) (by rw [← hh, Bd.state]; rfl) Bd.returns Bd.notSynchronized)
theorem own_lsw {tb : Tables} [Ours tb] {e : Env} {below : List Frame} {T target : State} {m : MethodId} {c : Code} {g : JFrame} (h : At T m c below) (hx : tb.exec = Jvm.exec) (hg : g.method = m) {dflt : Int} {prs : Array (Int × Int)} {len : Nat} {o : Int} {pc0 pc' : Nat} (hpc : g.pc = pc0) (hd : decode c.code g.pc = .ok (.lookupswitch dflt prs, len)) {i : Int32} {rest : List Value} (hs : g.stack = .int i :: rest)
    (hso : ∀ (a b a_1 b_1 : Int), ((a, b), a_1, b_1) ∈ prs.toList.zip prs.toList.tail → a < a_1) (hoff : lookupswitch.offset prs.toList dflt i.toInt = o) (ho : 0 ≤ (pc0 : Int) + o) (hp : ((pc0 : Int) + o).toNat = pc')
    (hr : Steps tb e below (T.setTop { g with pc := pc', stack := rest }) target) : Steps tb e below (T.setTop g) target := by
  subst hg hpc hp
  jvm_step h [h.top, hx, hd, hs, lookupswitch.wp_chain, hoff, ho]
  exact ⟨hso, hr⟩
abbrev sI (x : Int32) : Slot := .val (.int x)
abbrev sR (a : Addr) : Slot := .val (.ref a)
abbrev B1 : ByteArray := method_3_code
abbrev B2 : ByteArray := jdk_42_method_3_code
abbrev B3 : ByteArray := jdk_42_method_149_code
abbrev B5 : ByteArray := prog_54_method_2_code
abbrev B6 : ByteArray := jdk_42_method_54_code
abbrev B7 : ByteArray := jdk_42_method_152_code
abbrev B8 : ByteArray := jdk_67_method_2_code
abbrev B9 : ByteArray := jdk_68_method_2_code
abbrev B10 : ByteArray := jdk_67_method_14_code
abbrev B11 : ByteArray := jdk_68_method_31_code
abbrev B12 : ByteArray := jdk_68_method_9_code
abbrev B13 : ByteArray := jdk_68_method_68_code
abbrev B14 : ByteArray := jdk_43_method_3_code
abbrev B15 : ByteArray := jdk_67_method_42_code
abbrev B16 : ByteArray := jdk_42_method_53_code
abbrev B17 : ByteArray := jdk_42_method_150_code
abbrev B18 : ByteArray := jdk_68_method_64_code
abbrev B19 : ByteArray := jdk_67_method_93_code
abbrev B20 : ByteArray := jdk_68_method_6_code
abbrev B21 : ByteArray := jdk_65_method_132_code
abbrev B22 : ByteArray := prog_54_method_1_code
abbrev B23 : ByteArray := prog_54_method_10_code
abbrev B24 : ByteArray := jdk_42_method_56_code
abbrev B25 : ByteArray := jdk_42_method_154_code
abbrev B26 : ByteArray := jdk_43_method_2_code
abbrev B27 : ByteArray := jdk_42_method_155_code
abbrev B28 : ByteArray := jdk_41_method_11_code
abbrev B29 : ByteArray := jdk_52_method_16_code
abbrev B30 : ByteArray := jdk_52_method_21_code
abbrev B31 : ByteArray := jdk_52_method_15_code
abbrev B32 : ByteArray := jdk_42_method_79_code
abbrev B33 : ByteArray := jdk_42_method_80_code
abbrev B34 : ByteArray := jdk_43_method_22_code
abbrev B35 : ByteArray := jdk_43_method_4_code
abbrev B36 : ByteArray := jdk_29_method_65_code
abbrev B37 : ByteArray := jdk_29_method_69_code
abbrev B38 : ByteArray := jdk_43_method_23_code
abbrev B39 : ByteArray := method_5_code
abbrev B40 : ByteArray := method_4_code
abbrev B41 : ByteArray := method_7_code
abbrev B42 : ByteArray := jdk_67_method_7_code
abbrev B43 : ByteArray := jdk_68_method_22_code
abbrev B44 : ByteArray := jdk_68_method_10_code
abbrev B45 : ByteArray := jdk_48_method_27_code
abbrev B46 : ByteArray := jdk_65_method_121_code
abbrev B47 : ByteArray := jdk_68_method_73_code
abbrev B48 : ByteArray := jdk_68_method_71_code
abbrev B49 : ByteArray := jdk_42_method_147_code
abbrev B50 : ByteArray := method_6_code
abbrev B51 : ByteArray := jdk_52_method_14_code
abbrev B52 : ByteArray := jdk_52_method_2_code
abbrev B53 : ByteArray := jdk_52_method_3_code
abbrev B54 : ByteArray := jdk_52_method_4_code
abbrev B55 : ByteArray := jdk_52_method_5_code
abbrev B56 : ByteArray := jdk_52_method_83_code
abbrev B57 : ByteArray := jdk_52_method_91_code
abbrev B58 : ByteArray := jdk_52_method_6_code
abbrev B59 : ByteArray := jdk_68_method_11_code
abbrev B60 : ByteArray := jdk_43_method_50_code
abbrev B61 : ByteArray := jdk_52_method_86_code
abbrev B62 : ByteArray := jdk_52_method_94_code
abbrev B63 : ByteArray := jdk_42_method_157_code
abbrev B64 : ByteArray := jdk_41_method_13_code
abbrev B65 : ByteArray := jdk_52_method_71_code
abbrev B66 : ByteArray := jdk_65_method_133_code
abbrev B67 : ByteArray := jdk_65_method_131_code
abbrev OCS (Z : State) (v : Value) : Prop := Sta Z Z.heap "java/lang/String" "COMPACT_STRINGS" "Z" v
abbrev OAD (Z : State) (v : Value) : Prop := Sta Z Z.heap "java/lang/StringUTF16" "$assertionsDisabled" "Z" v
abbrev OHI (Z : State) (v : Value) : Prop := Sta Z Z.heap "java/lang/StringUTF16" "HI_BYTE_SHIFT" "I" v
abbrev OLO (Z : State) (v : Value) : Prop := Sta Z Z.heap "java/lang/StringUTF16" "LO_BYTE_SHIFT" "I" v
abbrev OSF (Z : State) (v : Value) : Prop := Sta Z Z.heap "jdk/internal/util/Preconditions" "SIOOBE_FORMATTER" "Ljava/util/function/BiFunction;" v
/-- as Goes, for a walk that may load String constants cold: the end is the wide one, and the constants' book goes on -/
def GoesW (p : Program) (e : Env) (below : List Frame) (s Z : State) (EL : List (String × Nat)) (Q : Option Value → Heap → List Loc → Prop) (C S : Nat) (U : State) : Prop :=
  ∃ s₂ o, Steps p.tables e below U s₂ ∧ s₂.status = .running ∧ Ended s₂ below o ∧ ∃ v L, o = .returned v ∧ Q v s₂.heap L ∧ CHr Z EL s.vm s.heap s₂.vm s₂.heap ∧ ReturnedEndW s o s₂ L C S
section OwnW
variable {p : Program} {l : Launch} {e : Env} {R : Room} {s Z : State} {m : MethodId} {args a0 : Array Value} {below : List Frame} {meth : Method} {c : Code} {T : State} {locs : List Loc} {cells slots : Nat} {Q : Option Value → Heap → List Loc → Prop} {C S : Nat} {U U' : State} {EL : List (String × Nat)} {vm0 : Vm} {h : Heap}
theorem GoesW.pre (f : ∀ t, Steps p.tables e below U' t → Steps p.tables e below U t) (g : GoesW p e below s Z EL Q C S U') : GoesW p e below s Z EL Q C S U := by
  obtain ⟨s₂, o, h1, r⟩ := g
  exact ⟨s₂, o, f _ h1, r⟩
theorem GoesW.enter {g g' : JFrame} (q : g = g') (h : GoesW p e below s Z EL Q C S (U.setTop g')) : GoesW p e below s Z EL Q C S (U.setTop g) := q ▸ h
theorem GoesW.ret (X : Stand p l e R (s.setVm vm0) m args below meth c T locs cells slots) {k0 : Nat} (hZ : Z.Warmed39 (s.setVm vm0).vm) (hEL : EW Z a0 EL) (hS : s.Since vm0 k0) (hk : k0 ≤ h.size) (H : CHv Z EL vm0 h) (CR : CHr Z EL s.vm s.heap vm0 h) {v : Option Value} (hv : meth.sig.returnType = none → v = none) (hlocks : meth.locks = false) (hc : cells ≤ C) (hs : slots ≤ S) (eT : T.heap = h)
    (step : ∀ fs, (∀ (f : JFrame) (acts : List Action), f.method = m → f.locked = none → f.entered = [] → (doReturn e (T.setTop f) acts v).1 = T.setFrames fs) → Steps p.tables e below U (T.setFrames fs)) (q : Q v h locs) : GoesW p e below s Z EL Q C S U := by
  obtain ⟨fs, hr, hrun, hended, hW⟩ := X.leaveW hS (by rw [eT]; exact hk) hv hlocks
  refine ⟨_, _, step fs hr, hrun, hended, _, _, rfl, ?_, ?_, hW.1, hW.2.1, hW.2.2.1, hW.2.2.2.mono hc hs⟩
  · show Q v T.heap locs
    rw [eT]
    exact q
  · show CHr Z EL s.vm s.heap T.vm T.heap
    rw [eT]
    exact CR.trans (CHv.at X hZ hEL H)
abbrev MetW (l : Launch) (Z : State) (EL : List (String × Nat)) (y : MethodName) (bytes : ByteArray) (maxL : Nat) (ret : Option FieldType) (ws : List Jvm.Cond) (rm : Room) (as' : Array Value) (sf : List Addr) (h0 : Heap) (Q : Option Value → Heap → List Loc → Prop) : Prop :=
  MetFree l y (head1 (Jvm.Cond.code y bytes maxL ret :: ws) rm) (fun argv U => argv = as' ∧ Z.Warmed39 U.vm ∧ U.heap = h0 ∧ CHv Z EL U.vm h0 ∧ ∀ x ∈ sf, Safe Z EL U.vm h0 x) (fun _ _ _ _ _ => True) (fun _ U o U' => ∃ v L, o = .returned v ∧ Q v U'.heap L ∧ CHr Z EL U.vm U.heap U'.vm U'.heap ∧ ReturnedEndW U o U' L rm.cells rm.slots)
theorem metW_of {y : MethodName} {bytes : ByteArray} {maxL : Nat} {ret : Option FieldType} {ws : List Jvm.Cond} {rm : Room} {as' : Array Value} {sf : List Addr} {h0 : Heap} {L0 : Array Slot} {own : String}
    (hp : plainFor y = true) (ho : y.cls = own) (ef : ∀ m, entryFrame m as' maxL = mkF m 0 L0 [])
    (body : ∀ (p : Program) (e : Env) (s : State) (m : MethodId) (below : List Frame) (meth : Method) (c : Code) (s₁ : State), p.tables.exec = Jvm.exec → c.code = bytes → c.maxLocals = maxL → (s.setVm s.vm).vm.findClass own = some m.cls → meth.name = y.name → Z.Warmed39 (s.setVm s.vm).vm → Stand p l e rm (s.setVm s.vm) m as' below meth c s₁ [] 0 0 → s₁.heap = h0 → meth.sig.returnType = ret → meth.locks = false → CHv Z EL s.vm h0 → (∀ x ∈ sf, Safe Z EL s.vm h0 x) → CHr Z EL s.vm s.heap s.vm h0 → s.Since s.vm h0.size → GoesW p e below s Z EL Q rm.cells rm.slots (s₁.setTop (mkF m 0 L0 []))) :
    MetW l Z EL y bytes maxL ret ws rm as' sf h0 Q := by
  refine MetFree.of_bodySF hp hisR ?_
  intro p e s m args below meth c s₁ Bd hml0 hP hK
  obtain ⟨rfl, hZ, hh, H, hSf⟩ := hP
  refine GoesW.enter (ef m) (body p e s m below meth c s₁ Bd.exec Bd.bytes hml0 (ho ▸ findClass_of_methodNamed Bd.named) (name_of_methodNamed Bd.named Bd.method).1 hZ (Stand.of_body Bd) (by rw [← hh, Bd.state]; rfl) Bd.returns Bd.notSynchronized H hSf (by rw [hh]; exact CHr.refl H) ((State.WarmedH.refl s).since _))
theorem own_backSH {y : MethodName} {bytes : ByteArray} {maxL : Nat} {ret : Option FieldType} {rm : Room} {len W : Nat} {as' : Array Value} {sf : List Addr}
    (hM : MetFree l y (head1 [Cond.code y bytes maxL ret] rm) (fun argv U => argv = as' ∧ Z.Warmed39 U.vm ∧ U.heap = h ∧ CHv Z EL U.vm h ∧ ∀ x ∈ sf, Safe Z EL U.vm h x) (fun _ _ _ _ _ => True) (fun _ U o U' => ∃ v L, o = .returned v ∧ Q v U'.heap L ∧ CHr Z EL U.vm U.heap U'.vm U'.heap ∧ ReturnedEndW U o U' L rm.cells rm.slots))
    (hZ : Z.Warmed39 (s.setVm vm0).vm) (wc : (Cond.code y bytes maxL ret).before a0 Z = true) (wz : (Cond.initialized y.cls).before a0 Z = true) (hf : rm.frames + 1 ≤ R.frames) (hl : W + (maxL + 11) + rm.locals ≤ R.locals) (hEL : EW Z a0 EL) (H : CHv Z EL vm0 h) (hs : ∀ x ∈ sf, Safe Z EL vm0 h x ∧ x < h.size) :
    BackS l R p e below (s.setVm vm0) args y len W (fun A a => a = as' ∧ A.U.heap = h ∧ A.cells + rm.cells ≤ R.cells ∧ A.slots + rm.slots ≤ R.slots)
      (fun A _ v B => ∃ L, Q v B.U.heap L ∧ B.locs = A.locs ++ L ∧ B.cells = A.cells + rm.cells ∧ B.slots = A.slots + rm.slots ∧ CHr Z EL vm0 h B.U.vm B.U.heap) := by
  refine BackS.of_freeW (bytes := bytes) (maxL := maxL) (ret := ret) (E := fun _ first o t L k n => k = rm.cells ∧ n = rm.slots ∧ (∃ v, o = .returned v ∧ Q v t.heap L) ∧ CHr Z EL first.vm first.heap t.vm t.heap) hM hf hl ?_ ?_ (fun _ _ _ _ _ _ _ _ _ => trivial) ?_ ?_
  · intro m meth c A a Y hp
    have hU : Z.Warmed39 A.U.vm := wtrans (s := s.setVm vm0) hZ Y.warmed
    exact ⟨by show (Cond.and _ .tt).before a A.U = true; rw [Cond.before_and, mv hU wc]; rfl, mv hU wc, mv hU wz, hp.2.2.1, hp.2.2.2⟩
  · intro m meth c A a g mk Y hp
    have q := CHv.at Y hZ hEL H
    exact ⟨hp.1, wtrans (s := s.setVm vm0) hZ Y.warmed, hp.2.1, q.1, fun x hx => q.safe (hs x hx).2 (hs x hx).1⟩
  · intro _ _ _ _ z
    obtain ⟨v, L, h1, h2, h3, h4⟩ := z
    exact ⟨L, _, _, h4, rfl, rfl, ⟨v, h1, h2⟩, h3⟩
  · intro m meth c A a g mk v t L k n Y hp _ _ z
    obtain ⟨e1, e2, ⟨v', e3, e4⟩, e5⟩ := z
    cases e3
    subst e1 e2
    refine ⟨L, e4, rfl, rfl, rfl, (CHv.at Y hZ hEL H).trans ?_⟩
    rw [← hp.2.1]
    exact e5
theorem own_since (s : State) (n : Nat) : s.Since s.vm n := (State.WarmedH.refl s).since n
theorem own_found {vm1 : Vm} {own : String} {k : ClassId} {n : Nat} (hS : (s.setVm vm0).Since vm1 n) (hown : (s.setVm vm0).vm.findClass own = some k) : (s.setVm vm1).vm.findClass own = some k := by
  show vm1.findClass own = some k
  rw [hS.1.alike.findClass]
  exact hown
end OwnW
abbrev own_EL : List (String × Nat) := [("com/example/bnodiff/bnodiff/model/Term", 32), ("com/example/bnodiff/bnodiff/model/Term", 38), ("com/example/bnodiff/bnodiff/model/Term", 43), ("java/lang/String", 7)]
theorem own_atoms {a0 : Array Value} {Z : State} (hw : ∀ d ∈ tables_1, d.before a0 Z = true) : ∀ a ∈ Bundle.stringAtoms, a.before a0 Z = true := by
  intro a ha
  simp only [Bundle.stringAtoms, Bundle.sN, List.mem_cons, List.not_mem_nil, or_false] at ha
  rcases ha with rfl | rfl | rfl | rfl | rfl | rfl | rfl
  · exact (wq hw 8 rfl)
  · exact (wq hw 7 rfl)
  · exact (wq hw 21 rfl)
  · exact (wq hw 22 rfl)
  · exact (wq hw 23 rfl)
  · exact (wq hw 24 rfl)
  · exact (wq hw 25 rfl)
theorem own_bb (x : Int32) : nar .byte x.toInt8.toInt32 = x.toInt8.toInt32 := by
  show x.toInt8.toInt32.toInt8.toInt32 = x.toInt8.toInt32
  rw [Int8.toInt8_toInt32]
def OwnCh (c : Int32) : Prop := 0 ≤ c.toInt ∧ c.toInt < 65536
def OwnStr (Z : State) (h : Heap) (r b : Addr) (kb : ClassId) (cs : List Int32) : Prop :=
  Exa Z h r "java/lang/String" ∧ Fld Z h r "java/lang/String" "value" "[B" (.ref b) ∧ (∀ c ∈ cs, OwnCh c) ∧
  ((Fld Z h r "java/lang/String" "coder" "B" (.int (0 : Int32)) ∧ Arv Z h b kb .byte (Int32.ofNat cs.length) (cs.map fun c => .int c.toInt8.toInt32) (.int (0 : Int32)) ∧ ∀ c ∈ cs, ¬ ((255 : Int32) < c)) ∨
   (Fld Z h r "java/lang/String" "coder" "B" (.int (1 : Int32)) ∧ Arv Z h b kb .byte (Int32.ofNat (2 * cs.length)) (cs.flatMap fun c => [.int (c >>> ((0 : Int32) &&& 31)).toInt8.toInt32, .int (c >>> ((8 : Int32) &&& 31)).toInt8.toInt32]) (.int (0 : Int32)) ∧ ∃ c ∈ cs, (255 : Int32) < c))
theorem OwnStr.ext {Z : State} {h h' : Heap} {r b : Addr} {kb : ClassId} {cs : List Int32} (F : OwnStr Z h r b kb cs) (E : Ext h h') : OwnStr Z h' r b kb cs := by
  obtain ⟨e1, f1, g, q⟩ := F
  refine ⟨e1.ext E, f1.ext E, g, ?_⟩
  rcases q with ⟨q1, q2, q3⟩ | ⟨q1, q2, q3⟩
  · exact Or.inl ⟨q1.ext E, q2.ext E, q3⟩
  · exact Or.inr ⟨q1.ext E, q2.ext E, q3⟩
theorem OwnStr.keep {Z : State} {h h' : Heap} {r b : Addr} {kb : ClassId} {cs : List Int32} {ws : List Addr} (F : OwnStr Z h r b kb cs) (K : Keep h h' ws) (n1 : r ∉ ws) (n2 : b ∉ ws) : OwnStr Z h' r b kb cs := by
  obtain ⟨e1, f1, g, q⟩ := F
  refine ⟨e1.keep K, f1.keep K n1, g, ?_⟩
  rcases q with ⟨q1, q2, q3⟩ | ⟨q1, q2, q3⟩
  · exact Or.inl ⟨q1.keep K n1, q2.keep K n2, q3⟩
  · exact Or.inr ⟨q1.keep K n1, q2.keep K n2, q3⟩
theorem OwnStr.lt {Z : State} {h : Heap} {r b : Addr} {kb : ClassId} {cs : List Int32} (F : OwnStr Z h r b kb cs) : r < h.size := F.1.lt
theorem OwnStr.ltb {Z : State} {h : Heap} {r b : Addr} {kb : ClassId} {cs : List Int32} (F : OwnStr Z h r b kb cs) : b < h.size := by
  obtain ⟨e1, f1, g, q⟩ := F
  rcases q with ⟨q1, q2, q3⟩ | ⟨q1, q2, q3⟩ <;> exact q2.lt
theorem own_l1 (c : Int32) (h0 : OwnCh c) (h1 : ¬ ((255 : Int32) < c)) : nar .char (c.toInt8.toInt32 &&& (255 : Int32)).toUInt32.toUInt16.toUInt32.toInt32 = c := by
  have k : (255 : Int32).toInt = 255 := by decide
  rw [Int32.lt_iff_toInt_lt, k] at h1
  obtain ⟨h0, -⟩ := h0
  have a1 := c_i2b c
  have a2 := c_mask c.toInt8.toInt32 255 8 (by decide) (by decide)
  have a3 := c_i2c (c.toInt8.toInt32 &&& 255)
  have a4 := c_i2c (c.toInt8.toInt32 &&& (255 : Int32)).toUInt32.toUInt16.toUInt32.toInt32
  apply Int32.toInt_inj.mp
  show ((c.toInt8.toInt32 &&& (255 : Int32)).toUInt32.toUInt16.toUInt32.toInt32.toUInt32.toUInt16.toUInt32.toInt32).toInt = c.toInt
  omega
theorem own_u16 (c : Int32) (h0 : OwnCh c) : nar .char ((((c >>> ((0 : Int32) &&& 31)).toInt8.toInt32 &&& (255 : Int32)) <<< ((0 : Int32) &&& 31)) ||| (((c >>> ((8 : Int32) &&& 31)).toInt8.toInt32 &&& (255 : Int32)) <<< ((8 : Int32) &&& 31))).toUInt32.toUInt16.toUInt32.toInt32 = c := by
  obtain ⟨h0, h1⟩ := h0
  have s0 := c_ishr c 0 0 (by decide)
  have s8 := c_ishr c 8 8 (by decide)
  generalize c >>> ((0 : Int32) &&& 31) = x at *
  generalize c >>> ((8 : Int32) &&& 31) = y at *
  have a1 := c_i2b x
  have b1 := c_i2b y
  have a2 := c_mask x.toInt8.toInt32 255 8 (by decide) (by decide)
  have b2 := c_mask y.toInt8.toInt32 255 8 (by decide) (by decide)
  generalize x.toInt8.toInt32 &&& (255 : Int32) = u at *
  generalize y.toInt8.toInt32 &&& (255 : Int32) = v at *
  have a3 := c_ishl u 0 0 (by decide)
  have b3 := c_ishl v 8 8 (by decide)
  have r1 := rng32 (u <<< ((0 : Int32) &&& 31))
  have r2 := rng32 (v <<< ((8 : Int32) &&& 31))
  generalize u <<< ((0 : Int32) &&& 31) = u' at *
  generalize v <<< ((8 : Int32) &&& 31) = v' at *
  have o := c_or' u' v' 8 (by decide) 256 (by decide) (by omega) (by omega) (by omega)
  have r3 := rng32 (u' ||| v')
  generalize u' ||| v' = t at *
  have a5 := c_i2c t
  have a6 := c_i2c t.toUInt32.toUInt16.toUInt32.toInt32
  apply Int32.toInt_inj.mp
  show (t.toUInt32.toUInt16.toUInt32.toInt32.toUInt32.toUInt16.toUInt32.toInt32).toInt = c.toInt
  omega
theorem own_chr (x : Int32) : nar .char x.toUInt32.toUInt16.toUInt32.toInt32 = x.toUInt32.toUInt16.toUInt32.toInt32 := by
  have a5 := c_i2c x
  have a6 := c_i2c x.toUInt32.toUInt16.toUInt32.toInt32
  apply Int32.toInt_inj.mp
  show (x.toUInt32.toUInt16.toUInt32.toInt32.toUInt32.toUInt16.toUInt32.toInt32).toInt = _
  omega
theorem own_nch (c : Int32) (h : OwnCh c) : nar .char c = c := by
  obtain ⟨h0, h1⟩ := h
  have a5 := c_i2c c
  apply Int32.toInt_inj.mp
  show (c.toUInt32.toUInt16.toUInt32.toInt32).toInt = c.toInt
  omega
theorem own_nat (i : Int32) (h : ¬ (i < (0 : Int32))) : (i.toNatClampNeg : Int) = i.toInt := (nat_of h).symm
theorem own_ofn (n : Nat) (h : n ≤ 8192) : (Int32.ofNat n).toInt = n := len_toInt (by omega)
theorem own_lt (cl : List Int32) (i : Int32) (h1 : ¬ (i < (0 : Int32))) (h2 : i < Int32.ofNat cl.length) (hl : cl.length ≤ 4096) : i.toNatClampNeg < cl.length := by
  have a := own_nat i h1
  have b := own_ofn cl.length (by omega)
  rw [Int32.lt_iff_toInt_lt] at h2
  omega
theorem own_len0 (cl : List Int32) (h : cl.length ≤ 4096) : Int32.ofNat cl.length = (Int32.ofNat cl.length) >>> ((0 : Int32) &&& 31) := by
  have a := c_ishr (Int32.ofNat cl.length) 0 0 (by decide)
  apply Int32.toInt_inj.mp
  omega
theorem own_len1 (cl : List Int32) (h : cl.length ≤ 4096) : Int32.ofNat cl.length = (Int32.ofNat (2 * cl.length)) >>> ((1 : Int32) &&& 31) := by
  have a := c_ishr (Int32.ofNat (2 * cl.length)) 1 1 (by decide)
  have b := own_ofn (2 * cl.length) (by omega)
  have d := own_ofn cl.length (by omega)
  apply Int32.toInt_inj.mp
  omega
theorem own_gD (cl : List Int32) (i : Int32) (h1 : ¬ (i < (0 : Int32))) (h2 : i < Int32.ofNat cl.length) (hl : cl.length ≤ 4096) : cl.getD i.toNatClampNeg 0 ∈ cl := by
  have a := own_lt cl i h1 h2 hl
  rw [List.getD_eq_getElem?_getD, List.getElem?_eq_getElem a]
  exact List.getElem_mem a
theorem own_gch (cl : List Int32) (i : Int32) (h1 : ¬ (i < (0 : Int32))) (h2 : i < Int32.ofNat cl.length) (hl : cl.length ≤ 4096) (hc : ∀ c ∈ cl, OwnCh c) : OwnCh (cl.getD i.toNatClampNeg 0) := hc _ (own_gD cl i h1 h2 hl)
theorem own_gle (cl : List Int32) (i : Int32) (h1 : ¬ (i < (0 : Int32))) (h2 : i < Int32.ofNat cl.length) (hl : cl.length ≤ 4096) (hc : ∀ c ∈ cl, ¬ ((255 : Int32) < c)) : ¬ ((255 : Int32) < cl.getD i.toNatClampNeg 0) := hc _ (own_gD cl i h1 h2 hl)
theorem own_atL (cl : List Int32) (i : Int32) (h1 : ¬ (i < (0 : Int32))) (h2 : i < Int32.ofNat cl.length) (hl : cl.length ≤ 4096) : (cl.map fun c => Value.int c.toInt8.toInt32).getD i.toNatClampNeg (.int (0 : Int32)) = .int (cl.getD i.toNatClampNeg 0).toInt8.toInt32 := by
  have a := own_lt cl i h1 h2 hl
  simp [List.getD_eq_getElem?_getD, a]
theorem own_fm (f g : Int32 → Value) (d : Value) : ∀ (cl : List Int32) (k : Nat), k < cl.length → (cl.flatMap fun c => [f c, g c]).getD (2 * k) d = f (cl.getD k 0) ∧ (cl.flatMap fun c => [f c, g c]).getD (2 * k + 1) d = g (cl.getD k 0)
  | [], k, h => absurd h (Nat.not_lt_zero k)
  | c :: r, 0, _ => ⟨rfl, rfl⟩
  | c :: r, k + 1, h => by
    have q := own_fm f g d r k (Nat.lt_of_succ_lt_succ h)
    have e1 : 2 * (k + 1) = (2 * k + 1) + 1 := by omega
    simp only [List.flatMap_cons, List.cons_append, List.nil_append, e1, List.getD_cons_succ]
    exact q
theorem own_sh2 (i : Int32) (n : Nat) (h1 : ¬ (i < (0 : Int32))) (h2 : i.toInt < n) (hn : n ≤ 4096) : (i <<< ((1 : Int32) &&& 31)).toInt = 2 * i.toInt ∧ ((i <<< ((1 : Int32) &&& 31)) + (1 : Int32)).toInt = 2 * i.toInt + 1 := by
  have a := own_nat i h1
  have b := c_ishl i 1 1 (by decide)
  have r := rng32 (i <<< ((1 : Int32) &&& 31))
  have d := c_iadd (i <<< ((1 : Int32) &&& 31)) 1
  have r2 := rng32 ((i <<< ((1 : Int32) &&& 31)) + (1 : Int32))
  have k : (1 : Int32).toInt = 1 := by decide
  omega
theorem own_in0 (cl : List Int32) (i : Int32) (h1 : ¬ (i < (0 : Int32))) (h2 : i < Int32.ofNat cl.length) (hl : cl.length ≤ 4096) : ¬ ((i <<< ((1 : Int32) &&& 31)) < 0) ∧ (i <<< ((1 : Int32) &&& 31)) < Int32.ofNat (2 * cl.length) := by
  have b := own_ofn cl.length (by omega)
  have b2 := own_ofn (2 * cl.length) (by omega)
  have a := own_nat i h1
  rw [Int32.lt_iff_toInt_lt] at h2
  have q := own_sh2 i cl.length h1 (by omega) hl
  have k0 : (0 : Int32).toInt = 0 := by decide
  rw [Int32.lt_iff_toInt_lt, Int32.lt_iff_toInt_lt]
  omega
theorem own_in1 (cl : List Int32) (i : Int32) (h1 : ¬ (i < (0 : Int32))) (h2 : i < Int32.ofNat cl.length) (hl : cl.length ≤ 4096) : ¬ (((i <<< ((1 : Int32) &&& 31)) + (1 : Int32)) < 0) ∧ ((i <<< ((1 : Int32) &&& 31)) + (1 : Int32)) < Int32.ofNat (2 * cl.length) := by
  have b := own_ofn cl.length (by omega)
  have b2 := own_ofn (2 * cl.length) (by omega)
  have a := own_nat i h1
  rw [Int32.lt_iff_toInt_lt] at h2
  have q := own_sh2 i cl.length h1 (by omega) hl
  have k0 : (0 : Int32).toInt = 0 := by decide
  rw [Int32.lt_iff_toInt_lt, Int32.lt_iff_toInt_lt]
  omega
theorem own_at0 (cl : List Int32) (i : Int32) (h1 : ¬ (i < (0 : Int32))) (h2 : i < Int32.ofNat cl.length) (hl : cl.length ≤ 4096) : (cl.flatMap fun c => [Value.int (c >>> ((0 : Int32) &&& 31)).toInt8.toInt32, Value.int (c >>> ((8 : Int32) &&& 31)).toInt8.toInt32]).getD (i <<< ((1 : Int32) &&& 31)).toNatClampNeg (.int (0 : Int32)) = .int ((cl.getD i.toNatClampNeg 0) >>> ((0 : Int32) &&& 31)).toInt8.toInt32 := by
  have w := own_lt cl i h1 h2 hl
  have q := own_in0 cl i h1 h2 hl
  have b := own_ofn cl.length (by omega)
  have h3 := h2
  rw [Int32.lt_iff_toInt_lt] at h3
  have q2 := own_sh2 i cl.length h1 (by omega) hl
  have e1 := own_nat _ q.1
  have e2 := own_nat i h1
  have e : (i <<< ((1 : Int32) &&& 31)).toNatClampNeg = 2 * i.toNatClampNeg := by omega
  rw [e]
  exact (own_fm (fun c => Value.int (c >>> ((0 : Int32) &&& 31)).toInt8.toInt32) (fun c => Value.int (c >>> ((8 : Int32) &&& 31)).toInt8.toInt32) _ cl _ w).1
theorem own_at1 (cl : List Int32) (i : Int32) (h1 : ¬ (i < (0 : Int32))) (h2 : i < Int32.ofNat cl.length) (hl : cl.length ≤ 4096) : (cl.flatMap fun c => [Value.int (c >>> ((0 : Int32) &&& 31)).toInt8.toInt32, Value.int (c >>> ((8 : Int32) &&& 31)).toInt8.toInt32]).getD ((i <<< ((1 : Int32) &&& 31)) + (1 : Int32)).toNatClampNeg (.int (0 : Int32)) = .int ((cl.getD i.toNatClampNeg 0) >>> ((8 : Int32) &&& 31)).toInt8.toInt32 := by
  have w := own_lt cl i h1 h2 hl
  have q := own_in1 cl i h1 h2 hl
  have b := own_ofn cl.length (by omega)
  have h3 := h2
  rw [Int32.lt_iff_toInt_lt] at h3
  have q2 := own_sh2 i cl.length h1 (by omega) hl
  have e1 := own_nat _ q.1
  have e2 := own_nat i h1
  have e : ((i <<< ((1 : Int32) &&& 31)) + (1 : Int32)).toNatClampNeg = 2 * i.toNatClampNeg + 1 := by omega
  rw [e]
  exact (own_fm (fun c => Value.int (c >>> ((0 : Int32) &&& 31)).toInt8.toInt32) (fun c => Value.int (c >>> ((8 : Int32) &&& 31)).toInt8.toInt32) _ cl _ w).2
theorem own_isch (x : Int32) : OwnCh x.toUInt32.toUInt16.toUInt32.toInt32 := (c_i2c x).2
theorem ef_rm_pcIdx (m : MethodId) (x0 : Int32) (x1 : Int32) (x2 : Value) (hx2 : x2.isRef = true) : entryFrame m #[(.int x0), (.int x1), x2] 3 = mkF m 0 #[sI x0, sI x1, .val x2] [] := by rcases ref_cases hx2 with rfl | ⟨_, rfl⟩ <;> first | (simp [entryFrame, mkF, argsToLocals, Value.category]; done) | rfl
theorem pn_jdk_internal_util_Preconditions : plainName "jdk/internal/util/Preconditions" = true := by first | (simp [plainName, overriddenIn]; done) | decide +kernel
abbrev M28 : MethodName := ⟨"jdk/internal/util/Preconditions", "checkIndex", "(IILjava/util/function/BiFunction;)I"⟩
theorem d28_0 : decode B28 0 = .ok (.iload_n 0, 1) := by decide +kernel
theorem d28_1 : decode B28 1 = .ok (.ifCond .lt 8, 3) := by decide +kernel
theorem d28_4 : decode B28 4 = .ok (.iload_n 0, 1) := by decide +kernel
theorem d28_5 : decode B28 5 = .ok (.iload_n 1, 1) := by decide +kernel
theorem d28_6 : decode B28 6 = .ok (.if_icmp .lt 10, 3) := by decide +kernel
theorem d28_16 : decode B28 16 = .ok (.iload_n 0, 1) := by decide +kernel
theorem d28_17 : decode B28 17 = .ok (.ireturn, 1) := by decide +kernel
def Q_rm_pcIdx (Z : State) (i : Int32) (n : Int32) (sf : Value) (h0 : Heap) (n0 : Nat) (v : Option Value) (h : Heap) (L : List Loc) : Prop := v = some (.int i) ∧ Fr n0 L ∧ h = h0
set_option maxRecDepth 65536 in
set_option maxHeartbeats 40000000 in
theorem rm_pcIdx (l : Launch) (Z : State) (a0 : Array Value) (hw : ∀ d ∈ tables_1, d.before a0 Z = true) (ws : List Jvm.Cond) (i : Int32) (n : Int32) (sf : Value) (h0 : Heap) (n0 : Nat) (Z0 : n0 ≤ h0.size)  (h1 : ¬ (i < (0 : Int32))) (h2 : i < n) (hsf : sf.isRef = true) :
  Met l Z M28 jdk_41_method_11_code 3 (some .int) ws (Rm 0 0 0 0) #[(.int i), (.int n), sf] h0 (Q_rm_pcIdx Z i n sf h0 n0) := by
 refine met_of (plainFor_of_name pn_jdk_internal_util_Preconditions) (own := "jdk/internal/util/Preconditions") rfl (fun m => ef_rm_pcIdx m i n sf hsf) ?_
 intro p e s m below meth c s₁ hx hby hml hown hnm hZ X0 e0 hret hlk
 have N0 := Fr.nil n0
 show Goes p e below s _ _ _ (s₁.setTop (mkF m 0 #[sI i, sI n, .val sf] []))
 refine Goes.pre (U' := s₁.setTop (mkF m 1 #[sI i, sI n, .val sf] [(.int i)])) (fun t k => XS.iloadN X0.here hx rfl (hb hby d28_0) rfl k) ?_
 have hc1 : ¬ (i < (0 : Int32)) := h1
 refine Goes.pre (U' := s₁.setTop (mkF m 6 #[sI i, sI n, .val sf] [(.int n), (.int i)])) (fun t k => XS.ifNo X0.here hx rfl (hb hby d28_1) rfl ((if0 _ _).trans (flt hc1).1) (XS.iloadN X0.here hx rfl (hb hby d28_4) rfl (XS.iloadN X0.here hx rfl (hb hby d28_5) rfl k))) ?_
 have hc6 : i < n := h2
 refine Goes.pre (U' := s₁.setTop (mkF m 17 #[sI i, sI n, .val sf] [(.int i)])) (fun t k => XS.icmpYes X0.here hx rfl (pc0 := 6) (pc' := 16) rfl (hb hby d28_6) rfl (tlt hc6).1 (by decide) (by decide) (XS.iloadN X0.here hx rfl (hb hby d28_16) rfl k)) ?_
 refine Goes.ret X0 (v := (some (.int i))) (fun h => by rw [hret] at h; cases h) hlk (by decide) (by decide) e0 (fun fs hr => retI X0 hx hret (hb hby d28_17) hr) ?_
 exact ⟨rfl, N0, rfl⟩
theorem ef_rm_sIdx (m : MethodId) (x0 : Int32) (x1 : Int32) : entryFrame m #[(.int x0), (.int x1)] 2 = mkF m 0 #[sI x0, sI x1] [] := by first | (simp [entryFrame, mkF, argsToLocals, Value.category]; done) | rfl
theorem pn_java_lang_String : plainName "java/lang/String" = true := by first | (simp [plainName, overriddenIn]; done) | decide +kernel
abbrev M27 : MethodName := ⟨"java/lang/String", "checkIndex", "(II)V"⟩
theorem d27_0 : decode B27 0 = .ok (.iload_n 0, 1) := by decide +kernel
theorem d27_1 : decode B27 1 = .ok (.iload_n 1, 1) := by decide +kernel
theorem d27_2 : decode B27 2 = .ok (.getstatic 1053, 3) := by decide +kernel
theorem d27_5 : decode B27 5 = .ok (.invokestatic 1059, 3) := by decide +kernel
theorem pd__28IILjava_2futil_2ffunction_2fBiFunction_3b_29I : parseMethodDescriptor "(IILjava/util/function/BiFunction;)I" = some ⟨[.int, .int, (.object "java/util/function/BiFunction")], some .int⟩ := by decide +kernel
theorem d27_8 : decode B27 8 = .ok (.pop, 1) := by decide +kernel
theorem d27_9 : decode B27 9 = .ok (.return_, 1) := by decide +kernel
def Q_rm_sIdx (Z : State) (i : Int32) (n : Int32) (sf : Value) (h0 : Heap) (n0 : Nat) (v : Option Value) (h : Heap) (L : List Loc) : Prop := v = none ∧ Fr n0 L ∧ h = h0
set_option maxRecDepth 65536 in
set_option maxHeartbeats 40000000 in
theorem rm_sIdx (l : Launch) (Z : State) (a0 : Array Value) (hw : ∀ d ∈ tables_1, d.before a0 Z = true) (ws : List Jvm.Cond) (i : Int32) (n : Int32) (sf : Value) (h0 : Heap) (n0 : Nat) (Z0 : n0 ≤ h0.size) (sF : OSF Z sf) (h1 : ¬ (i < (0 : Int32))) (h2 : i < n) (hsf : sf.isRef = true) (O : Old Z n0 h0) :
  Met l Z M27 jdk_42_method_155_code 2 none ws (Rm 1 0 0 14) #[(.int i), (.int n)] h0 (Q_rm_sIdx Z i n sf h0 n0) := by
 refine met_of (plainFor_of_name pn_java_lang_String) (own := "java/lang/String") rfl (fun m => ef_rm_sIdx m i n) ?_
 intro p e s m below meth c s₁ hx hby hml hown hnm hZ X0 e0 hret hlk
 have N0 := Fr.nil n0
 show Goes p e below s _ _ _ (s₁.setTop (mkF m 0 #[sI i, sI n] []))
 refine Goes.pre (U' := s₁.setTop (mkF m 2 #[sI i, sI n] [(.int n), (.int i)])) (fun t k => XS.iloadN X0.here hx rfl (hb hby d27_0) rfl (XS.iloadN X0.here hx rfl (hb hby d27_1) rfl k)) ?_
 obtain ⟨T1, X1, e1, st1⟩ := getS2 X0 hx hZ hown (host := "") (Or.inl (wq hw 156 rfl)) Via.refl e0 (sF.ext O.2) (g := (mkF m 2 #[sI i, sI n] [(.int n), (.int i)])) rfl (hb hby d27_2)
 refine Goes.pre (U' := T1.setTop (mkF m 5 #[sI i, sI n] [sf, (.int n), (.int i)])) (fun t k => st1 t k) ?_
 obtain ⟨_, _, ⟨T2, L2, k2, n2⟩, -, X2, ⟨Lc2, hQ2, l2, y2, z2⟩, st2⟩ := Jvm.LawKit.callS X1 hx (y := M28) hown (mvT hZ (wq hw 158 rfl)) (mvT hZ (wq hw 159 rfl)) (mvT hZ (wq hw 157 rfl)) (mvT hZ (wq hw 160 rfl)) (by decide) (backOf (W := 0) (rm_pcIdx l Z a0 hw [] i n sf h0 n0 Z0  h1 h2 hsf) hZ (wq hw 160 rfl) (wq hw 157 rfl) (by decide) (by decide)) (g := (mkF m 5 #[sI i, sI n] [sf, (.int n), (.int i)])) rfl (by rw [hml]; rfl) (argsL := [(.int i), (.int n), sf]) (rest := []) (lenOf pd__28IILjava_2futil_2ffunction_2fBiFunction_3b_29I rfl) rfl (by show 2 * 0 + _ ≤ _; exact Nat.le_of_eq rfl) (hb hby d27_5) (fun _ _ => ⟨rfl, e1, (by decide : 0 + 0 ≤ _), (by decide : 0 + 0 ≤ _)⟩)
 dsimp only [Pt.U, Pt.locs, Pt.cells, Pt.slots] at X2 l2 y2 z2 st2 hQ2
 subst l2 y2 z2
 obtain ⟨rfl, N2q, HQ2⟩ := hQ2
 have N2 := Fr.app N0 N2q
 refine Goes.pre (U' := T2.setTop (mkF m 9 #[sI i, sI n] [])) (fun t k => st2 t (XS.pop X2.here hx rfl (hb hby d27_8) rfl rfl k)) ?_
 refine Goes.ret X2 (v := none) (fun _ => rfl) hlk (by decide) (by decide) HQ2 (fun fs hr => X2.returnOut hx hret (hb hby d27_9) hr) ?_
 exact ⟨rfl, N2, rfl⟩
theorem ef_rm_coder0 (m : MethodId) (x0 : Addr) : entryFrame m #[(.ref x0)] 1 = mkF m 0 #[sR x0] [] := by first | (simp [entryFrame, mkF, argsToLocals, Value.category]; done) | rfl
abbrev M7 : MethodName := ⟨"java/lang/String", "coder", "()B"⟩
theorem d7_0 : decode B7 0 = .ok (.getstatic 38, 3) := by decide +kernel
theorem d7_3 : decode B7 3 = .ok (.ifCond .eq 10, 3) := by decide +kernel
theorem d7_6 : decode B7 6 = .ok (.aload_n 0, 1) := by decide +kernel
theorem d7_7 : decode B7 7 = .ok (.getfield 15, 3) := by decide +kernel
theorem d7_10 : decode B7 10 = .ok (.goto 4, 3) := by decide +kernel
theorem d7_14 : decode B7 14 = .ok (.ireturn, 1) := by decide +kernel
def Q_rm_coder0 (Z : State) (a : Addr) (cs : Int32) (h0 : Heap) (n0 : Nat) (v : Option Value) (h : Heap) (L : List Loc) : Prop := v = some (.int (0 : Int32)) ∧ Fr n0 L ∧ h = h0
set_option maxRecDepth 65536 in
set_option maxHeartbeats 40000000 in
theorem rm_coder0 (l : Launch) (Z : State) (a0 : Array Value) (hw : ∀ d ∈ tables_1, d.before a0 Z = true) (ws : List Jvm.Cond) (a : Addr) (cs : Int32) (h0 : Heap) (n0 : Nat) (Z0 : n0 ≤ h0.size) (sC : OCS Z (.int cs)) (Fc_a : Fld Z h0 a "java/lang/String" "coder" "B" (.int (0 : Int32))) (hcs : ¬ (cs = (0 : Int32))) (O : Old Z n0 h0) :
  Met l Z M7 jdk_42_method_152_code 1 (some .byte) ws (Rm 0 0 0 0) #[(.ref a)] h0 (Q_rm_coder0 Z a cs h0 n0) := by
 refine met_of (plainFor_of_name pn_java_lang_String) (own := "java/lang/String") rfl (fun m => ef_rm_coder0 m a) ?_
 intro p e s m below meth c s₁ hx hby hml hown hnm hZ X0 e0 hret hlk
 have N0 := Fr.nil n0
 show Goes p e below s _ _ _ (s₁.setTop (mkF m 0 #[sR a] []))
 obtain ⟨T1, X1, e1, st1⟩ := getS2 X0 hx hZ hown (host := "") (Or.inl (wq hw 45 rfl)) Via.refl e0 (sC.ext O.2) (g := (mkF m 0 #[sR a] [])) rfl (hb hby d7_0)
 refine Goes.pre (U' := T1.setTop (mkF m 3 #[sR a] [(.int cs)])) (fun t k => st1 t k) ?_
 have hc3 : ¬ (cs = (0 : Int32)) := hcs
 refine Goes.pre (U' := T1.setTop (mkF m 7 #[sR a] [(.ref a)])) (fun t k => XS.ifNo X1.here hx rfl (hb hby d7_3) rfl ((if0 _ _).trans (feq hc3).1) (XS.aloadN X1.here hx rfl (hb hby d7_6) rfl rfl k)) ?_
 obtain ⟨T2, X2, e2, st2⟩ := getF X1 hx hZ hown (host := "") (Or.inl (wq hw 27 rfl)) Via.refl e1 Fc_a (g := (mkF m 7 #[sR a] [(.ref a)])) rfl rfl (hb hby d7_7)
 refine Goes.pre (U' := T2.setTop (mkF m 14 #[sR a] [(.int (0 : Int32))])) (fun t k => st2 t (XS.goto X2.here hx rfl (pc0 := 10) (pc' := 14) rfl (hb hby d7_10) (by decide) (by decide) k)) ?_
 refine Goes.ret X2 (v := (some (.int (0 : Int32)))) (fun h => by rw [hret] at h; cases h) hlk (by decide) (by decide) e2 (fun fs hr => retN X2 hx (t := .byte) hret (by simp) (hb hby d7_14) hr) ?_
 exact ⟨rfl, N0, rfl⟩
theorem ef_rm_isL0 (m : MethodId) (x0 : Addr) : entryFrame m #[(.ref x0)] 1 = mkF m 0 #[sR x0] [] := by first | (simp [entryFrame, mkF, argsToLocals, Value.category]; done) | rfl
abbrev M25 : MethodName := ⟨"java/lang/String", "isLatin1", "()Z"⟩
theorem d25_0 : decode B25 0 = .ok (.getstatic 38, 3) := by decide +kernel
theorem d25_3 : decode B25 3 = .ok (.ifCond .eq 14, 3) := by decide +kernel
theorem d25_6 : decode B25 6 = .ok (.aload_n 0, 1) := by decide +kernel
theorem d25_7 : decode B25 7 = .ok (.getfield 15, 3) := by decide +kernel
theorem d25_10 : decode B25 10 = .ok (.ifCond .ne 7, 3) := by decide +kernel
theorem d25_13 : decode B25 13 = .ok (.iconst 1, 1) := by decide +kernel
theorem d25_14 : decode B25 14 = .ok (.goto 4, 3) := by decide +kernel
theorem d25_18 : decode B25 18 = .ok (.ireturn, 1) := by decide +kernel
def Q_rm_isL0 (Z : State) (a : Addr) (cs : Int32) (h0 : Heap) (n0 : Nat) (v : Option Value) (h : Heap) (L : List Loc) : Prop := v = some (.int (1 : Int32)) ∧ Fr n0 L ∧ h = h0
set_option maxRecDepth 65536 in
set_option maxHeartbeats 40000000 in
theorem rm_isL0 (l : Launch) (Z : State) (a0 : Array Value) (hw : ∀ d ∈ tables_1, d.before a0 Z = true) (ws : List Jvm.Cond) (a : Addr) (cs : Int32) (h0 : Heap) (n0 : Nat) (Z0 : n0 ≤ h0.size) (sC : OCS Z (.int cs)) (Fc_a : Fld Z h0 a "java/lang/String" "coder" "B" (.int (0 : Int32))) (hcs : ¬ (cs = (0 : Int32))) (O : Old Z n0 h0) :
  Met l Z M25 jdk_42_method_154_code 1 (some .boolean) ws (Rm 0 0 0 0) #[(.ref a)] h0 (Q_rm_isL0 Z a cs h0 n0) := by
 refine met_of (plainFor_of_name pn_java_lang_String) (own := "java/lang/String") rfl (fun m => ef_rm_isL0 m a) ?_
 intro p e s m below meth c s₁ hx hby hml hown hnm hZ X0 e0 hret hlk
 have N0 := Fr.nil n0
 show Goes p e below s _ _ _ (s₁.setTop (mkF m 0 #[sR a] []))
 obtain ⟨T1, X1, e1, st1⟩ := getS2 X0 hx hZ hown (host := "") (Or.inl (wq hw 45 rfl)) Via.refl e0 (sC.ext O.2) (g := (mkF m 0 #[sR a] [])) rfl (hb hby d25_0)
 refine Goes.pre (U' := T1.setTop (mkF m 3 #[sR a] [(.int cs)])) (fun t k => st1 t k) ?_
 have hc3 : ¬ (cs = (0 : Int32)) := hcs
 refine Goes.pre (U' := T1.setTop (mkF m 7 #[sR a] [(.ref a)])) (fun t k => XS.ifNo X1.here hx rfl (hb hby d25_3) rfl ((if0 _ _).trans (feq hc3).1) (XS.aloadN X1.here hx rfl (hb hby d25_6) rfl rfl k)) ?_
 obtain ⟨T2, X2, e2, st2⟩ := getF X1 hx hZ hown (host := "") (Or.inl (wq hw 27 rfl)) Via.refl e1 Fc_a (g := (mkF m 7 #[sR a] [(.ref a)])) rfl rfl (hb hby d25_7)
 refine Goes.pre (U' := T2.setTop (mkF m 10 #[sR a] [(.int (0 : Int32))])) (fun t k => st2 t k) ?_
 have hc10 : (0 : Int32) = (0 : Int32) := rfl
 refine Goes.pre (U' := T2.setTop (mkF m 18 #[sR a] [(.int (1 : Int32))])) (fun t k => XS.ifNo X2.here hx rfl (hb hby d25_10) rfl ((if0 _ _).trans (teq hc10).2) (XS.iconst X2.here hx rfl (hb hby d25_13) (XS.goto X2.here hx rfl (pc0 := 14) (pc' := 18) rfl (hb hby d25_14) (by decide) (by decide) k))) ?_
 refine Goes.ret X2 (v := (some (.int (1 : Int32)))) (fun h => by rw [hret] at h; cases h) hlk (by decide) (by decide) e2 (fun fs hr => retN X2 hx (t := .boolean) hret (by simp) (hb hby d25_18) hr) ?_
 exact ⟨rfl, N0, rfl⟩
theorem ef_rm_coder1 (m : MethodId) (x0 : Addr) : entryFrame m #[(.ref x0)] 1 = mkF m 0 #[sR x0] [] := by first | (simp [entryFrame, mkF, argsToLocals, Value.category]; done) | rfl
def Q_rm_coder1 (Z : State) (a : Addr) (cs : Int32) (h0 : Heap) (n0 : Nat) (v : Option Value) (h : Heap) (L : List Loc) : Prop := v = some (.int (1 : Int32)) ∧ Fr n0 L ∧ h = h0
set_option maxRecDepth 65536 in
set_option maxHeartbeats 40000000 in
theorem rm_coder1 (l : Launch) (Z : State) (a0 : Array Value) (hw : ∀ d ∈ tables_1, d.before a0 Z = true) (ws : List Jvm.Cond) (a : Addr) (cs : Int32) (h0 : Heap) (n0 : Nat) (Z0 : n0 ≤ h0.size) (sC : OCS Z (.int cs)) (Fc_a : Fld Z h0 a "java/lang/String" "coder" "B" (.int (1 : Int32))) (hcs : ¬ (cs = (0 : Int32))) (O : Old Z n0 h0) :
  Met l Z M7 jdk_42_method_152_code 1 (some .byte) ws (Rm 0 0 0 0) #[(.ref a)] h0 (Q_rm_coder1 Z a cs h0 n0) := by
 refine met_of (plainFor_of_name pn_java_lang_String) (own := "java/lang/String") rfl (fun m => ef_rm_coder1 m a) ?_
 intro p e s m below meth c s₁ hx hby hml hown hnm hZ X0 e0 hret hlk
 have N0 := Fr.nil n0
 show Goes p e below s _ _ _ (s₁.setTop (mkF m 0 #[sR a] []))
 obtain ⟨T1, X1, e1, st1⟩ := getS2 X0 hx hZ hown (host := "") (Or.inl (wq hw 45 rfl)) Via.refl e0 (sC.ext O.2) (g := (mkF m 0 #[sR a] [])) rfl (hb hby d7_0)
 refine Goes.pre (U' := T1.setTop (mkF m 3 #[sR a] [(.int cs)])) (fun t k => st1 t k) ?_
 have hc3 : ¬ (cs = (0 : Int32)) := hcs
 refine Goes.pre (U' := T1.setTop (mkF m 7 #[sR a] [(.ref a)])) (fun t k => XS.ifNo X1.here hx rfl (hb hby d7_3) rfl ((if0 _ _).trans (feq hc3).1) (XS.aloadN X1.here hx rfl (hb hby d7_6) rfl rfl k)) ?_
 obtain ⟨T2, X2, e2, st2⟩ := getF X1 hx hZ hown (host := "") (Or.inl (wq hw 27 rfl)) Via.refl e1 Fc_a (g := (mkF m 7 #[sR a] [(.ref a)])) rfl rfl (hb hby d7_7)
 refine Goes.pre (U' := T2.setTop (mkF m 14 #[sR a] [(.int (1 : Int32))])) (fun t k => st2 t (XS.goto X2.here hx rfl (pc0 := 10) (pc' := 14) rfl (hb hby d7_10) (by decide) (by decide) k)) ?_
 refine Goes.ret X2 (v := (some (.int (1 : Int32)))) (fun h => by rw [hret] at h; cases h) hlk (by decide) (by decide) e2 (fun fs hr => retN X2 hx (t := .byte) hret (by simp) (hb hby d7_14) hr) ?_
 exact ⟨rfl, N0, rfl⟩
theorem ef_rm_isL1 (m : MethodId) (x0 : Addr) : entryFrame m #[(.ref x0)] 1 = mkF m 0 #[sR x0] [] := by first | (simp [entryFrame, mkF, argsToLocals, Value.category]; done) | rfl
theorem d25_17 : decode B25 17 = .ok (.iconst 0, 1) := by decide +kernel
def Q_rm_isL1 (Z : State) (a : Addr) (cs : Int32) (h0 : Heap) (n0 : Nat) (v : Option Value) (h : Heap) (L : List Loc) : Prop := v = some (.int (0 : Int32)) ∧ Fr n0 L ∧ h = h0
set_option maxRecDepth 65536 in
set_option maxHeartbeats 40000000 in
theorem rm_isL1 (l : Launch) (Z : State) (a0 : Array Value) (hw : ∀ d ∈ tables_1, d.before a0 Z = true) (ws : List Jvm.Cond) (a : Addr) (cs : Int32) (h0 : Heap) (n0 : Nat) (Z0 : n0 ≤ h0.size) (sC : OCS Z (.int cs)) (Fc_a : Fld Z h0 a "java/lang/String" "coder" "B" (.int (1 : Int32))) (hcs : ¬ (cs = (0 : Int32))) (O : Old Z n0 h0) :
  Met l Z M25 jdk_42_method_154_code 1 (some .boolean) ws (Rm 0 0 0 0) #[(.ref a)] h0 (Q_rm_isL1 Z a cs h0 n0) := by
 refine met_of (plainFor_of_name pn_java_lang_String) (own := "java/lang/String") rfl (fun m => ef_rm_isL1 m a) ?_
 intro p e s m below meth c s₁ hx hby hml hown hnm hZ X0 e0 hret hlk
 have N0 := Fr.nil n0
 show Goes p e below s _ _ _ (s₁.setTop (mkF m 0 #[sR a] []))
 obtain ⟨T1, X1, e1, st1⟩ := getS2 X0 hx hZ hown (host := "") (Or.inl (wq hw 45 rfl)) Via.refl e0 (sC.ext O.2) (g := (mkF m 0 #[sR a] [])) rfl (hb hby d25_0)
 refine Goes.pre (U' := T1.setTop (mkF m 3 #[sR a] [(.int cs)])) (fun t k => st1 t k) ?_
 have hc3 : ¬ (cs = (0 : Int32)) := hcs
 refine Goes.pre (U' := T1.setTop (mkF m 7 #[sR a] [(.ref a)])) (fun t k => XS.ifNo X1.here hx rfl (hb hby d25_3) rfl ((if0 _ _).trans (feq hc3).1) (XS.aloadN X1.here hx rfl (hb hby d25_6) rfl rfl k)) ?_
 obtain ⟨T2, X2, e2, st2⟩ := getF X1 hx hZ hown (host := "") (Or.inl (wq hw 27 rfl)) Via.refl e1 Fc_a (g := (mkF m 7 #[sR a] [(.ref a)])) rfl rfl (hb hby d25_7)
 refine Goes.pre (U' := T2.setTop (mkF m 10 #[sR a] [(.int (1 : Int32))])) (fun t k => st2 t k) ?_
 have hc10 : ¬ ((1 : Int32) = (0 : Int32)) := by decide
 refine Goes.pre (U' := T2.setTop (mkF m 18 #[sR a] [(.int (0 : Int32))])) (fun t k => XS.ifYes X2.here hx rfl (pc0 := 10) (pc' := 17) rfl (hb hby d25_10) rfl ((if0 _ _).trans (feq hc10).2) (by decide) (by decide) (XS.iconst X2.here hx rfl (hb hby d25_17) k)) ?_
 refine Goes.ret X2 (v := (some (.int (0 : Int32)))) (fun h => by rw [hret] at h; cases h) hlk (by decide) (by decide) e2 (fun fs hr => retN X2 hx (t := .boolean) hret (by simp) (hb hby d25_18) hr) ?_
 exact ⟨rfl, N0, rfl⟩
theorem ef_rm_len (m : MethodId) (x0 : Addr) : entryFrame m #[(.ref x0)] 1 = mkF m 0 #[sR x0] [] := by first | (simp [entryFrame, mkF, argsToLocals, Value.category]; done) | rfl
abbrev M6 : MethodName := ⟨"java/lang/String", "length", "()I"⟩
theorem d6_0 : decode B6 0 = .ok (.aload_n 0, 1) := by decide +kernel
theorem d6_1 : decode B6 1 = .ok (.getfield 9, 3) := by decide +kernel
theorem d6_4 : decode B6 4 = .ok (.arraylength, 1) := by decide +kernel
theorem d6_5 : decode B6 5 = .ok (.aload_n 0, 1) := by decide +kernel
theorem d6_6 : decode B6 6 = .ok (.invokevirtual 335, 3) := by decide +kernel
theorem pd__28_29B : parseMethodDescriptor "()B" = some ⟨[], some .byte⟩ := by decide +kernel
theorem d6_9 : decode B6 9 = .ok (.ishr, 1) := by decide +kernel
theorem d6_10 : decode B6 10 = .ok (.ireturn, 1) := by decide +kernel
def Q_rm_len (Z : State) (a : Addr) (b : Addr) (kb : ClassId) (cl : List Int32) (cs : Int32) (h0 : Heap) (n0 : Nat) (v : Option Value) (h : Heap) (L : List Loc) : Prop := v = some (.int (Int32.ofNat cl.length)) ∧ Fr n0 L ∧ h = h0
set_option maxRecDepth 65536 in
set_option maxHeartbeats 40000000 in
theorem rm_len (l : Launch) (Z : State) (a0 : Array Value) (hw : ∀ d ∈ tables_1, d.before a0 Z = true) (ws : List Jvm.Cond) (a : Addr) (b : Addr) (kb : ClassId) (cl : List Int32) (cs : Int32) (h0 : Heap) (n0 : Nat) (Z0 : n0 ≤ h0.size) (S_a : OwnStr Z h0 a b kb cl) (sC : OCS Z (.int cs)) (hcs : ¬ (cs = (0 : Int32))) (hlen : cl.length ≤ 4096) (O : Old Z n0 h0) :
  Met l Z M6 jdk_42_method_54_code 1 (some .int) ws (Rm 1 0 0 13) #[(.ref a)] h0 (Q_rm_len Z a b kb cl cs h0 n0) := by
 refine met_of (plainFor_of_name pn_java_lang_String) (own := "java/lang/String") rfl (fun m => ef_rm_len m a) ?_
 intro p e s m below meth c s₁ hx hby hml hown hnm hZ X0 e0 hret hlk
 have N0 := Fr.nil n0
 show Goes p e below s _ _ _ (s₁.setTop (mkF m 0 #[sR a] []))
 obtain ⟨E_a, Fv_a, hcA, hSt⟩ := S_a
 rcases hSt with ⟨Fc_a, V_b, hleA⟩ | ⟨Fc_a, V_b, hexA⟩
 ·
  refine Goes.pre (U' := s₁.setTop (mkF m 1 #[sR a] [(.ref a)])) (fun t k => XS.aloadN X0.here hx rfl (hb hby d6_0) rfl rfl k) ?_
  obtain ⟨T1, X1, e1, st1⟩ := getF X0 hx hZ hown (host := "") (Or.inl (wq hw 26 rfl)) Via.refl e0 Fv_a (g := (mkF m 1 #[sR a] [(.ref a)])) rfl rfl (hb hby d6_1)
  refine Goes.pre (U' := T1.setTop (mkF m 4 #[sR a] [(.ref b)])) (fun t k => st1 t k) ?_
  obtain ⟨cl2, Ar2, q2, Sz2, Ng2, -, -⟩ := id V_b
  have ln2 := len_of Sz2 Ng2
  refine Goes.pre (U' := T1.setTop (mkF m 6 #[sR a] [(.ref a), (.int (Int32.ofNat cl.length))])) (fun t k => X1.arraylength hx (by rw [e1]; exact Ar2.1) (State.isArrayOf_alike hZ.alike Ar2.2.1) (g := (mkF m 4 #[sR a] [(.ref b)])) rfl rfl (hb hby d6_4) _ (by rw [ln2]; exact (XS.aloadN X1.here hx rfl (hb hby d6_5) rfl rfl k))) ?_
  obtain ⟨cq3, kq3, q3a, q3b, q3c⟩ := isOf hZ e1 E_a
  obtain ⟨_, _, ⟨T3, L3, k3, n3⟩, -, X3, ⟨Lc3, hQ3, l3, y3, z3⟩, st3⟩ := X1.virtualBack hx (y := M7) (z := M7) hown (mvT hZ (wq hw 40 rfl)) (mvT hZ (wq hw 41 rfl)) (notFace_of_selects (args := #[]) (mvT hZ (wq hw 43 rfl))) (mvT hZ (wq hw 43 rfl)) (mvT hZ (wq hw 42 rfl)) (by decide) (backOf (W := 1) (rm_coder0 l Z a0 hw [] a cs h0 n0 Z0 sC Fc_a hcs O) hZ (wq hw 44 rfl) (wq hw 8 rfl) (by decide) (by decide)) q3a q3c (g := (mkF m 6 #[sR a] [(.ref a), (.int (Int32.ofNat cl.length))])) rfl (by rw [hml]; rfl) (Steps.refl _) (argsL := []) (rest := [(.int (Int32.ofNat cl.length))]) (lenOf pd__28_29B rfl) rfl (by show 2 * 0 + _ ≤ _; exact Nat.le_of_eq rfl) (hb hby d6_6) (fun _ _ => ⟨rfl, e1, (by decide : 0 + 0 ≤ _), (by decide : 0 + 0 ≤ _)⟩)
  dsimp only [Pt.U, Pt.locs, Pt.cells, Pt.slots] at X3 l3 y3 z3 st3 hQ3
  subst l3 y3 z3
  obtain ⟨rfl, N3q, HQ3⟩ := hQ3
  have N3 := Fr.app N0 N3q
  refine Goes.pre (U' := T3.setTop (mkF m 10 #[sR a] [(.int ((Int32.ofNat cl.length) >>> ((0 : Int32) &&& 31)))])) (fun t k => st3.trans (XS.ishr X3.here hx rfl (hb hby d6_9) rfl k)) ?_
  refine Goes.ret X3 (v := (some (.int ((Int32.ofNat cl.length) >>> ((0 : Int32) &&& 31))))) (fun h => by rw [hret] at h; cases h) hlk (by decide) (by decide) HQ3 (fun fs hr => retI X3 hx hret (hb hby d6_10) hr) ?_
  exact ⟨congrArg (fun z => some (Value.int z)) (own_len0 cl hlen).symm, N3, rfl⟩
 ·
  refine Goes.pre (U' := s₁.setTop (mkF m 1 #[sR a] [(.ref a)])) (fun t k => XS.aloadN X0.here hx rfl (hb hby d6_0) rfl rfl k) ?_
  obtain ⟨T4, X4, e4, st4⟩ := getF X0 hx hZ hown (host := "") (Or.inl (wq hw 26 rfl)) Via.refl e0 Fv_a (g := (mkF m 1 #[sR a] [(.ref a)])) rfl rfl (hb hby d6_1)
  refine Goes.pre (U' := T4.setTop (mkF m 4 #[sR a] [(.ref b)])) (fun t k => st4 t k) ?_
  obtain ⟨cl5, Ar5, q5, Sz5, Ng5, -, -⟩ := id V_b
  have ln5 := len_of Sz5 Ng5
  refine Goes.pre (U' := T4.setTop (mkF m 6 #[sR a] [(.ref a), (.int (Int32.ofNat (2 * cl.length)))])) (fun t k => X4.arraylength hx (by rw [e4]; exact Ar5.1) (State.isArrayOf_alike hZ.alike Ar5.2.1) (g := (mkF m 4 #[sR a] [(.ref b)])) rfl rfl (hb hby d6_4) _ (by rw [ln5]; exact (XS.aloadN X4.here hx rfl (hb hby d6_5) rfl rfl k))) ?_
  obtain ⟨cq6, kq6, q6a, q6b, q6c⟩ := isOf hZ e4 E_a
  obtain ⟨_, _, ⟨T6, L6, k6, n6⟩, -, X6, ⟨Lc6, hQ6, l6, y6, z6⟩, st6⟩ := X4.virtualBack hx (y := M7) (z := M7) hown (mvT hZ (wq hw 40 rfl)) (mvT hZ (wq hw 41 rfl)) (notFace_of_selects (args := #[]) (mvT hZ (wq hw 43 rfl))) (mvT hZ (wq hw 43 rfl)) (mvT hZ (wq hw 42 rfl)) (by decide) (backOf (W := 1) (rm_coder1 l Z a0 hw [] a cs h0 n0 Z0 sC Fc_a hcs O) hZ (wq hw 44 rfl) (wq hw 8 rfl) (by decide) (by decide)) q6a q6c (g := (mkF m 6 #[sR a] [(.ref a), (.int (Int32.ofNat (2 * cl.length)))])) rfl (by rw [hml]; rfl) (Steps.refl _) (argsL := []) (rest := [(.int (Int32.ofNat (2 * cl.length)))]) (lenOf pd__28_29B rfl) rfl (by show 2 * 0 + _ ≤ _; exact Nat.le_of_eq rfl) (hb hby d6_6) (fun _ _ => ⟨rfl, e4, (by decide : 0 + 0 ≤ _), (by decide : 0 + 0 ≤ _)⟩)
  dsimp only [Pt.U, Pt.locs, Pt.cells, Pt.slots] at X6 l6 y6 z6 st6 hQ6
  subst l6 y6 z6
  obtain ⟨rfl, N6q, HQ6⟩ := hQ6
  have N6 := Fr.app N0 N6q
  refine Goes.pre (U' := T6.setTop (mkF m 10 #[sR a] [(.int ((Int32.ofNat (2 * cl.length)) >>> ((1 : Int32) &&& 31)))])) (fun t k => st6.trans (XS.ishr X6.here hx rfl (hb hby d6_9) rfl k)) ?_
  refine Goes.ret X6 (v := (some (.int ((Int32.ofNat (2 * cl.length)) >>> ((1 : Int32) &&& 31))))) (fun h => by rw [hret] at h; cases h) hlk (by decide) (by decide) HQ6 (fun fs hr => retI X6 hx hret (hb hby d6_10) hr) ?_
  exact ⟨congrArg (fun z => some (Value.int z)) (own_len1 cl hlen).symm, N6, rfl⟩
theorem ef_rm_l1chG (m : MethodId) (x0 : Addr) (x1 : Int32) : entryFrame m #[(.ref x0), (.int x1)] 2 = mkF m 0 #[sR x0, sI x1] [] := by first | (simp [entryFrame, mkF, argsToLocals, Value.category]; done) | rfl
theorem pn_java_lang_StringLatin1 : plainName "java/lang/StringLatin1" = true := by first | (simp [plainName, overriddenIn]; done) | decide +kernel
abbrev M26 : MethodName := ⟨"java/lang/StringLatin1", "charAt", "([BI)C"⟩
theorem d26_0 : decode B26 0 = .ok (.iload_n 1, 1) := by decide +kernel
theorem d26_1 : decode B26 1 = .ok (.aload_n 0, 1) := by decide +kernel
theorem d26_2 : decode B26 2 = .ok (.arraylength, 1) := by decide +kernel
theorem d26_3 : decode B26 3 = .ok (.invokestatic 9, 3) := by decide +kernel
theorem pd__28II_29V : parseMethodDescriptor "(II)V" = some ⟨[.int, .int], none⟩ := by decide +kernel
theorem d26_6 : decode B26 6 = .ok (.aload_n 0, 1) := by decide +kernel
theorem d26_7 : decode B26 7 = .ok (.iload_n 1, 1) := by decide +kernel
theorem d26_8 : decode B26 8 = .ok (.baload, 1) := by decide +kernel
theorem d26_9 : decode B26 9 = .ok (.sipush 255, 3) := by decide +kernel
theorem d26_12 : decode B26 12 = .ok (.iand, 1) := by decide +kernel
theorem d26_13 : decode B26 13 = .ok (.i2c, 1) := by decide +kernel
theorem d26_14 : decode B26 14 = .ok (.ireturn, 1) := by decide +kernel
def Q_rm_l1chG (Z : State) (b : Addr) (kb : ClassId) (cl : List Int32) (i : Int32) (sf : Value) (h0 : Heap) (n0 : Nat) (v : Option Value) (h : Heap) (L : List Loc) : Prop := v = some (.int (cl.getD i.toNatClampNeg 0)) ∧ Fr n0 L ∧ h = h0
set_option maxRecDepth 65536 in
set_option maxHeartbeats 40000000 in
theorem rm_l1chG (l : Launch) (Z : State) (a0 : Array Value) (hw : ∀ d ∈ tables_1, d.before a0 Z = true) (ws : List Jvm.Cond) (b : Addr) (kb : ClassId) (cl : List Int32) (i : Int32) (sf : Value) (h0 : Heap) (n0 : Nat) (Z0 : n0 ≤ h0.size) (V_b : Arv Z h0 b kb .byte (Int32.ofNat cl.length) (cl.map fun c => .int c.toInt8.toInt32) (.int (0 : Int32))) (sF : OSF Z sf) (h1 : ¬ (i < (0 : Int32))) (h2 : i < Int32.ofNat cl.length) (hlen : cl.length ≤ 4096) (hcA : ∀ c ∈ cl, OwnCh c) (hleA : ∀ c ∈ cl, ¬ ((255 : Int32) < c)) (hsf : sf.isRef = true) (O : Old Z n0 h0) :
  Met l Z M26 jdk_43_method_2_code 2 (some .char) ws (Rm 2 0 0 27) #[(.ref b), (.int i)] h0 (Q_rm_l1chG Z b kb cl i sf h0 n0) := by
 refine met_of (plainFor_of_name pn_java_lang_StringLatin1) (own := "java/lang/StringLatin1") rfl (fun m => ef_rm_l1chG m b i) ?_
 intro p e s m below meth c s₁ hx hby hml hown hnm hZ X0 e0 hret hlk
 have N0 := Fr.nil n0
 show Goes p e below s _ _ _ (s₁.setTop (mkF m 0 #[sR b, sI i] []))
 refine Goes.pre (U' := s₁.setTop (mkF m 2 #[sR b, sI i] [(.ref b), (.int i)])) (fun t k => XS.iloadN X0.here hx rfl (hb hby d26_0) rfl (XS.aloadN X0.here hx rfl (hb hby d26_1) rfl rfl k)) ?_
 obtain ⟨cl1, Ar1, q1, Sz1, Ng1, -, -⟩ := id V_b
 have ln1 := len_of Sz1 Ng1
 refine Goes.pre (U' := s₁.setTop (mkF m 3 #[sR b, sI i] [(.int (Int32.ofNat cl.length)), (.int i)])) (fun t k => X0.arraylength hx (by rw [e0]; exact Ar1.1) (State.isArrayOf_alike hZ.alike Ar1.2.1) (g := (mkF m 2 #[sR b, sI i] [(.ref b), (.int i)])) rfl rfl (hb hby d26_2) _ (by rw [ln1]; exact k)) ?_
 obtain ⟨_, _, ⟨T2, L2, k2, n2⟩, -, X2, ⟨Lc2, hQ2, l2, y2, z2⟩, st2⟩ := Jvm.LawKit.callS X0 hx (y := M27) hown (mvT hZ (wq hw 153 rfl)) (mvT hZ (wq hw 154 rfl)) (mvT hZ (wq hw 8 rfl)) (mvT hZ (wq hw 155 rfl)) (by decide) (backOf (W := 0) (rm_sIdx l Z a0 hw [] i (Int32.ofNat cl.length) sf h0 n0 Z0 sF h1 h2 hsf O) hZ (wq hw 155 rfl) (wq hw 8 rfl) (by decide) (by decide)) (g := (mkF m 3 #[sR b, sI i] [(.int (Int32.ofNat cl.length)), (.int i)])) rfl (by rw [hml]; rfl) (argsL := [(.int i), (.int (Int32.ofNat cl.length))]) (rest := []) (lenOf pd__28II_29V rfl) rfl (by show 2 * 0 + _ ≤ _; exact Nat.le_of_eq rfl) (hb hby d26_3) (fun _ _ => ⟨rfl, e0, (by decide : 0 + 0 ≤ _), (by decide : 0 + 0 ≤ _)⟩)
 dsimp only [Pt.U, Pt.locs, Pt.cells, Pt.slots] at X2 l2 y2 z2 st2 hQ2
 subst l2 y2 z2
 obtain ⟨rfl, N2q, HQ2⟩ := hQ2
 have N2 := Fr.app N0 N2q
 refine Goes.pre (U' := T2.setTop (mkF m 8 #[sR b, sI i] [(.int i), (.ref b)])) (fun t k => st2 t (XS.aloadN X2.here hx rfl (hb hby d26_6) rfl rfl (XS.iloadN X2.here hx rfl (hb hby d26_7) rfl k))) ?_
 obtain ⟨cl3, Ar3, q3, Sz3, Ng3, Hs3, Ft3⟩ := id V_b
 have hin3 := inb_of (j := i) Sz3 ⟨h1, h2⟩
 refine Goes.pre (U' := T2.setTop (mkF m 14 #[sR b, sI i] [(.int (((cl.getD i.toNatClampNeg 0).toInt8.toInt32 &&& (255 : Int32)).toUInt32.toUInt16.toUInt32.toInt32))])) (fun t k => X2.baloadBytes hx (j := i) (v := (.int (cl.getD i.toNatClampNeg 0).toInt8.toInt32)) (by rw [HQ2]; exact Ar3.1) (State.isArrayOf_alike hZ.alike Ar3.2.1) Ar3.2.2 hin3 (Has.at Hs3 hin3 (own_atL cl i h1 h2 hlen)) (g := (mkF m 8 #[sR b, sI i] [(.int i), (.ref b)])) rfl rfl (hb hby d26_8) _ (XS.sipush X2.here hx rfl (hb hby d26_9) (XS.iand X2.here hx rfl (hb hby d26_12) rfl (XS.i2c X2.here hx rfl (hb hby d26_13) rfl k)))) ?_
 refine Goes.ret X2 (v := (some (.int (cl.getD i.toNatClampNeg 0)))) (fun h => by rw [hret] at h; cases h) hlk (by decide) (by decide) HQ2 (fun fs hr => retN X2 hx (t := .char) hret (by simp) (hb hby d26_14) (by rw [show nar .char (((cl.getD i.toNatClampNeg 0).toInt8.toInt32 &&& (255 : Int32)).toUInt32.toUInt16.toUInt32.toInt32) = (cl.getD i.toNatClampNeg 0) from own_l1 _ (own_gch cl i h1 h2 hlen hcA) (own_gle cl i h1 h2 hlen hleA)]; exact hr)) ?_
 exact ⟨rfl, N2, rfl⟩
theorem ef_rm_ulenG (m : MethodId) (x0 : Addr) : entryFrame m #[(.ref x0)] 1 = mkF m 0 #[sR x0] [] := by first | (simp [entryFrame, mkF, argsToLocals, Value.category]; done) | rfl
theorem pn_java_lang_StringUTF16 : plainName "java/lang/StringUTF16" = true := by first | (simp [plainName, overriddenIn]; done) | decide +kernel
abbrev M58 : MethodName := ⟨"java/lang/StringUTF16", "length", "([B)I"⟩
theorem d58_0 : decode B58 0 = .ok (.aload_n 0, 1) := by decide +kernel
theorem d58_1 : decode B58 1 = .ok (.arraylength, 1) := by decide +kernel
theorem d58_2 : decode B58 2 = .ok (.iconst 1, 1) := by decide +kernel
theorem d58_3 : decode B58 3 = .ok (.ishr, 1) := by decide +kernel
theorem d58_4 : decode B58 4 = .ok (.ireturn, 1) := by decide +kernel
def Q_rm_ulenG (Z : State) (b : Addr) (kb : ClassId) (cl : List Int32) (h0 : Heap) (n0 : Nat) (v : Option Value) (h : Heap) (L : List Loc) : Prop := v = some (.int (Int32.ofNat cl.length)) ∧ Fr n0 L ∧ h = h0
set_option maxRecDepth 65536 in
set_option maxHeartbeats 40000000 in
theorem rm_ulenG (l : Launch) (Z : State) (a0 : Array Value) (hw : ∀ d ∈ tables_1, d.before a0 Z = true) (ws : List Jvm.Cond) (b : Addr) (kb : ClassId) (cl : List Int32) (h0 : Heap) (n0 : Nat) (Z0 : n0 ≤ h0.size) (V_b : Arv Z h0 b kb .byte (Int32.ofNat (2 * cl.length)) (cl.flatMap fun c => [.int (c >>> ((0 : Int32) &&& 31)).toInt8.toInt32, .int (c >>> ((8 : Int32) &&& 31)).toInt8.toInt32]) (.int (0 : Int32))) (hlen : cl.length ≤ 4096) :
  Met l Z M58 jdk_52_method_6_code 1 (some .int) ws (Rm 0 0 0 0) #[(.ref b)] h0 (Q_rm_ulenG Z b kb cl h0 n0) := by
 refine met_of (plainFor_of_name pn_java_lang_StringUTF16) (own := "java/lang/StringUTF16") rfl (fun m => ef_rm_ulenG m b) ?_
 intro p e s m below meth c s₁ hx hby hml hown hnm hZ X0 e0 hret hlk
 have N0 := Fr.nil n0
 show Goes p e below s _ _ _ (s₁.setTop (mkF m 0 #[sR b] []))
 refine Goes.pre (U' := s₁.setTop (mkF m 1 #[sR b] [(.ref b)])) (fun t k => XS.aloadN X0.here hx rfl (hb hby d58_0) rfl rfl k) ?_
 obtain ⟨cl1, Ar1, q1, Sz1, Ng1, -, -⟩ := id V_b
 have ln1 := len_of Sz1 Ng1
 refine Goes.pre (U' := s₁.setTop (mkF m 4 #[sR b] [(.int ((Int32.ofNat (2 * cl.length)) >>> ((1 : Int32) &&& 31)))])) (fun t k => X0.arraylength hx (by rw [e0]; exact Ar1.1) (State.isArrayOf_alike hZ.alike Ar1.2.1) (g := (mkF m 1 #[sR b] [(.ref b)])) rfl rfl (hb hby d58_1) _ (by rw [ln1]; exact (XS.iconst X0.here hx rfl (hb hby d58_2) (XS.ishr X0.here hx rfl (hb hby d58_3) rfl k)))) ?_
 refine Goes.ret X0 (v := (some (.int ((Int32.ofNat (2 * cl.length)) >>> ((1 : Int32) &&& 31))))) (fun h => by rw [hret] at h; cases h) hlk (by decide) (by decide) e0 (fun fs hr => retI X0 hx hret (hb hby d58_4) hr) ?_
 exact ⟨congrArg (fun z => some (Value.int z)) (own_len1 cl hlen).symm, N0, rfl⟩
theorem ef_rm_uIdxG (m : MethodId) (x0 : Int32) (x1 : Addr) : entryFrame m #[(.int x0), (.ref x1)] 2 = mkF m 0 #[sI x0, sR x1] [] := by first | (simp [entryFrame, mkF, argsToLocals, Value.category]; done) | rfl
abbrev M57 : MethodName := ⟨"java/lang/StringUTF16", "checkIndex", "(I[B)V"⟩
theorem d57_0 : decode B57 0 = .ok (.iload_n 0, 1) := by decide +kernel
theorem d57_1 : decode B57 1 = .ok (.aload_n 1, 1) := by decide +kernel
theorem d57_2 : decode B57 2 = .ok (.invokestatic 48, 3) := by decide +kernel
theorem pd__28_5bB_29I : parseMethodDescriptor "([B)I" = some ⟨[(.array .byte)], some .int⟩ := by decide +kernel
theorem d57_5 : decode B57 5 = .ok (.invokestatic 414, 3) := by decide +kernel
theorem d57_8 : decode B57 8 = .ok (.return_, 1) := by decide +kernel
def Q_rm_uIdxG (Z : State) (b : Addr) (kb : ClassId) (cl : List Int32) (i : Int32) (sf : Value) (h0 : Heap) (n0 : Nat) (v : Option Value) (h : Heap) (L : List Loc) : Prop := v = none ∧ Fr n0 L ∧ h = h0
set_option maxRecDepth 65536 in
set_option maxHeartbeats 40000000 in
theorem rm_uIdxG (l : Launch) (Z : State) (a0 : Array Value) (hw : ∀ d ∈ tables_1, d.before a0 Z = true) (ws : List Jvm.Cond) (b : Addr) (kb : ClassId) (cl : List Int32) (i : Int32) (sf : Value) (h0 : Heap) (n0 : Nat) (Z0 : n0 ≤ h0.size) (V_b : Arv Z h0 b kb .byte (Int32.ofNat (2 * cl.length)) (cl.flatMap fun c => [.int (c >>> ((0 : Int32) &&& 31)).toInt8.toInt32, .int (c >>> ((8 : Int32) &&& 31)).toInt8.toInt32]) (.int (0 : Int32))) (sF : OSF Z sf) (h1 : ¬ (i < (0 : Int32))) (h2 : i < Int32.ofNat cl.length) (hlen : cl.length ≤ 4096) (hsf : sf.isRef = true) (O : Old Z n0 h0) :
  Met l Z M57 jdk_52_method_91_code 2 none ws (Rm 2 0 0 27) #[(.int i), (.ref b)] h0 (Q_rm_uIdxG Z b kb cl i sf h0 n0) := by
 refine met_of (plainFor_of_name pn_java_lang_StringUTF16) (own := "java/lang/StringUTF16") rfl (fun m => ef_rm_uIdxG m i b) ?_
 intro p e s m below meth c s₁ hx hby hml hown hnm hZ X0 e0 hret hlk
 have N0 := Fr.nil n0
 show Goes p e below s _ _ _ (s₁.setTop (mkF m 0 #[sI i, sR b] []))
 refine Goes.pre (U' := s₁.setTop (mkF m 2 #[sI i, sR b] [(.ref b), (.int i)])) (fun t k => XS.iloadN X0.here hx rfl (hb hby d57_0) rfl (XS.aloadN X0.here hx rfl (hb hby d57_1) rfl rfl k)) ?_
 obtain ⟨_, _, ⟨T1, L1, k1, n1⟩, -, X1, ⟨Lc1, hQ1, l1, y1, z1⟩, st1⟩ := Jvm.LawKit.callS X0 hx (y := M58) hown (mvT hZ (wq hw 286 rfl)) (mvT hZ (wq hw 287 rfl)) (mvT hZ (wq hw 163 rfl)) (mvT hZ (wq hw 288 rfl)) (by decide) (backOf (W := 1) (rm_ulenG l Z a0 hw [] b kb cl h0 n0 Z0 V_b hlen) hZ (wq hw 288 rfl) (wq hw 163 rfl) (by decide) (by decide)) (g := (mkF m 2 #[sI i, sR b] [(.ref b), (.int i)])) rfl (by rw [hml]; rfl) (argsL := [(.ref b)]) (rest := [(.int i)]) (lenOf pd__28_5bB_29I rfl) rfl (by show 2 * 0 + _ ≤ _; exact Nat.le_of_eq rfl) (hb hby d57_2) (fun _ _ => ⟨rfl, e0, (by decide : 0 + 0 ≤ _), (by decide : 0 + 0 ≤ _)⟩)
 dsimp only [Pt.U, Pt.locs, Pt.cells, Pt.slots] at X1 l1 y1 z1 st1 hQ1
 subst l1 y1 z1
 obtain ⟨rfl, N1q, HQ1⟩ := hQ1
 have N1 := Fr.app N0 N1q
 refine Goes.pre (U' := T1.setTop (mkF m 5 #[sI i, sR b] [(.int (Int32.ofNat cl.length)), (.int i)])) (fun t k => st1 t k) ?_
 obtain ⟨_, _, ⟨T2, L2, k2, n2⟩, -, X2, ⟨Lc2, hQ2, l2, y2, z2⟩, st2⟩ := Jvm.LawKit.callS X1 hx (y := M27) hown (mvT hZ (wq hw 289 rfl)) (mvT hZ (wq hw 154 rfl)) (mvT hZ (wq hw 8 rfl)) (mvT hZ (wq hw 155 rfl)) (by decide) (backOf (W := 0) (rm_sIdx l Z a0 hw [] i (Int32.ofNat cl.length) sf h0 n0 Z0 sF h1 h2 hsf O) hZ (wq hw 155 rfl) (wq hw 8 rfl) (by decide) (by decide)) (g := (mkF m 5 #[sI i, sR b] [(.int (Int32.ofNat cl.length)), (.int i)])) rfl (by rw [hml]; rfl) (argsL := [(.int i), (.int (Int32.ofNat cl.length))]) (rest := []) (lenOf pd__28II_29V rfl) rfl (by show 2 * 0 + _ ≤ _; exact Nat.le_of_eq rfl) (hb hby d57_5) (fun _ _ => ⟨rfl, HQ1, (by decide : 0 + 0 ≤ _), (by decide : 0 + 0 ≤ _)⟩)
 dsimp only [Pt.U, Pt.locs, Pt.cells, Pt.slots] at X2 l2 y2 z2 st2 hQ2
 subst l2 y2 z2
 obtain ⟨rfl, N2q, HQ2⟩ := hQ2
 have N2 := Fr.app N1 N2q
 refine Goes.pre (U' := T2.setTop (mkF m 8 #[sI i, sR b] [])) (fun t k => st2 t k) ?_
 refine Goes.ret X2 (v := none) (fun _ => rfl) hlk (by decide) (by decide) HQ2 (fun fs hr => X2.returnOut hx hret (hb hby d57_8) hr) ?_
 exact ⟨rfl, N2, rfl⟩
theorem ef_rm_getChG (m : MethodId) (x0 : Addr) (x1 : Int32) : entryFrame m #[(.ref x0), (.int x1)] 2 = mkF m 0 #[sR x0, sI x1] [] := by first | (simp [entryFrame, mkF, argsToLocals, Value.category]; done) | rfl
abbrev M55 : MethodName := ⟨"java/lang/StringUTF16", "getChar", "([BI)C"⟩
theorem d55_0 : decode B55 0 = .ok (.getstatic 44, 3) := by decide +kernel
theorem d55_3 : decode B55 3 = .ok (.ifCond .ne 25, 3) := by decide +kernel
theorem d55_28 : decode B55 28 = .ok (.iload_n 1, 1) := by decide +kernel
theorem d55_29 : decode B55 29 = .ok (.iconst 1, 1) := by decide +kernel
theorem d55_30 : decode B55 30 = .ok (.ishl, 1) := by decide +kernel
theorem d55_31 : decode B55 31 = .ok (.istore_n 1, 1) := by decide +kernel
theorem d55_32 : decode B55 32 = .ok (.aload_n 0, 1) := by decide +kernel
theorem d55_33 : decode B55 33 = .ok (.iload_n 1, 1) := by decide +kernel
theorem d55_34 : decode B55 34 = .ok (.iinc 1 1, 3) := by decide +kernel
theorem d55_37 : decode B55 37 = .ok (.baload, 1) := by decide +kernel
theorem d55_38 : decode B55 38 = .ok (.sipush 255, 3) := by decide +kernel
theorem d55_41 : decode B55 41 = .ok (.iand, 1) := by decide +kernel
theorem d55_42 : decode B55 42 = .ok (.getstatic 59, 3) := by decide +kernel
theorem d55_45 : decode B55 45 = .ok (.ishl, 1) := by decide +kernel
theorem d55_46 : decode B55 46 = .ok (.aload_n 0, 1) := by decide +kernel
theorem d55_47 : decode B55 47 = .ok (.iload_n 1, 1) := by decide +kernel
theorem d55_48 : decode B55 48 = .ok (.baload, 1) := by decide +kernel
theorem d55_49 : decode B55 49 = .ok (.sipush 255, 3) := by decide +kernel
theorem d55_52 : decode B55 52 = .ok (.iand, 1) := by decide +kernel
theorem d55_53 : decode B55 53 = .ok (.getstatic 63, 3) := by decide +kernel
theorem d55_56 : decode B55 56 = .ok (.ishl, 1) := by decide +kernel
theorem d55_57 : decode B55 57 = .ok (.ior, 1) := by decide +kernel
theorem d55_58 : decode B55 58 = .ok (.i2c, 1) := by decide +kernel
theorem d55_59 : decode B55 59 = .ok (.ireturn, 1) := by decide +kernel
def Q_rm_getChG (Z : State) (b : Addr) (kb : ClassId) (cl : List Int32) (i : Int32) (h0 : Heap) (n0 : Nat) (v : Option Value) (h : Heap) (L : List Loc) : Prop := v = some (.int (cl.getD i.toNatClampNeg 0)) ∧ Fr n0 L ∧ h = h0
set_option maxRecDepth 65536 in
set_option maxHeartbeats 40000000 in
theorem rm_getChG (l : Launch) (Z : State) (a0 : Array Value) (hw : ∀ d ∈ tables_1, d.before a0 Z = true) (ws : List Jvm.Cond) (b : Addr) (kb : ClassId) (cl : List Int32) (i : Int32) (h0 : Heap) (n0 : Nat) (Z0 : n0 ≤ h0.size) (V_b : Arv Z h0 b kb .byte (Int32.ofNat (2 * cl.length)) (cl.flatMap fun c => [.int (c >>> ((0 : Int32) &&& 31)).toInt8.toInt32, .int (c >>> ((8 : Int32) &&& 31)).toInt8.toInt32]) (.int (0 : Int32))) (sA : OAD Z (.int (1 : Int32))) (sH : OHI Z (.int (0 : Int32))) (sL : OLO Z (.int (8 : Int32))) (h1 : ¬ (i < (0 : Int32))) (h2 : i < Int32.ofNat cl.length) (hlen : cl.length ≤ 4096) (hcA : ∀ c ∈ cl, OwnCh c) (O : Old Z n0 h0) :
  Met l Z M55 jdk_52_method_5_code 2 (some .char) ws (Rm 0 0 0 0) #[(.ref b), (.int i)] h0 (Q_rm_getChG Z b kb cl i h0 n0) := by
 refine met_of (plainFor_of_name pn_java_lang_StringUTF16) (own := "java/lang/StringUTF16") rfl (fun m => ef_rm_getChG m b i) ?_
 intro p e s m below meth c s₁ hx hby hml hown hnm hZ X0 e0 hret hlk
 have N0 := Fr.nil n0
 show Goes p e below s _ _ _ (s₁.setTop (mkF m 0 #[sR b, sI i] []))
 obtain ⟨T1, X1, e1, st1⟩ := getS2 X0 hx hZ hown (host := "") (Or.inl (wq hw 274 rfl)) Via.refl e0 (sA.ext O.2) (g := (mkF m 0 #[sR b, sI i] [])) rfl (hb hby d55_0)
 refine Goes.pre (U' := T1.setTop (mkF m 3 #[sR b, sI i] [(.int (1 : Int32))])) (fun t k => st1 t k) ?_
 have hc3 : ¬ ((1 : Int32) = (0 : Int32)) := by decide
 refine Goes.pre (U' := T1.setTop (mkF m 37 #[sR b, .val (.int ((i <<< ((1 : Int32) &&& 31)) + (1 : Int32)))] [(.int (i <<< ((1 : Int32) &&& 31))), (.ref b)])) (fun t k => XS.ifYes X1.here hx rfl (pc0 := 3) (pc' := 28) rfl (hb hby d55_3) rfl ((if0 _ _).trans (feq hc3).2) (by decide) (by decide) (XS.iloadN X1.here hx rfl (hb hby d55_28) rfl (XS.iconst X1.here hx rfl (hb hby d55_29) (XS.ishl X1.here hx rfl (hb hby d55_30) rfl (XS.istoreN X1.here hx rfl (hb hby d55_31) rfl (l' := #[sR b, .val (.int (i <<< ((1 : Int32) &&& 31)))]) rfl (XS.aloadN X1.here hx rfl (hb hby d55_32) rfl rfl (XS.iloadN X1.here hx rfl (hb hby d55_33) rfl (XT.iincV X1.here hx rfl (1 : Int32) (hb hby d55_34) (by decide) rfl (l' := #[sR b, .val (.int ((i <<< ((1 : Int32) &&& 31)) + (1 : Int32)))]) rfl k)))))))) ?_
 obtain ⟨cl2, Ar2, q2, Sz2, Ng2, Hs2, Ft2⟩ := id V_b
 have hin2 := inb_of (j := (i <<< ((1 : Int32) &&& 31))) Sz2 (own_in0 cl i h1 h2 hlen)
 refine Goes.pre (U' := T1.setTop (mkF m 42 #[sR b, .val (.int ((i <<< ((1 : Int32) &&& 31)) + (1 : Int32)))] [(.int (((cl.getD i.toNatClampNeg 0) >>> ((0 : Int32) &&& 31)).toInt8.toInt32 &&& (255 : Int32)))])) (fun t k => X1.baloadBytes hx (j := (i <<< ((1 : Int32) &&& 31))) (v := (.int ((cl.getD i.toNatClampNeg 0) >>> ((0 : Int32) &&& 31)).toInt8.toInt32)) (by rw [e1]; exact Ar2.1) (State.isArrayOf_alike hZ.alike Ar2.2.1) Ar2.2.2 hin2 (Has.at Hs2 hin2 (own_at0 cl i h1 h2 hlen)) (g := (mkF m 37 #[sR b, .val (.int ((i <<< ((1 : Int32) &&& 31)) + (1 : Int32)))] [(.int (i <<< ((1 : Int32) &&& 31))), (.ref b)])) rfl rfl (hb hby d55_37) _ (XS.sipush X1.here hx rfl (hb hby d55_38) (XS.iand X1.here hx rfl (hb hby d55_41) rfl k))) ?_
 obtain ⟨T3, X3, e3, st3⟩ := getS2 X1 hx hZ hown (host := "") (Or.inl (wq hw 275 rfl)) Via.refl e1 (sH.ext O.2) (g := (mkF m 42 #[sR b, .val (.int ((i <<< ((1 : Int32) &&& 31)) + (1 : Int32)))] [(.int (((cl.getD i.toNatClampNeg 0) >>> ((0 : Int32) &&& 31)).toInt8.toInt32 &&& (255 : Int32)))])) rfl (hb hby d55_42)
 refine Goes.pre (U' := T3.setTop (mkF m 48 #[sR b, .val (.int ((i <<< ((1 : Int32) &&& 31)) + (1 : Int32)))] [(.int ((i <<< ((1 : Int32) &&& 31)) + (1 : Int32))), (.ref b), (.int ((((cl.getD i.toNatClampNeg 0) >>> ((0 : Int32) &&& 31)).toInt8.toInt32 &&& (255 : Int32)) <<< ((0 : Int32) &&& 31)))])) (fun t k => st3 t (XS.ishl X3.here hx rfl (hb hby d55_45) rfl (XS.aloadN X3.here hx rfl (hb hby d55_46) rfl rfl (XS.iloadN X3.here hx rfl (hb hby d55_47) rfl k)))) ?_
 obtain ⟨cl4, Ar4, q4, Sz4, Ng4, Hs4, Ft4⟩ := id V_b
 have hin4 := inb_of (j := ((i <<< ((1 : Int32) &&& 31)) + (1 : Int32))) Sz4 (own_in1 cl i h1 h2 hlen)
 refine Goes.pre (U' := T3.setTop (mkF m 53 #[sR b, .val (.int ((i <<< ((1 : Int32) &&& 31)) + (1 : Int32)))] [(.int (((cl.getD i.toNatClampNeg 0) >>> ((8 : Int32) &&& 31)).toInt8.toInt32 &&& (255 : Int32))), (.int ((((cl.getD i.toNatClampNeg 0) >>> ((0 : Int32) &&& 31)).toInt8.toInt32 &&& (255 : Int32)) <<< ((0 : Int32) &&& 31)))])) (fun t k => X3.baloadBytes hx (j := ((i <<< ((1 : Int32) &&& 31)) + (1 : Int32))) (v := (.int ((cl.getD i.toNatClampNeg 0) >>> ((8 : Int32) &&& 31)).toInt8.toInt32)) (by rw [e3]; exact Ar4.1) (State.isArrayOf_alike hZ.alike Ar4.2.1) Ar4.2.2 hin4 (Has.at Hs4 hin4 (own_at1 cl i h1 h2 hlen)) (g := (mkF m 48 #[sR b, .val (.int ((i <<< ((1 : Int32) &&& 31)) + (1 : Int32)))] [(.int ((i <<< ((1 : Int32) &&& 31)) + (1 : Int32))), (.ref b), (.int ((((cl.getD i.toNatClampNeg 0) >>> ((0 : Int32) &&& 31)).toInt8.toInt32 &&& (255 : Int32)) <<< ((0 : Int32) &&& 31)))])) rfl rfl (hb hby d55_48) _ (XS.sipush X3.here hx rfl (hb hby d55_49) (XS.iand X3.here hx rfl (hb hby d55_52) rfl k))) ?_
 obtain ⟨T5, X5, e5, st5⟩ := getS2 X3 hx hZ hown (host := "") (Or.inl (wq hw 276 rfl)) Via.refl e3 (sL.ext O.2) (g := (mkF m 53 #[sR b, .val (.int ((i <<< ((1 : Int32) &&& 31)) + (1 : Int32)))] [(.int (((cl.getD i.toNatClampNeg 0) >>> ((8 : Int32) &&& 31)).toInt8.toInt32 &&& (255 : Int32))), (.int ((((cl.getD i.toNatClampNeg 0) >>> ((0 : Int32) &&& 31)).toInt8.toInt32 &&& (255 : Int32)) <<< ((0 : Int32) &&& 31)))])) rfl (hb hby d55_53)
 refine Goes.pre (U' := T5.setTop (mkF m 59 #[sR b, .val (.int ((i <<< ((1 : Int32) &&& 31)) + (1 : Int32)))] [(.int ((((((cl.getD i.toNatClampNeg 0) >>> ((0 : Int32) &&& 31)).toInt8.toInt32 &&& (255 : Int32)) <<< ((0 : Int32) &&& 31)) ||| ((((cl.getD i.toNatClampNeg 0) >>> ((8 : Int32) &&& 31)).toInt8.toInt32 &&& (255 : Int32)) <<< ((8 : Int32) &&& 31))).toUInt32.toUInt16.toUInt32.toInt32))])) (fun t k => st5 t (XS.ishl X5.here hx rfl (hb hby d55_56) rfl (XS.ior X5.here hx rfl (hb hby d55_57) rfl (XS.i2c X5.here hx rfl (hb hby d55_58) rfl k)))) ?_
 refine Goes.ret X5 (v := (some (.int (cl.getD i.toNatClampNeg 0)))) (fun h => by rw [hret] at h; cases h) hlk (by decide) (by decide) e5 (fun fs hr => retN X5 hx (t := .char) hret (by simp) (hb hby d55_59) (by rw [show nar .char ((((((cl.getD i.toNatClampNeg 0) >>> ((0 : Int32) &&& 31)).toInt8.toInt32 &&& (255 : Int32)) <<< ((0 : Int32) &&& 31)) ||| ((((cl.getD i.toNatClampNeg 0) >>> ((8 : Int32) &&& 31)).toInt8.toInt32 &&& (255 : Int32)) <<< ((8 : Int32) &&& 31))).toUInt32.toUInt16.toUInt32.toInt32) = (cl.getD i.toNatClampNeg 0) from own_u16 _ (own_gch cl i h1 h2 hlen hcA)]; exact hr)) ?_
 exact ⟨rfl, N0, rfl⟩
theorem ef_rm_uchG (m : MethodId) (x0 : Addr) (x1 : Int32) : entryFrame m #[(.ref x0), (.int x1)] 2 = mkF m 0 #[sR x0, sI x1] [] := by first | (simp [entryFrame, mkF, argsToLocals, Value.category]; done) | rfl
abbrev M56 : MethodName := ⟨"java/lang/StringUTF16", "charAt", "([BI)C"⟩
theorem d56_0 : decode B56 0 = .ok (.iload_n 1, 1) := by decide +kernel
theorem d56_1 : decode B56 1 = .ok (.aload_n 0, 1) := by decide +kernel
theorem d56_2 : decode B56 2 = .ok (.invokestatic 67, 3) := by decide +kernel
theorem pd__28I_5bB_29V : parseMethodDescriptor "(I[B)V" = some ⟨[.int, (.array .byte)], none⟩ := by decide +kernel
theorem d56_5 : decode B56 5 = .ok (.aload_n 0, 1) := by decide +kernel
theorem d56_6 : decode B56 6 = .ok (.iload_n 1, 1) := by decide +kernel
theorem d56_7 : decode B56 7 = .ok (.invokestatic 71, 3) := by decide +kernel
theorem pd__28_5bBI_29C : parseMethodDescriptor "([BI)C" = some ⟨[(.array .byte), .int], some .char⟩ := by decide +kernel
theorem d56_10 : decode B56 10 = .ok (.ireturn, 1) := by decide +kernel
def Q_rm_uchG (Z : State) (b : Addr) (kb : ClassId) (cl : List Int32) (i : Int32) (sf : Value) (h0 : Heap) (n0 : Nat) (v : Option Value) (h : Heap) (L : List Loc) : Prop := v = some (.int (cl.getD i.toNatClampNeg 0)) ∧ Fr n0 L ∧ h = h0
set_option maxRecDepth 65536 in
set_option maxHeartbeats 40000000 in
theorem rm_uchG (l : Launch) (Z : State) (a0 : Array Value) (hw : ∀ d ∈ tables_1, d.before a0 Z = true) (ws : List Jvm.Cond) (b : Addr) (kb : ClassId) (cl : List Int32) (i : Int32) (sf : Value) (h0 : Heap) (n0 : Nat) (Z0 : n0 ≤ h0.size) (V_b : Arv Z h0 b kb .byte (Int32.ofNat (2 * cl.length)) (cl.flatMap fun c => [.int (c >>> ((0 : Int32) &&& 31)).toInt8.toInt32, .int (c >>> ((8 : Int32) &&& 31)).toInt8.toInt32]) (.int (0 : Int32))) (sA : OAD Z (.int (1 : Int32))) (sH : OHI Z (.int (0 : Int32))) (sL : OLO Z (.int (8 : Int32))) (sF : OSF Z sf) (h1 : ¬ (i < (0 : Int32))) (h2 : i < Int32.ofNat cl.length) (hlen : cl.length ≤ 4096) (hcA : ∀ c ∈ cl, OwnCh c) (hsf : sf.isRef = true) (O : Old Z n0 h0) :
  Met l Z M56 jdk_52_method_83_code 2 (some .char) ws (Rm 3 0 0 40) #[(.ref b), (.int i)] h0 (Q_rm_uchG Z b kb cl i sf h0 n0) := by
 refine met_of (plainFor_of_name pn_java_lang_StringUTF16) (own := "java/lang/StringUTF16") rfl (fun m => ef_rm_uchG m b i) ?_
 intro p e s m below meth c s₁ hx hby hml hown hnm hZ X0 e0 hret hlk
 have N0 := Fr.nil n0
 show Goes p e below s _ _ _ (s₁.setTop (mkF m 0 #[sR b, sI i] []))
 refine Goes.pre (U' := s₁.setTop (mkF m 2 #[sR b, sI i] [(.ref b), (.int i)])) (fun t k => XS.iloadN X0.here hx rfl (hb hby d56_0) rfl (XS.aloadN X0.here hx rfl (hb hby d56_1) rfl rfl k)) ?_
 obtain ⟨_, _, ⟨T1, L1, k1, n1⟩, -, X1, ⟨Lc1, hQ1, l1, y1, z1⟩, st1⟩ := Jvm.LawKit.callS X0 hx (y := M57) hown (mvT hZ (wq hw 283 rfl)) (mvT hZ (wq hw 284 rfl)) (mvT hZ (wq hw 163 rfl)) (mvT hZ (wq hw 285 rfl)) (by decide) (backOf (W := 0) (rm_uIdxG l Z a0 hw [] b kb cl i sf h0 n0 Z0 V_b sF h1 h2 hlen hsf O) hZ (wq hw 285 rfl) (wq hw 163 rfl) (by decide) (by decide)) (g := (mkF m 2 #[sR b, sI i] [(.ref b), (.int i)])) rfl (by rw [hml]; rfl) (argsL := [(.int i), (.ref b)]) (rest := []) (lenOf pd__28I_5bB_29V rfl) rfl (by show 2 * 0 + _ ≤ _; exact Nat.le_of_eq rfl) (hb hby d56_2) (fun _ _ => ⟨rfl, e0, (by decide : 0 + 0 ≤ _), (by decide : 0 + 0 ≤ _)⟩)
 dsimp only [Pt.U, Pt.locs, Pt.cells, Pt.slots] at X1 l1 y1 z1 st1 hQ1
 subst l1 y1 z1
 obtain ⟨rfl, N1q, HQ1⟩ := hQ1
 have N1 := Fr.app N0 N1q
 refine Goes.pre (U' := T1.setTop (mkF m 7 #[sR b, sI i] [(.int i), (.ref b)])) (fun t k => st1 t (XS.aloadN X1.here hx rfl (hb hby d56_5) rfl rfl (XS.iloadN X1.here hx rfl (hb hby d56_6) rfl k))) ?_
 obtain ⟨_, _, ⟨T2, L2, k2, n2⟩, -, X2, ⟨Lc2, hQ2, l2, y2, z2⟩, st2⟩ := Jvm.LawKit.callS X1 hx (y := M55) hown (mvT hZ (wq hw 277 rfl)) (mvT hZ (wq hw 278 rfl)) (mvT hZ (wq hw 163 rfl)) (mvT hZ (wq hw 279 rfl)) (by decide) (backOf (W := 0) (rm_getChG l Z a0 hw [] b kb cl i h0 n0 Z0 V_b sA sH sL h1 h2 hlen hcA O) hZ (wq hw 279 rfl) (wq hw 163 rfl) (by decide) (by decide)) (g := (mkF m 7 #[sR b, sI i] [(.int i), (.ref b)])) rfl (by rw [hml]; rfl) (argsL := [(.ref b), (.int i)]) (rest := []) (lenOf pd__28_5bBI_29C rfl) rfl (by show 2 * 0 + _ ≤ _; exact Nat.le_of_eq rfl) (hb hby d56_7) (fun _ _ => ⟨rfl, HQ1, (by decide : 0 + 0 ≤ _), (by decide : 0 + 0 ≤ _)⟩)
 dsimp only [Pt.U, Pt.locs, Pt.cells, Pt.slots] at X2 l2 y2 z2 st2 hQ2
 subst l2 y2 z2
 obtain ⟨rfl, N2q, HQ2⟩ := hQ2
 have N2 := Fr.app N1 N2q
 refine Goes.pre (U' := T2.setTop (mkF m 10 #[sR b, sI i] [(.int (cl.getD i.toNatClampNeg 0))])) (fun t k => st2 t k) ?_
 refine Goes.ret X2 (v := (some (.int (cl.getD i.toNatClampNeg 0)))) (fun h => by rw [hret] at h; cases h) hlk (by decide) (by decide) HQ2 (fun fs hr => retN X2 hx (t := .char) hret (by simp) (hb hby d56_10) (by rw [show nar .char (cl.getD i.toNatClampNeg 0) = (cl.getD i.toNatClampNeg 0) from own_nch _ (own_gch cl i h1 h2 hlen hcA)]; exact hr)) ?_
 exact ⟨rfl, N2, rfl⟩
theorem ef_rm_chG (m : MethodId) (x0 : Addr) (x1 : Int32) : entryFrame m #[(.ref x0), (.int x1)] 2 = mkF m 0 #[sR x0, sI x1] [] := by first | (simp [entryFrame, mkF, argsToLocals, Value.category]; done) | rfl
abbrev M24 : MethodName := ⟨"java/lang/String", "charAt", "(I)C"⟩
theorem d24_0 : decode B24 0 = .ok (.aload_n 0, 1) := by decide +kernel
theorem d24_1 : decode B24 1 = .ok (.invokevirtual 492, 3) := by decide +kernel
theorem pd__28_29Z : parseMethodDescriptor "()Z" = some ⟨[], some .boolean⟩ := by decide +kernel
theorem d24_4 : decode B24 4 = .ok (.ifCond .eq 12, 3) := by decide +kernel
theorem d24_7 : decode B24 7 = .ok (.aload_n 0, 1) := by decide +kernel
theorem d24_8 : decode B24 8 = .ok (.getfield 9, 3) := by decide +kernel
theorem d24_11 : decode B24 11 = .ok (.iload_n 1, 1) := by decide +kernel
theorem d24_12 : decode B24 12 = .ok (.invokestatic 495, 3) := by decide +kernel
theorem d24_15 : decode B24 15 = .ok (.ireturn, 1) := by decide +kernel
theorem d24_16 : decode B24 16 = .ok (.aload_n 0, 1) := by decide +kernel
theorem d24_17 : decode B24 17 = .ok (.getfield 9, 3) := by decide +kernel
theorem d24_20 : decode B24 20 = .ok (.iload_n 1, 1) := by decide +kernel
theorem d24_21 : decode B24 21 = .ok (.invokestatic 498, 3) := by decide +kernel
theorem d24_24 : decode B24 24 = .ok (.ireturn, 1) := by decide +kernel
def Q_rm_chG (Z : State) (a : Addr) (b : Addr) (kb : ClassId) (cl : List Int32) (i : Int32) (cs : Int32) (sf : Value) (h0 : Heap) (n0 : Nat) (v : Option Value) (h : Heap) (L : List Loc) : Prop := v = some (.int (cl.getD i.toNatClampNeg 0)) ∧ Fr n0 L ∧ h = h0
set_option maxRecDepth 65536 in
set_option maxHeartbeats 40000000 in
theorem rm_chG (l : Launch) (Z : State) (a0 : Array Value) (hw : ∀ d ∈ tables_1, d.before a0 Z = true) (ws : List Jvm.Cond) (a : Addr) (b : Addr) (kb : ClassId) (cl : List Int32) (i : Int32) (cs : Int32) (sf : Value) (h0 : Heap) (n0 : Nat) (Z0 : n0 ≤ h0.size) (S_a : OwnStr Z h0 a b kb cl) (sC : OCS Z (.int cs)) (sA : OAD Z (.int (1 : Int32))) (sH : OHI Z (.int (0 : Int32))) (sL : OLO Z (.int (8 : Int32))) (sF : OSF Z sf) (h1 : ¬ (i < (0 : Int32))) (h2 : i < Int32.ofNat cl.length) (hlen : cl.length ≤ 4096) (hcs : ¬ (cs = (0 : Int32))) (hsf : sf.isRef = true) (O : Old Z n0 h0) :
  Met l Z M24 jdk_42_method_56_code 2 (some .char) ws (Rm 4 0 0 53) #[(.ref a), (.int i)] h0 (Q_rm_chG Z a b kb cl i cs sf h0 n0) := by
 refine met_of (plainFor_of_name pn_java_lang_String) (own := "java/lang/String") rfl (fun m => ef_rm_chG m a i) ?_
 intro p e s m below meth c s₁ hx hby hml hown hnm hZ X0 e0 hret hlk
 have N0 := Fr.nil n0
 show Goes p e below s _ _ _ (s₁.setTop (mkF m 0 #[sR a, sI i] []))
 obtain ⟨E_a, Fv_a, hcA, hSt⟩ := S_a
 rcases hSt with ⟨Fc_a, V_b, hleA⟩ | ⟨Fc_a, V_b, hexA⟩
 ·
  refine Goes.pre (U' := s₁.setTop (mkF m 1 #[sR a, sI i] [(.ref a)])) (fun t k => XS.aloadN X0.here hx rfl (hb hby d24_0) rfl rfl k) ?_
  obtain ⟨cq1, kq1, q1a, q1b, q1c⟩ := isOf hZ e0 E_a
  obtain ⟨_, _, ⟨T1, L1, k1, n1⟩, -, X1, ⟨Lc1, hQ1, l1, y1, z1⟩, st1⟩ := X0.virtualBack hx (y := M25) (z := M25) hown (mvT hZ (wq hw 145 rfl)) (mvT hZ (wq hw 146 rfl)) (notFace_of_selects (args := #[]) (mvT hZ (wq hw 148 rfl))) (mvT hZ (wq hw 148 rfl)) (mvT hZ (wq hw 147 rfl)) (by decide) (backOf (W := 0) (rm_isL0 l Z a0 hw [] a cs h0 n0 Z0 sC Fc_a hcs O) hZ (wq hw 149 rfl) (wq hw 8 rfl) (by decide) (by decide)) q1a q1c (g := (mkF m 1 #[sR a, sI i] [(.ref a)])) rfl (by rw [hml]; rfl) (Steps.refl _) (argsL := []) (rest := []) (lenOf pd__28_29Z rfl) rfl (by show 2 * 0 + _ ≤ _; exact Nat.le_of_eq rfl) (hb hby d24_1) (fun _ _ => ⟨rfl, e0, (by decide : 0 + 0 ≤ _), (by decide : 0 + 0 ≤ _)⟩)
  dsimp only [Pt.U, Pt.locs, Pt.cells, Pt.slots] at X1 l1 y1 z1 st1 hQ1
  subst l1 y1 z1
  obtain ⟨rfl, N1q, HQ1⟩ := hQ1
  have N1 := Fr.app N0 N1q
  refine Goes.pre (U' := T1.setTop (mkF m 4 #[sR a, sI i] [(.int (1 : Int32))])) (fun t k => st1.trans k) ?_
  have hc4 : ¬ ((1 : Int32) = (0 : Int32)) := by decide
  refine Goes.pre (U' := T1.setTop (mkF m 8 #[sR a, sI i] [(.ref a)])) (fun t k => XS.ifNo X1.here hx rfl (hb hby d24_4) rfl ((if0 _ _).trans (feq hc4).1) (XS.aloadN X1.here hx rfl (hb hby d24_7) rfl rfl k)) ?_
  obtain ⟨T2, X2, e2, st2⟩ := getF X1 hx hZ hown (host := "") (Or.inl (wq hw 26 rfl)) Via.refl HQ1 Fv_a (g := (mkF m 8 #[sR a, sI i] [(.ref a)])) rfl rfl (hb hby d24_8)
  refine Goes.pre (U' := T2.setTop (mkF m 12 #[sR a, sI i] [(.int i), (.ref b)])) (fun t k => st2 t (XS.iloadN X2.here hx rfl (hb hby d24_11) rfl k)) ?_
  obtain ⟨_, _, ⟨T3, L3, k3, n3⟩, -, X3, ⟨Lc3, hQ3, l3, y3, z3⟩, st3⟩ := Jvm.LawKit.callS X2 hx (y := M26) hown (mvT hZ (wq hw 150 rfl)) (mvT hZ (wq hw 151 rfl)) (mvT hZ (wq hw 85 rfl)) (mvT hZ (wq hw 152 rfl)) (by decide) (backOf (W := 0) (rm_l1chG l Z a0 hw [] b kb cl i sf h0 n0 Z0 V_b sF h1 h2 hlen hcA hleA hsf O) hZ (wq hw 152 rfl) (wq hw 85 rfl) (by decide) (by decide)) (g := (mkF m 12 #[sR a, sI i] [(.int i), (.ref b)])) rfl (by rw [hml]; rfl) (argsL := [(.ref b), (.int i)]) (rest := []) (lenOf pd__28_5bBI_29C rfl) rfl (by show 2 * 0 + _ ≤ _; exact Nat.le_of_eq rfl) (hb hby d24_12) (fun _ _ => ⟨rfl, e2, (by decide : 0 + 0 ≤ _), (by decide : 0 + 0 ≤ _)⟩)
  dsimp only [Pt.U, Pt.locs, Pt.cells, Pt.slots] at X3 l3 y3 z3 st3 hQ3
  subst l3 y3 z3
  obtain ⟨rfl, N3q, HQ3⟩ := hQ3
  have N3 := Fr.app N1 N3q
  refine Goes.pre (U' := T3.setTop (mkF m 15 #[sR a, sI i] [(.int (cl.getD i.toNatClampNeg 0))])) (fun t k => st3 t k) ?_
  refine Goes.ret X3 (v := (some (.int (cl.getD i.toNatClampNeg 0)))) (fun h => by rw [hret] at h; cases h) hlk (by decide) (by decide) HQ3 (fun fs hr => retN X3 hx (t := .char) hret (by simp) (hb hby d24_15) (by rw [show nar .char (cl.getD i.toNatClampNeg 0) = (cl.getD i.toNatClampNeg 0) from own_nch _ (own_gch cl i h1 h2 hlen hcA)]; exact hr)) ?_
  exact ⟨rfl, N3, rfl⟩
 ·
  refine Goes.pre (U' := s₁.setTop (mkF m 1 #[sR a, sI i] [(.ref a)])) (fun t k => XS.aloadN X0.here hx rfl (hb hby d24_0) rfl rfl k) ?_
  obtain ⟨cq4, kq4, q4a, q4b, q4c⟩ := isOf hZ e0 E_a
  obtain ⟨_, _, ⟨T4, L4, k4, n4⟩, -, X4, ⟨Lc4, hQ4, l4, y4, z4⟩, st4⟩ := X0.virtualBack hx (y := M25) (z := M25) hown (mvT hZ (wq hw 145 rfl)) (mvT hZ (wq hw 146 rfl)) (notFace_of_selects (args := #[]) (mvT hZ (wq hw 148 rfl))) (mvT hZ (wq hw 148 rfl)) (mvT hZ (wq hw 147 rfl)) (by decide) (backOf (W := 0) (rm_isL1 l Z a0 hw [] a cs h0 n0 Z0 sC Fc_a hcs O) hZ (wq hw 149 rfl) (wq hw 8 rfl) (by decide) (by decide)) q4a q4c (g := (mkF m 1 #[sR a, sI i] [(.ref a)])) rfl (by rw [hml]; rfl) (Steps.refl _) (argsL := []) (rest := []) (lenOf pd__28_29Z rfl) rfl (by show 2 * 0 + _ ≤ _; exact Nat.le_of_eq rfl) (hb hby d24_1) (fun _ _ => ⟨rfl, e0, (by decide : 0 + 0 ≤ _), (by decide : 0 + 0 ≤ _)⟩)
  dsimp only [Pt.U, Pt.locs, Pt.cells, Pt.slots] at X4 l4 y4 z4 st4 hQ4
  subst l4 y4 z4
  obtain ⟨rfl, N4q, HQ4⟩ := hQ4
  have N4 := Fr.app N0 N4q
  refine Goes.pre (U' := T4.setTop (mkF m 4 #[sR a, sI i] [(.int (0 : Int32))])) (fun t k => st4.trans k) ?_
  have hc4 : (0 : Int32) = (0 : Int32) := rfl
  refine Goes.pre (U' := T4.setTop (mkF m 17 #[sR a, sI i] [(.ref a)])) (fun t k => XS.ifYes X4.here hx rfl (pc0 := 4) (pc' := 16) rfl (hb hby d24_4) rfl ((if0 _ _).trans (teq hc4).1) (by decide) (by decide) (XS.aloadN X4.here hx rfl (hb hby d24_16) rfl rfl k)) ?_
  obtain ⟨T5, X5, e5, st5⟩ := getF X4 hx hZ hown (host := "") (Or.inl (wq hw 26 rfl)) Via.refl HQ4 Fv_a (g := (mkF m 17 #[sR a, sI i] [(.ref a)])) rfl rfl (hb hby d24_17)
  refine Goes.pre (U' := T5.setTop (mkF m 21 #[sR a, sI i] [(.int i), (.ref b)])) (fun t k => st5 t (XS.iloadN X5.here hx rfl (hb hby d24_20) rfl k)) ?_
  obtain ⟨_, _, ⟨T6, L6, k6, n6⟩, -, X6, ⟨Lc6, hQ6, l6, y6, z6⟩, st6⟩ := Jvm.LawKit.callS X5 hx (y := M56) hown (mvT hZ (wq hw 280 rfl)) (mvT hZ (wq hw 281 rfl)) (mvT hZ (wq hw 163 rfl)) (mvT hZ (wq hw 282 rfl)) (by decide) (backOf (W := 0) (rm_uchG l Z a0 hw [] b kb cl i sf h0 n0 Z0 V_b sA sH sL sF h1 h2 hlen hcA hsf O) hZ (wq hw 282 rfl) (wq hw 163 rfl) (by decide) (by decide)) (g := (mkF m 21 #[sR a, sI i] [(.int i), (.ref b)])) rfl (by rw [hml]; rfl) (argsL := [(.ref b), (.int i)]) (rest := []) (lenOf pd__28_5bBI_29C rfl) rfl (by show 2 * 0 + _ ≤ _; exact Nat.le_of_eq rfl) (hb hby d24_21) (fun _ _ => ⟨rfl, e5, (by decide : 0 + 0 ≤ _), (by decide : 0 + 0 ≤ _)⟩)
  dsimp only [Pt.U, Pt.locs, Pt.cells, Pt.slots] at X6 l6 y6 z6 st6 hQ6
  subst l6 y6 z6
  obtain ⟨rfl, N6q, HQ6⟩ := hQ6
  have N6 := Fr.app N4 N6q
  refine Goes.pre (U' := T6.setTop (mkF m 24 #[sR a, sI i] [(.int (cl.getD i.toNatClampNeg 0))])) (fun t k => st6 t k) ?_
  refine Goes.ret X6 (v := (some (.int (cl.getD i.toNatClampNeg 0)))) (fun h => by rw [hret] at h; cases h) hlk (by decide) (by decide) HQ6 (fun fs hr => retN X6 hx (t := .char) hret (by simp) (hb hby d24_24) (by rw [show nar .char (cl.getD i.toNatClampNeg 0) = (cl.getD i.toNatClampNeg 0) from own_nch _ (own_gch cl i h1 h2 hlen hcA)]; exact hr)) ?_
  exact ⟨rfl, N6, rfl⟩
def OwnByt (Z : State) (h : Heap) (b : Addr) (kb : ClassId) (cl : List Int32) : Prop :=
  (Arv Z h b kb .byte (Int32.ofNat cl.length) (cl.map fun c => .int c.toInt8.toInt32) (.int (0 : Int32)) ∧ ∀ c ∈ cl, ¬ ((255 : Int32) < c)) ∨
  (Arv Z h b kb .byte (Int32.ofNat (2 * cl.length)) (cl.flatMap fun c => [.int (c >>> ((0 : Int32) &&& 31)).toInt8.toInt32, .int (c >>> ((8 : Int32) &&& 31)).toInt8.toInt32]) (.int (0 : Int32)) ∧ ∃ c ∈ cl, (255 : Int32) < c)
theorem OwnByt.ext {Z : State} {h h' : Heap} {b : Addr} {kb : ClassId} {cs : List Int32} (F : OwnByt Z h b kb cs) (E : Ext h h') : OwnByt Z h' b kb cs := by
  rcases F with ⟨q1, q2⟩ | ⟨q1, q2⟩
  · exact Or.inl ⟨q1.ext E, q2⟩
  · exact Or.inr ⟨q1.ext E, q2⟩
theorem OwnByt.keep {Z : State} {h h' : Heap} {b : Addr} {kb : ClassId} {cs : List Int32} {ws : List Addr} (F : OwnByt Z h b kb cs) (K : Keep h h' ws) (n1 : b ∉ ws) : OwnByt Z h' b kb cs := by
  rcases F with ⟨q1, q2⟩ | ⟨q1, q2⟩
  · exact Or.inl ⟨q1.keep K n1, q2⟩
  · exact Or.inr ⟨q1.keep K n1, q2⟩
theorem OwnByt.lt {Z : State} {h : Heap} {b : Addr} {kb : ClassId} {cs : List Int32} (F : OwnByt Z h b kb cs) : b < h.size := by
  rcases F with ⟨q1, q2⟩ | ⟨q1, q2⟩ <;> exact q1.lt
theorem own_push {Z : State} {h h' : Heap} {a : Addr} {k : ClassId} {ty : FieldType} {z j : Int32} {vs : List Value} {v dv : Value} {c : Cell} (A : Arr Z h a c ty) (q1 : c.cls = k) (S : c.slots.size = z.toNatClampNeg) (q3 : ¬ z < 0) (H : Has c vs dv) (G : ∀ i, i < c.slots.size → fits ty (vs.getD i dv) = true) (hv : fits ty v = true) (W : Wr h h' a j.toNatClampNeg v) (hj : j.toNatClampNeg = vs.length) : Arv Z h' a k ty z (vs ++ [v]) dv := by
  obtain ⟨c', A', p1, p2, p3, p4, p5⟩ := (show Arv Z h a k ty z vs dv from ⟨c, A, q1, S, q3, H, G⟩).pad (pad_rep vs dv 1)
  obtain rfl : c = c' := Option.some.inj (A.1.symm.trans A'.1)
  have q := Arv.set A' p1 p2 p3 p4 p5 hv W vs.length hj (by simp)
  have e : (vs ++ List.replicate 1 dv).set vs.length v = vs ++ [v] := by simp
  rw [e] at q
  exact q
theorem own_inc (i : Nat) : Int32.ofNat i + (1 : Int32) = Int32.ofNat (i + 1) := (Int32.ofNat_add i 1).symm
theorem own_ixn (i : Nat) (h : i ≤ 8192) : (Int32.ofNat i).toNatClampNeg = i := by
  have a := own_ofn i h
  have b := nat_of (j := Int32.ofNat i) (by rw [Int32.lt_iff_toInt_lt, a, show (0 : Int32).toInt = 0 from by decide]; omega)
  omega
theorem own_ix (i n : Nat) (h : i < n) (hn : n ≤ 8192) : ¬ (Int32.ofNat i < (0 : Int32)) ∧ Int32.ofNat i < Int32.ofNat n := by
  have a := own_ofn i (by omega)
  have b := own_ofn n hn
  rw [Int32.lt_iff_toInt_lt, Int32.lt_iff_toInt_lt, a, b, show (0 : Int32).toInt = 0 from by decide]
  omega
theorem own_neg (n : Nat) (hn : n ≤ 8192) : ¬ (Int32.ofNat n < (0 : Int32)) := by
  have b := own_ofn n hn
  rw [Int32.lt_iff_toInt_lt, b, show (0 : Int32).toInt = 0 from by decide]
  omega
theorem own_lti (i n : Nat) (h : Int32.ofNat i < Int32.ofNat n) (hi : i ≤ n) (hn : n ≤ 8192) : i < n := by
  have a := own_ofn i (by omega)
  have b := own_ofn n hn
  rw [Int32.lt_iff_toInt_lt, a, b] at h
  omega
theorem own_nlti (i n : Nat) (h : ¬ (Int32.ofNat i < Int32.ofNat n)) (hi : i ≤ n) (hn : n ≤ 8192) : i = n := by
  have a := own_ofn i (by omega)
  have b := own_ofn n hn
  rw [Int32.lt_iff_toInt_lt, a, b] at h
  omega
theorem own_nei (i n : Nat) (h : i < n) (hn : n ≤ 8192) : ¬ (Int32.ofNat i = Int32.ofNat n) := fun q => by
  have a := own_ofn i (by omega)
  have b := own_ofn n hn
  rw [q] at a
  omega
theorem own_ne0 (cl : List Int32) (h : cl ≠ []) (hn : cl.length ≤ 8192) : ¬ (Int32.ofNat cl.length = (0 : Int32)) := fun q => by
  have b := own_ofn cl.length hn
  rw [q, show (0 : Int32).toInt = 0 from by decide] at b
  exact h (List.length_eq_zero_iff.mp (by omega))
theorem own_getm (cl : List Int32) (i : Nat) (h : i < cl.length) (hn : cl.length ≤ 8192) : (cl.map Value.int).getD (Int32.ofNat i).toNatClampNeg (.int (0 : Int32)) = .int (cl.getD i 0) := by
  rw [own_ixn i (by omega)]
  simp [List.getD_eq_getElem?_getD, h]
theorem own_tks (cl : List Int32) (i : Nat) (h : i < cl.length) : cl.take i ++ [cl.getD i 0] = cl.take (i + 1) := by
  rw [List.take_add_one, List.getD_eq_getElem?_getD, List.getElem?_eq_getElem h]
  rfl
theorem own_tkm (f : Int32 → Value) (cl : List Int32) (i : Nat) (h : i < cl.length) : (cl.take i).map f ++ [f (cl.getD i 0)] = (cl.take (i + 1)).map f := by
  rw [← own_tks cl i h, List.map_append]
  rfl
theorem own_tkf (f g : Int32 → Value) (cl : List Int32) (i : Nat) (h : i < cl.length) : ((cl.take i).flatMap fun c => [f c, g c]) ++ [f (cl.getD i 0)] ++ [g (cl.getD i 0)] = (cl.take (i + 1)).flatMap fun c => [f c, g c] := by
  rw [← own_tks cl i h, List.flatMap_append]
  simp
theorem own_fml (f g : Int32 → Value) (cl : List Int32) (i : Nat) (h : i ≤ cl.length) : ((cl.take i).flatMap fun c => [f c, g c]).length = 2 * i := by
  have q : ∀ l : List Int32, (l.flatMap fun c => [f c, g c]).length = 2 * l.length := fun l => by
    induction l with
    | nil => rfl
    | cons a l ih => simp only [List.flatMap_cons, List.length_append, ih, List.length_cons, List.length_nil]; omega
  rw [q, List.length_take]
  omega
theorem own_tkl (cl : List Int32) (i : Nat) (h : i < cl.length) (q : ∀ c ∈ cl.take i, ¬ ((255 : Int32) < c)) (r : ¬ ((255 : Int32) < cl.getD i 0)) : ∀ c ∈ cl.take (i + 1), ¬ ((255 : Int32) < c) := by
  rw [← own_tks cl i h]
  intro c hc
  rcases List.mem_append.mp hc with k | k
  · exact q c k
  · rw [List.mem_singleton.mp k]
    exact r
theorem own_gmem (cl : List Int32) (i : Nat) (h : i < cl.length) : cl.getD i 0 ∈ cl := by
  rw [List.getD_eq_getElem?_getD, List.getElem?_eq_getElem h]
  exact List.getElem_mem h
theorem own_shl (n : Nat) (hn : n ≤ 4096) : Int32.ofNat (2 * n) = Int32.ofNat n <<< ((1 : Int32) &&& 31) := by
  have a := c_ishl (Int32.ofNat n) 1 1 (by decide)
  have b := own_ofn n (by omega)
  have d := own_ofn (2 * n) (by omega)
  have r := rng32 (Int32.ofNat n <<< ((1 : Int32) &&& 31))
  apply Int32.toInt_inj.mp
  omega
theorem own_sh1 (i : Nat) (hi : i ≤ 4095) : (Int32.ofNat i <<< ((1 : Int32) &&& 31)) = Int32.ofNat (2 * i) ∧ (Int32.ofNat i <<< ((1 : Int32) &&& 31)) + (1 : Int32) = Int32.ofNat (2 * i + 1) := by
  rw [← own_shl i (by omega)]
  exact ⟨rfl, own_inc _⟩
theorem own_p0 (i n : Nat) (h : 2 * i + 1 < n) (hn : n ≤ 8192) : ¬ ((Int32.ofNat i <<< ((1 : Int32) &&& 31)) < 0) ∧ (Int32.ofNat i <<< ((1 : Int32) &&& 31)) < Int32.ofNat n := by
  rw [(own_sh1 i (by omega)).1]
  exact own_ix _ _ (by omega) hn
theorem own_p1 (i n : Nat) (h : 2 * i + 1 < n) (hn : n ≤ 8192) : ¬ (((Int32.ofNat i <<< ((1 : Int32) &&& 31)) + (1 : Int32)) < 0) ∧ ((Int32.ofNat i <<< ((1 : Int32) &&& 31)) + (1 : Int32)) < Int32.ofNat n := by
  rw [(own_sh1 i (by omega)).2]
  exact own_ix _ _ (by omega) hn
theorem own_c0 : nar .byte ((((Int32.ofNat n - Int32.ofNat n).toUInt32 >>> ((31 : Int32) &&& 31).toUInt32).toInt32).toInt8.toInt32) = (0 : Int32) := by
  rw [Int32.sub_self]
  decide
theorem own_c1 (n : Nat) (h : 0 < n) (hn : n ≤ 4096) : nar .byte ((((Int32.ofNat n - Int32.ofNat (2 * n)).toUInt32 >>> ((31 : Int32) &&& 31).toUInt32).toInt32).toInt8.toInt32) = (1 : Int32) := by
  have a := c_isub (Int32.ofNat n) (Int32.ofNat (2 * n))
  have b := own_ofn n (by omega)
  have d := own_ofn (2 * n) (by omega)
  have r := rng32 (Int32.ofNat n - Int32.ofNat (2 * n))
  have q := c_iushr (Int32.ofNat n - Int32.ofNat (2 * n)) 31 31 (by decide) (by decide)
  have e : ((Int32.ofNat n - Int32.ofNat (2 * n)).toUInt32 >>> ((31 : Int32) &&& 31).toUInt32).toInt32 = (1 : Int32) := by
    apply Int32.toInt_inj.mp
    have k : (1 : Int32).toInt = 1 := by decide
    omega
  rw [e]
  decide
theorem own_cA {c : Int32} {cs : List Int32} (h : OwnCh c) (hs : ∀ x ∈ cs, OwnCh x) : ∀ x ∈ c :: cs, OwnCh x := by
  intro x hx
  rcases List.mem_cons.mp hx with q | q
  · rw [q]; exact h
  · exact hs x q
theorem own_cN : ∀ x ∈ ([] : List Int32), OwnCh x := fun x hx => by cases hx
theorem own_eA {c : Int32} {cs : List Int32} (h : ¬ ((255 : Int32) < c)) (hs : ∀ x ∈ cs, ¬ ((255 : Int32) < x)) : ∀ x ∈ c :: cs, ¬ ((255 : Int32) < x) := by
  intro x hx
  rcases List.mem_cons.mp hx with q | q
  · rw [q]; exact h
  · exact hs x q
theorem own_eN : ∀ x ∈ ([] : List Int32), ¬ ((255 : Int32) < x) := fun x hx => by cases hx
theorem ef_rm_cmpIG (m : MethodId) (x0 : Addr) (x1 : Int32) (x2 : Addr) (x3 : Int32) (x4 : Int32) : entryFrame m #[(.ref x0), (.int x1), (.ref x2), (.int x3), (.int x4)] 7 = mkF m 0 #[sR x0, sI x1, sR x2, sI x3, sI x4, .unset, .unset] [] := by first | (simp [entryFrame, mkF, argsToLocals, Value.category]; done) | rfl
abbrev M30 : MethodName := ⟨"java/lang/StringUTF16", "compress", "([CI[BII)I"⟩
theorem d30_0 : decode B30 0 = .ok (.iconst 0, 1) := by decide +kernel
theorem d30_1 : decode B30 1 = .ok (.istore 5, 2) := by decide +kernel
theorem d30_3 : decode B30 3 = .ok (.iload 5, 2) := by decide +kernel
theorem d30_5 : decode B30 5 = .ok (.iload 4, 2) := by decide +kernel
theorem d30_7 : decode B30 7 = .ok (.if_icmp .ge 37, 3) := by decide +kernel
theorem d30_10 : decode B30 10 = .ok (.aload_n 0, 1) := by decide +kernel
theorem d30_11 : decode B30 11 = .ok (.iload_n 1, 1) := by decide +kernel
theorem d30_12 : decode B30 12 = .ok (.caload, 1) := by decide +kernel
theorem d30_13 : decode B30 13 = .ok (.istore 6, 2) := by decide +kernel
theorem d30_15 : decode B30 15 = .ok (.iload 6, 2) := by decide +kernel
theorem d30_17 : decode B30 17 = .ok (.sipush 255, 3) := by decide +kernel
theorem d30_20 : decode B30 20 = .ok (.if_icmp .le 6, 3) := by decide +kernel
theorem d30_23 : decode B30 23 = .ok (.iload 5, 2) := by decide +kernel
theorem d30_25 : decode B30 25 = .ok (.ireturn, 1) := by decide +kernel
theorem d30_26 : decode B30 26 = .ok (.aload_n 2, 1) := by decide +kernel
theorem d30_27 : decode B30 27 = .ok (.iload_n 3, 1) := by decide +kernel
theorem d30_28 : decode B30 28 = .ok (.iload 6, 2) := by decide +kernel
theorem d30_30 : decode B30 30 = .ok (.i2b, 1) := by decide +kernel
theorem d30_31 : decode B30 31 = .ok (.bastore, 1) := by decide +kernel
theorem d30_32 : decode B30 32 = .ok (.iinc 1 1, 3) := by decide +kernel
theorem d30_35 : decode B30 35 = .ok (.iinc 3 1, 3) := by decide +kernel
theorem d30_38 : decode B30 38 = .ok (.iinc 5 1, 3) := by decide +kernel
theorem d30_41 : decode B30 41 = .ok (.goto (-38), 3) := by decide +kernel
theorem d30_44 : decode B30 44 = .ok (.iload 4, 2) := by decide +kernel
theorem d30_46 : decode B30 46 = .ok (.ireturn, 1) := by decide +kernel
def Q_rm_cmpIG (Z : State) (d : Addr) (kd : ClassId) (b : Addr) (kb : ClassId) (cl : List Int32) (h0 : Heap) (n0 : Nat) (v : Option Value) (h : Heap) (L : List Loc) : Prop := ∃ (j : Nat) (vs : List Value), v = some (.int (Int32.ofNat j)) ∧ Fr n0 L ∧ Keep h0 h [b] ∧ Arv Z h b kb .byte (Int32.ofNat cl.length) vs (.int (0 : Int32)) ∧ ((j = cl.length ∧ vs = (cl.map fun c => .int c.toInt8.toInt32) ∧ ∀ c ∈ cl, ¬ ((255 : Int32) < c)) ∨ (j < cl.length ∧ (255 : Int32) < cl.getD j 0))
set_option maxRecDepth 65536 in
set_option maxHeartbeats 40000000 in
theorem rm_cmpIG (l : Launch) (Z : State) (a0 : Array Value) (hw : ∀ d ∈ tables_1, d.before a0 Z = true) (ws : List Jvm.Cond) (d : Addr) (kd : ClassId) (b : Addr) (kb : ClassId) (cl : List Int32) (h0 : Heap) (n0 : Nat) (Z0 : n0 ≤ h0.size) (V_d : Arv Z h0 d kd .char (Int32.ofNat cl.length) (cl.map Value.int) (.int (0 : Int32))) (V_b : Arv Z h0 b kb .byte (Int32.ofNat cl.length) [] (.int (0 : Int32))) (hlen : cl.length ≤ 3) (ne_d_b : d ≠ b) (g_b : n0 ≤ b) :
  Met l Z M30 jdk_52_method_21_code 7 (some .int) ws (Rm 0 0 0 0) #[(.ref d), (.int (0 : Int32)), (.ref b), (.int (0 : Int32)), (.int (Int32.ofNat cl.length))] h0 (Q_rm_cmpIG Z d kd b kb cl h0 n0) := by
 refine met_of (plainFor_of_name pn_java_lang_StringUTF16) (own := "java/lang/StringUTF16") rfl (fun m => ef_rm_cmpIG m d (0 : Int32) b (0 : Int32) (Int32.ofNat cl.length)) ?_
 intro p e s m below meth c s₁ hx hby hml hown hnm hZ X0 e0 hret hlk
 have N0 := Fr.nil n0
 have K0 := Keep.refl h0 [b]
 show Goes p e below s _ _ _ (s₁.setTop (mkF m 0 #[sR d, sI (0 : Int32), sR b, sI (0 : Int32), sI (Int32.ofNat cl.length), .unset, .unset] []))
 refine Goes.pre (U' := s₁.setTop (mkF m 3 #[sR d, sI (0 : Int32), sR b, sI (0 : Int32), sI (Int32.ofNat cl.length), sI (0 : Int32), .unset] [])) (fun t k => XS.iconst X0.here hx rfl (hb hby d30_0) (XS.istore X0.here hx rfl (hb hby d30_1) rfl (l' := #[sR d, sI (0 : Int32), sR b, sI (0 : Int32), sI (Int32.ofNat cl.length), sI (0 : Int32), .unset]) rfl k)) ?_
 have J3_1 : ∀ (kk : Nat) (i : Nat) (sl : Slot) (hs : sl = .unset ∨ ∃ z, sl = sI z) (hi : i ≤ cl.length) (hl : ∀ c ∈ cl.take i, ¬ ((255 : Int32) < c)) (hm : cl.length - i = kk) (T1 : State) (h1 : Heap) (lc1 : List Loc), Stand p l e (Rm 0 0 0 0) s m #[(.ref d), (.int (0 : Int32)), (.ref b), (.int (0 : Int32)), (.int (Int32.ofNat cl.length))] below meth c T1 lc1 0 0 → T1.heap = h1 → Fr n0 lc1 → n0 ≤ h1.size → Keep h0 h1 [b] → Arv Z h1 d kd .char (Int32.ofNat cl.length) (cl.map Value.int) (.int (0 : Int32)) → Arv Z h1 b kb .byte (Int32.ofNat cl.length) ((cl.take i).map fun c => .int c.toInt8.toInt32) (.int (0 : Int32)) → Goes p e below s (Q_rm_cmpIG Z d kd b kb cl h0 n0) (Rm 0 0 0 0).cells (Rm 0 0 0 0).slots (T1.setTop (mkF m 3 #[sR d, sI (Int32.ofNat i), sR b, sI (Int32.ofNat i), sI (Int32.ofNat cl.length), sI (Int32.ofNat i), sl] [])) := by
  intro kk
  induction kk using Nat.strongRecOn with
  | ind kk ih =>
   intro i sl hs hi hl hm T1 h1 lc1 X1 e1 N1 Z1 K1 V_d V_b
   rcases hs with rfl | ⟨z6, rfl⟩
   ·
    refine Goes.pre (U' := T1.setTop (mkF m 7 #[sR d, sI (Int32.ofNat i), sR b, sI (Int32.ofNat i), sI (Int32.ofNat cl.length), sI (Int32.ofNat i), .unset] [(.int (Int32.ofNat cl.length)), (.int (Int32.ofNat i))])) (fun t k => XS.iload X1.here hx rfl (hb hby d30_3) rfl (XS.iload X1.here hx rfl (hb hby d30_5) rfl k)) ?_
    by_cases hc7 : (Int32.ofNat i) < (Int32.ofNat cl.length)
    ·
     refine Goes.pre (U' := T1.setTop (mkF m 12 #[sR d, sI (Int32.ofNat i), sR b, sI (Int32.ofNat i), sI (Int32.ofNat cl.length), sI (Int32.ofNat i), .unset] [(.int (Int32.ofNat i)), (.ref d)])) (fun t k => XS.icmpNo X1.here hx rfl (hb hby d30_7) rfl (tlt hc7).2.1 (XS.aloadN X1.here hx rfl (hb hby d30_10) rfl rfl (XS.iloadN X1.here hx rfl (hb hby d30_11) rfl k))) ?_
     obtain ⟨cl2, Ar2, q2, Sz2, Ng2, Hs2, Ft2⟩ := id V_d
     have hin2 := inb_of (j := (Int32.ofNat i)) Sz2 (own_ix i _ (own_lti _ _ hc7 hi (Nat.le_trans hlen (by decide))) (Nat.le_trans hlen (by decide)))
     refine Goes.pre (U' := T1.setTop (mkF m 20 #[sR d, sI (Int32.ofNat i), sR b, sI (Int32.ofNat i), sI (Int32.ofNat cl.length), sI (Int32.ofNat i), sI (cl.getD i 0)] [(.int (255 : Int32)), (.int (cl.getD i 0))])) (fun t k => X1.caload hx (j := (Int32.ofNat i)) (v := (.int (cl.getD i 0))) (by rw [e1]; exact Ar2.1) (State.isArrayOf_alike hZ.alike Ar2.2.1) Ar2.2.2 hin2 (Has.at Hs2 hin2 (own_getm cl i (own_lti _ _ hc7 hi (Nat.le_trans hlen (by decide))) (Nat.le_trans hlen (by decide)))) (g := (mkF m 12 #[sR d, sI (Int32.ofNat i), sR b, sI (Int32.ofNat i), sI (Int32.ofNat cl.length), sI (Int32.ofNat i), .unset] [(.int (Int32.ofNat i)), (.ref d)])) rfl rfl (hb hby d30_12) _ (XS.istore X1.here hx rfl (hb hby d30_13) rfl (l' := #[sR d, sI (Int32.ofNat i), sR b, sI (Int32.ofNat i), sI (Int32.ofNat cl.length), sI (Int32.ofNat i), sI (cl.getD i 0)]) rfl (XS.iload X1.here hx rfl (hb hby d30_15) rfl (XS.sipush X1.here hx rfl (hb hby d30_17) k)))) ?_
     by_cases hc20 : (255 : Int32) < (cl.getD i 0)
     ·
      refine Goes.pre (U' := T1.setTop (mkF m 25 #[sR d, sI (Int32.ofNat i), sR b, sI (Int32.ofNat i), sI (Int32.ofNat cl.length), sI (Int32.ofNat i), sI (cl.getD i 0)] [(.int (Int32.ofNat i))])) (fun t k => XS.icmpNo X1.here hx rfl (hb hby d30_20) rfl (tlt hc20).2.2.2 (XS.iload X1.here hx rfl (hb hby d30_23) rfl k)) ?_
      refine Goes.ret X1 (v := (some (.int (Int32.ofNat i)))) (fun h => by rw [hret] at h; cases h) hlk (by decide) (by decide) e1 (fun fs hr => retI X1 hx hret (hb hby d30_25) hr) ?_
      exact ⟨i, _, rfl, N1, K1, V_b, Or.inr ⟨own_lti _ _ hc7 hi (Nat.le_trans hlen (by decide)), hc20⟩⟩
     ·
      refine Goes.pre (U' := T1.setTop (mkF m 31 #[sR d, sI (Int32.ofNat i), sR b, sI (Int32.ofNat i), sI (Int32.ofNat cl.length), sI (Int32.ofNat i), sI (cl.getD i 0)] [(.int ((cl.getD i 0).toInt8.toInt32)), (.int (Int32.ofNat i)), (.ref b)])) (fun t k => XS.icmpYes X1.here hx rfl (pc0 := 20) (pc' := 26) rfl (hb hby d30_20) rfl (flt hc20).2.2.2 (by decide) (by decide) (XS.aloadN X1.here hx rfl (hb hby d30_26) rfl rfl (XS.iloadN X1.here hx rfl (hb hby d30_27) rfl (XS.iload X1.here hx rfl (hb hby d30_28) rfl (XS.i2b X1.here hx rfl (hb hby d30_30) rfl k))))) ?_
      obtain ⟨cl3, Ar3, q3, Sz3, Ng3, Hs3, Ft3⟩ := id V_b
      obtain ⟨T3, h3, X3, e3, W3, st3⟩ := stB X1 hx hZ e1 Ar3 (j := (Int32.ofNat i)) (inb_of Sz3 (own_ix i _ (own_lti _ _ hc7 hi (Nat.le_trans hlen (by decide))) (Nat.le_trans hlen (by decide)))) (g := (mkF m 31 #[sR d, sI (Int32.ofNat i), sR b, sI (Int32.ofNat i), sI (Int32.ofNat cl.length), sI (Int32.ofNat i), sI (cl.getD i 0)] [(.int ((cl.getD i 0).toInt8.toInt32)), (.int (Int32.ofNat i)), (.ref b)])) rfl rfl (hb hby d30_31)
      have nr3 : nar .byte ((cl.getD i 0).toInt8.toInt32) = ((cl.getD i 0).toInt8.toInt32) := own_bb _
      have ft3 : fits .byte (.int ((cl.getD i 0).toInt8.toInt32)) = true := nr3 ▸ (fits_nar_byte ((cl.getD i 0).toInt8.toInt32) : fits .byte (.int (nar .byte ((cl.getD i 0).toInt8.toInt32))) = true)
      rw [nr3] at W3
      have V_d := V_d.other W3 ne_d_b
      have Z3 : n0 ≤ h3.size := Nat.le_trans Z1 (Keep.of_wr W3).1
      have V_b : Arv Z h3 b kb .byte (Int32.ofNat cl.length) (((cl.take i).map fun c => .int c.toInt8.toInt32) ++ [.int ((cl.getD i 0).toInt8.toInt32)]) (.int (0 : Int32)) := own_push Ar3 q3 Sz3 Ng3 Hs3 Ft3 ft3 W3 (by rw [own_ixn i (Nat.le_trans hi (Nat.le_trans hlen (by decide))), List.length_map, List.length_take, Nat.min_eq_left hi])
      have K3 := K1.wr W3 (Or.inl (List.mem_of_getElem? (i := 0) rfl))
      have N3 := Fr.snoc X3 N1 g_b
      refine Goes.pre (U' := T3.setTop (mkF m 41 #[sR d, .val (.int ((Int32.ofNat i) + (1 : Int32))), sR b, .val (.int ((Int32.ofNat i) + (1 : Int32))), sI (Int32.ofNat cl.length), .val (.int ((Int32.ofNat i) + (1 : Int32))), sI (cl.getD i 0)] [])) (fun t k => st3 t (XT.iincV X3.here hx rfl (1 : Int32) (hb hby d30_32) (by decide) rfl (l' := #[sR d, .val (.int ((Int32.ofNat i) + (1 : Int32))), sR b, sI (Int32.ofNat i), sI (Int32.ofNat cl.length), sI (Int32.ofNat i), sI (cl.getD i 0)]) rfl (XT.iincV X3.here hx rfl (1 : Int32) (hb hby d30_35) (by decide) rfl (l' := #[sR d, .val (.int ((Int32.ofNat i) + (1 : Int32))), sR b, .val (.int ((Int32.ofNat i) + (1 : Int32))), sI (Int32.ofNat cl.length), sI (Int32.ofNat i), sI (cl.getD i 0)]) rfl (XT.iincV X3.here hx rfl (1 : Int32) (hb hby d30_38) (by decide) rfl (l' := #[sR d, .val (.int ((Int32.ofNat i) + (1 : Int32))), sR b, .val (.int ((Int32.ofNat i) + (1 : Int32))), sI (Int32.ofNat cl.length), .val (.int ((Int32.ofNat i) + (1 : Int32))), sI (cl.getD i 0)]) rfl k)))) ?_
      rw [own_inc]
      have V_b : Arv Z h3 b kb .byte (Int32.ofNat cl.length) ((cl.take (i + 1)).map fun c => .int c.toInt8.toInt32) (.int (0 : Int32)) := own_tkm (fun c => .int c.toInt8.toInt32) cl i (own_lti _ _ hc7 hi (Nat.le_trans hlen (by decide))) ▸ V_b
      refine Goes.pre (U' := T3.setTop (mkF m 3 #[sR d, .val (.int (Int32.ofNat (i + 1))), sR b, .val (.int (Int32.ofNat (i + 1))), sI (Int32.ofNat cl.length), .val (.int (Int32.ofNat (i + 1))), sI (cl.getD i 0)] [])) (fun t k => XS.goto X3.here hx rfl (pc0 := 41) (pc' := 3) rfl (hb hby d30_41) (by decide) (by decide) k) ?_
      exact ih _ (by have := own_lti _ _ hc7 hi (Nat.le_trans hlen (by decide)); omega) (i + 1) _ (Or.inr ⟨_, rfl⟩) (own_lti _ _ hc7 hi (Nat.le_trans hlen (by decide))) (own_tkl cl i (own_lti _ _ hc7 hi (Nat.le_trans hlen (by decide))) hl hc20) rfl _ _ _ X3 e3 N3 Z3 K3 V_d V_b
    ·
     refine Goes.pre (U' := T1.setTop (mkF m 46 #[sR d, sI (Int32.ofNat i), sR b, sI (Int32.ofNat i), sI (Int32.ofNat cl.length), sI (Int32.ofNat i), .unset] [(.int (Int32.ofNat cl.length))])) (fun t k => XS.icmpYes X1.here hx rfl (pc0 := 7) (pc' := 44) rfl (hb hby d30_7) rfl (flt hc7).2.1 (by decide) (by decide) (XS.iload X1.here hx rfl (hb hby d30_44) rfl k)) ?_
     refine Goes.ret X1 (v := (some (.int (Int32.ofNat cl.length)))) (fun h => by rw [hret] at h; cases h) hlk (by decide) (by decide) e1 (fun fs hr => retI X1 hx hret (hb hby d30_46) hr) ?_
     obtain rfl := own_nlti _ _ hc7 hi (Nat.le_trans hlen (by decide))
     rw [List.take_length] at V_b hl
     exact ⟨cl.length, _, rfl, N1, K1, V_b, Or.inl ⟨rfl, rfl, hl⟩⟩
   ·
    refine Goes.pre (U' := T1.setTop (mkF m 7 #[sR d, sI (Int32.ofNat i), sR b, sI (Int32.ofNat i), sI (Int32.ofNat cl.length), sI (Int32.ofNat i), sI z6] [(.int (Int32.ofNat cl.length)), (.int (Int32.ofNat i))])) (fun t k => XS.iload X1.here hx rfl (hb hby d30_3) rfl (XS.iload X1.here hx rfl (hb hby d30_5) rfl k)) ?_
    by_cases hc7 : (Int32.ofNat i) < (Int32.ofNat cl.length)
    ·
     refine Goes.pre (U' := T1.setTop (mkF m 12 #[sR d, sI (Int32.ofNat i), sR b, sI (Int32.ofNat i), sI (Int32.ofNat cl.length), sI (Int32.ofNat i), sI z6] [(.int (Int32.ofNat i)), (.ref d)])) (fun t k => XS.icmpNo X1.here hx rfl (hb hby d30_7) rfl (tlt hc7).2.1 (XS.aloadN X1.here hx rfl (hb hby d30_10) rfl rfl (XS.iloadN X1.here hx rfl (hb hby d30_11) rfl k))) ?_
     obtain ⟨cl4, Ar4, q4, Sz4, Ng4, Hs4, Ft4⟩ := id V_d
     have hin4 := inb_of (j := (Int32.ofNat i)) Sz4 (own_ix i _ (own_lti _ _ hc7 hi (Nat.le_trans hlen (by decide))) (Nat.le_trans hlen (by decide)))
     refine Goes.pre (U' := T1.setTop (mkF m 20 #[sR d, sI (Int32.ofNat i), sR b, sI (Int32.ofNat i), sI (Int32.ofNat cl.length), sI (Int32.ofNat i), sI (cl.getD i 0)] [(.int (255 : Int32)), (.int (cl.getD i 0))])) (fun t k => X1.caload hx (j := (Int32.ofNat i)) (v := (.int (cl.getD i 0))) (by rw [e1]; exact Ar4.1) (State.isArrayOf_alike hZ.alike Ar4.2.1) Ar4.2.2 hin4 (Has.at Hs4 hin4 (own_getm cl i (own_lti _ _ hc7 hi (Nat.le_trans hlen (by decide))) (Nat.le_trans hlen (by decide)))) (g := (mkF m 12 #[sR d, sI (Int32.ofNat i), sR b, sI (Int32.ofNat i), sI (Int32.ofNat cl.length), sI (Int32.ofNat i), sI z6] [(.int (Int32.ofNat i)), (.ref d)])) rfl rfl (hb hby d30_12) _ (XS.istore X1.here hx rfl (hb hby d30_13) rfl (l' := #[sR d, sI (Int32.ofNat i), sR b, sI (Int32.ofNat i), sI (Int32.ofNat cl.length), sI (Int32.ofNat i), sI (cl.getD i 0)]) rfl (XS.iload X1.here hx rfl (hb hby d30_15) rfl (XS.sipush X1.here hx rfl (hb hby d30_17) k)))) ?_
     by_cases hc20 : (255 : Int32) < (cl.getD i 0)
     ·
      refine Goes.pre (U' := T1.setTop (mkF m 25 #[sR d, sI (Int32.ofNat i), sR b, sI (Int32.ofNat i), sI (Int32.ofNat cl.length), sI (Int32.ofNat i), sI (cl.getD i 0)] [(.int (Int32.ofNat i))])) (fun t k => XS.icmpNo X1.here hx rfl (hb hby d30_20) rfl (tlt hc20).2.2.2 (XS.iload X1.here hx rfl (hb hby d30_23) rfl k)) ?_
      refine Goes.ret X1 (v := (some (.int (Int32.ofNat i)))) (fun h => by rw [hret] at h; cases h) hlk (by decide) (by decide) e1 (fun fs hr => retI X1 hx hret (hb hby d30_25) hr) ?_
      exact ⟨i, _, rfl, N1, K1, V_b, Or.inr ⟨own_lti _ _ hc7 hi (Nat.le_trans hlen (by decide)), hc20⟩⟩
     ·
      refine Goes.pre (U' := T1.setTop (mkF m 31 #[sR d, sI (Int32.ofNat i), sR b, sI (Int32.ofNat i), sI (Int32.ofNat cl.length), sI (Int32.ofNat i), sI (cl.getD i 0)] [(.int ((cl.getD i 0).toInt8.toInt32)), (.int (Int32.ofNat i)), (.ref b)])) (fun t k => XS.icmpYes X1.here hx rfl (pc0 := 20) (pc' := 26) rfl (hb hby d30_20) rfl (flt hc20).2.2.2 (by decide) (by decide) (XS.aloadN X1.here hx rfl (hb hby d30_26) rfl rfl (XS.iloadN X1.here hx rfl (hb hby d30_27) rfl (XS.iload X1.here hx rfl (hb hby d30_28) rfl (XS.i2b X1.here hx rfl (hb hby d30_30) rfl k))))) ?_
      obtain ⟨cl5, Ar5, q5, Sz5, Ng5, Hs5, Ft5⟩ := id V_b
      obtain ⟨T5, h5, X5, e5, W5, st5⟩ := stB X1 hx hZ e1 Ar5 (j := (Int32.ofNat i)) (inb_of Sz5 (own_ix i _ (own_lti _ _ hc7 hi (Nat.le_trans hlen (by decide))) (Nat.le_trans hlen (by decide)))) (g := (mkF m 31 #[sR d, sI (Int32.ofNat i), sR b, sI (Int32.ofNat i), sI (Int32.ofNat cl.length), sI (Int32.ofNat i), sI (cl.getD i 0)] [(.int ((cl.getD i 0).toInt8.toInt32)), (.int (Int32.ofNat i)), (.ref b)])) rfl rfl (hb hby d30_31)
      have nr5 : nar .byte ((cl.getD i 0).toInt8.toInt32) = ((cl.getD i 0).toInt8.toInt32) := own_bb _
      have ft5 : fits .byte (.int ((cl.getD i 0).toInt8.toInt32)) = true := nr5 ▸ (fits_nar_byte ((cl.getD i 0).toInt8.toInt32) : fits .byte (.int (nar .byte ((cl.getD i 0).toInt8.toInt32))) = true)
      rw [nr5] at W5
      have V_d := V_d.other W5 ne_d_b
      have Z5 : n0 ≤ h5.size := Nat.le_trans Z1 (Keep.of_wr W5).1
      have V_b : Arv Z h5 b kb .byte (Int32.ofNat cl.length) (((cl.take i).map fun c => .int c.toInt8.toInt32) ++ [.int ((cl.getD i 0).toInt8.toInt32)]) (.int (0 : Int32)) := own_push Ar5 q5 Sz5 Ng5 Hs5 Ft5 ft5 W5 (by rw [own_ixn i (Nat.le_trans hi (Nat.le_trans hlen (by decide))), List.length_map, List.length_take, Nat.min_eq_left hi])
      have K5 := K1.wr W5 (Or.inl (List.mem_of_getElem? (i := 0) rfl))
      have N5 := Fr.snoc X5 N1 g_b
      refine Goes.pre (U' := T5.setTop (mkF m 41 #[sR d, .val (.int ((Int32.ofNat i) + (1 : Int32))), sR b, .val (.int ((Int32.ofNat i) + (1 : Int32))), sI (Int32.ofNat cl.length), .val (.int ((Int32.ofNat i) + (1 : Int32))), sI (cl.getD i 0)] [])) (fun t k => st5 t (XT.iincV X5.here hx rfl (1 : Int32) (hb hby d30_32) (by decide) rfl (l' := #[sR d, .val (.int ((Int32.ofNat i) + (1 : Int32))), sR b, sI (Int32.ofNat i), sI (Int32.ofNat cl.length), sI (Int32.ofNat i), sI (cl.getD i 0)]) rfl (XT.iincV X5.here hx rfl (1 : Int32) (hb hby d30_35) (by decide) rfl (l' := #[sR d, .val (.int ((Int32.ofNat i) + (1 : Int32))), sR b, .val (.int ((Int32.ofNat i) + (1 : Int32))), sI (Int32.ofNat cl.length), sI (Int32.ofNat i), sI (cl.getD i 0)]) rfl (XT.iincV X5.here hx rfl (1 : Int32) (hb hby d30_38) (by decide) rfl (l' := #[sR d, .val (.int ((Int32.ofNat i) + (1 : Int32))), sR b, .val (.int ((Int32.ofNat i) + (1 : Int32))), sI (Int32.ofNat cl.length), .val (.int ((Int32.ofNat i) + (1 : Int32))), sI (cl.getD i 0)]) rfl k)))) ?_
      rw [own_inc]
      have V_b : Arv Z h5 b kb .byte (Int32.ofNat cl.length) ((cl.take (i + 1)).map fun c => .int c.toInt8.toInt32) (.int (0 : Int32)) := own_tkm (fun c => .int c.toInt8.toInt32) cl i (own_lti _ _ hc7 hi (Nat.le_trans hlen (by decide))) ▸ V_b
      refine Goes.pre (U' := T5.setTop (mkF m 3 #[sR d, .val (.int (Int32.ofNat (i + 1))), sR b, .val (.int (Int32.ofNat (i + 1))), sI (Int32.ofNat cl.length), .val (.int (Int32.ofNat (i + 1))), sI (cl.getD i 0)] [])) (fun t k => XS.goto X5.here hx rfl (pc0 := 41) (pc' := 3) rfl (hb hby d30_41) (by decide) (by decide) k) ?_
      exact ih _ (by have := own_lti _ _ hc7 hi (Nat.le_trans hlen (by decide)); omega) (i + 1) _ (Or.inr ⟨_, rfl⟩) (own_lti _ _ hc7 hi (Nat.le_trans hlen (by decide))) (own_tkl cl i (own_lti _ _ hc7 hi (Nat.le_trans hlen (by decide))) hl hc20) rfl _ _ _ X5 e5 N5 Z5 K5 V_d V_b
    ·
     refine Goes.pre (U' := T1.setTop (mkF m 46 #[sR d, sI (Int32.ofNat i), sR b, sI (Int32.ofNat i), sI (Int32.ofNat cl.length), sI (Int32.ofNat i), sI z6] [(.int (Int32.ofNat cl.length))])) (fun t k => XS.icmpYes X1.here hx rfl (pc0 := 7) (pc' := 44) rfl (hb hby d30_7) rfl (flt hc7).2.1 (by decide) (by decide) (XS.iload X1.here hx rfl (hb hby d30_44) rfl k)) ?_
     refine Goes.ret X1 (v := (some (.int (Int32.ofNat cl.length)))) (fun h => by rw [hret] at h; cases h) hlk (by decide) (by decide) e1 (fun fs hr => retI X1 hx hret (hb hby d30_46) hr) ?_
     obtain rfl := own_nlti _ _ hc7 hi (Nat.le_trans hlen (by decide))
     rw [List.take_length] at V_b hl
     exact ⟨cl.length, _, rfl, N1, K1, V_b, Or.inl ⟨rfl, rfl, hl⟩⟩
 exact J3_1 _ 0 _ (Or.inl rfl) (Nat.zero_le _) (by intro c hc; cases hc) rfl _ _ _ X0 e0 N0 Z0 K0 V_d V_b
theorem ef_rm_putG (m : MethodId) (x0 : Addr) (x1 : Int32) (x2 : Int32) : entryFrame m #[(.ref x0), (.int x1), (.int x2)] 3 = mkF m 0 #[sR x0, sI x1, sI x2] [] := by first | (simp [entryFrame, mkF, argsToLocals, Value.category]; done) | rfl
abbrev M54 : MethodName := ⟨"java/lang/StringUTF16", "putChar", "([BII)V"⟩
theorem d54_0 : decode B54 0 = .ok (.getstatic 44, 3) := by decide +kernel
theorem d54_3 : decode B54 3 = .ok (.ifCond .ne 25, 3) := by decide +kernel
theorem d54_28 : decode B54 28 = .ok (.iload_n 1, 1) := by decide +kernel
theorem d54_29 : decode B54 29 = .ok (.iconst 1, 1) := by decide +kernel
theorem d54_30 : decode B54 30 = .ok (.ishl, 1) := by decide +kernel
theorem d54_31 : decode B54 31 = .ok (.istore_n 1, 1) := by decide +kernel
theorem d54_32 : decode B54 32 = .ok (.aload_n 0, 1) := by decide +kernel
theorem d54_33 : decode B54 33 = .ok (.iload_n 1, 1) := by decide +kernel
theorem d54_34 : decode B54 34 = .ok (.iinc 1 1, 3) := by decide +kernel
theorem d54_37 : decode B54 37 = .ok (.iload_n 2, 1) := by decide +kernel
theorem d54_38 : decode B54 38 = .ok (.getstatic 59, 3) := by decide +kernel
theorem d54_41 : decode B54 41 = .ok (.ishr, 1) := by decide +kernel
theorem d54_42 : decode B54 42 = .ok (.i2b, 1) := by decide +kernel
theorem d54_43 : decode B54 43 = .ok (.bastore, 1) := by decide +kernel
theorem d54_44 : decode B54 44 = .ok (.aload_n 0, 1) := by decide +kernel
theorem d54_45 : decode B54 45 = .ok (.iload_n 1, 1) := by decide +kernel
theorem d54_46 : decode B54 46 = .ok (.iload_n 2, 1) := by decide +kernel
theorem d54_47 : decode B54 47 = .ok (.getstatic 63, 3) := by decide +kernel
theorem d54_50 : decode B54 50 = .ok (.ishr, 1) := by decide +kernel
theorem d54_51 : decode B54 51 = .ok (.i2b, 1) := by decide +kernel
theorem d54_52 : decode B54 52 = .ok (.bastore, 1) := by decide +kernel
theorem d54_53 : decode B54 53 = .ok (.return_, 1) := by decide +kernel
def Q_rm_putG (Z : State) (b : Addr) (kb : ClassId) (vs : List Value) (n : Nat) (q : Int32) (i : Nat) (h0 : Heap) (n0 : Nat) (v : Option Value) (h : Heap) (L : List Loc) : Prop := v = none ∧ Fr n0 L ∧ Keep h0 h [b] ∧ Arv Z h b kb .byte (Int32.ofNat n) ((vs ++ [.int (q >>> ((0 : Int32) &&& 31)).toInt8.toInt32]) ++ [.int (q >>> ((8 : Int32) &&& 31)).toInt8.toInt32]) (.int (0 : Int32))
set_option maxRecDepth 65536 in
set_option maxHeartbeats 40000000 in
theorem rm_putG (l : Launch) (Z : State) (a0 : Array Value) (hw : ∀ d ∈ tables_1, d.before a0 Z = true) (ws : List Jvm.Cond) (b : Addr) (kb : ClassId) (vs : List Value) (n : Nat) (q : Int32) (i : Nat) (h0 : Heap) (n0 : Nat) (Z0 : n0 ≤ h0.size) (V_b : Arv Z h0 b kb .byte (Int32.ofNat n) vs (.int (0 : Int32))) (sA : OAD Z (.int (1 : Int32))) (sH : OHI Z (.int (0 : Int32))) (sL : OLO Z (.int (8 : Int32))) (hv : vs.length = 2 * i) (hn : 2 * i + 1 < n) (hbg : n ≤ 8192) (g_b : n0 ≤ b) (O : Old Z n0 h0) :
  Met l Z M54 jdk_52_method_4_code 3 none ws (Rm 0 0 0 0) #[(.ref b), (.int (Int32.ofNat i)), (.int q)] h0 (Q_rm_putG Z b kb vs n q i h0 n0) := by
 refine met_of (plainFor_of_name pn_java_lang_StringUTF16) (own := "java/lang/StringUTF16") rfl (fun m => ef_rm_putG m b (Int32.ofNat i) q) ?_
 intro p e s m below meth c s₁ hx hby hml hown hnm hZ X0 e0 hret hlk
 have N0 := Fr.nil n0
 have K0 := Keep.refl h0 [b]
 show Goes p e below s _ _ _ (s₁.setTop (mkF m 0 #[sR b, sI (Int32.ofNat i), sI q] []))
 obtain ⟨T1, X1, e1, st1⟩ := getS2 X0 hx hZ hown (host := "") (Or.inl (wq hw 274 rfl)) Via.refl e0 (sA.ext O.2) (g := (mkF m 0 #[sR b, sI (Int32.ofNat i), sI q] [])) rfl (hb hby d54_0)
 refine Goes.pre (U' := T1.setTop (mkF m 3 #[sR b, sI (Int32.ofNat i), sI q] [(.int (1 : Int32))])) (fun t k => st1 t k) ?_
 have hc3 : ¬ ((1 : Int32) = (0 : Int32)) := by decide
 refine Goes.pre (U' := T1.setTop (mkF m 38 #[sR b, .val (.int (((Int32.ofNat i) <<< ((1 : Int32) &&& 31)) + (1 : Int32))), sI q] [(.int q), (.int ((Int32.ofNat i) <<< ((1 : Int32) &&& 31))), (.ref b)])) (fun t k => XS.ifYes X1.here hx rfl (pc0 := 3) (pc' := 28) rfl (hb hby d54_3) rfl ((if0 _ _).trans (feq hc3).2) (by decide) (by decide) (XS.iloadN X1.here hx rfl (hb hby d54_28) rfl (XS.iconst X1.here hx rfl (hb hby d54_29) (XS.ishl X1.here hx rfl (hb hby d54_30) rfl (XS.istoreN X1.here hx rfl (hb hby d54_31) rfl (l' := #[sR b, .val (.int ((Int32.ofNat i) <<< ((1 : Int32) &&& 31))), sI q]) rfl (XS.aloadN X1.here hx rfl (hb hby d54_32) rfl rfl (XS.iloadN X1.here hx rfl (hb hby d54_33) rfl (XT.iincV X1.here hx rfl (1 : Int32) (hb hby d54_34) (by decide) rfl (l' := #[sR b, .val (.int (((Int32.ofNat i) <<< ((1 : Int32) &&& 31)) + (1 : Int32))), sI q]) rfl (XS.iloadN X1.here hx rfl (hb hby d54_37) rfl k))))))))) ?_
 obtain ⟨T2, X2, e2, st2⟩ := getS2 X1 hx hZ hown (host := "") (Or.inl (wq hw 275 rfl)) Via.refl e1 (sH.ext O.2) (g := (mkF m 38 #[sR b, .val (.int (((Int32.ofNat i) <<< ((1 : Int32) &&& 31)) + (1 : Int32))), sI q] [(.int q), (.int ((Int32.ofNat i) <<< ((1 : Int32) &&& 31))), (.ref b)])) rfl (hb hby d54_38)
 refine Goes.pre (U' := T2.setTop (mkF m 43 #[sR b, .val (.int (((Int32.ofNat i) <<< ((1 : Int32) &&& 31)) + (1 : Int32))), sI q] [(.int ((q >>> ((0 : Int32) &&& 31)).toInt8.toInt32)), (.int ((Int32.ofNat i) <<< ((1 : Int32) &&& 31))), (.ref b)])) (fun t k => st2 t (XS.ishr X2.here hx rfl (hb hby d54_41) rfl (XS.i2b X2.here hx rfl (hb hby d54_42) rfl k))) ?_
 obtain ⟨cl3, Ar3, q3, Sz3, Ng3, Hs3, Ft3⟩ := id V_b
 obtain ⟨T3, h3, X3, e3, W3, st3⟩ := stB X2 hx hZ e2 Ar3 (j := ((Int32.ofNat i) <<< ((1 : Int32) &&& 31))) (inb_of Sz3 (own_p0 i n hn hbg)) (g := (mkF m 43 #[sR b, .val (.int (((Int32.ofNat i) <<< ((1 : Int32) &&& 31)) + (1 : Int32))), sI q] [(.int ((q >>> ((0 : Int32) &&& 31)).toInt8.toInt32)), (.int ((Int32.ofNat i) <<< ((1 : Int32) &&& 31))), (.ref b)])) rfl rfl (hb hby d54_43)
 have nr3 : nar .byte ((q >>> ((0 : Int32) &&& 31)).toInt8.toInt32) = ((q >>> ((0 : Int32) &&& 31)).toInt8.toInt32) := own_bb _
 have ft3 : fits .byte (.int ((q >>> ((0 : Int32) &&& 31)).toInt8.toInt32)) = true := nr3 ▸ (fits_nar_byte ((q >>> ((0 : Int32) &&& 31)).toInt8.toInt32) : fits .byte (.int (nar .byte ((q >>> ((0 : Int32) &&& 31)).toInt8.toInt32))) = true)
 rw [nr3] at W3
 have Z3 : n0 ≤ h3.size := Nat.le_trans Z0 (Keep.of_wr W3).1
 have O := O.wr W3 g_b
 have V_b : Arv Z h3 b kb .byte (Int32.ofNat n) (vs ++ [.int ((q >>> ((0 : Int32) &&& 31)).toInt8.toInt32)]) (.int (0 : Int32)) := own_push Ar3 q3 Sz3 Ng3 Hs3 Ft3 ft3 W3 (by rw [(own_sh1 i (by omega)).1, own_ixn _ (by omega)]; exact hv.symm)
 have K3 := K0.wr W3 (Or.inl (List.mem_of_getElem? (i := 0) rfl))
 have N3 := Fr.snoc X3 N0 g_b
 refine Goes.pre (U' := T3.setTop (mkF m 47 #[sR b, .val (.int (((Int32.ofNat i) <<< ((1 : Int32) &&& 31)) + (1 : Int32))), sI q] [(.int q), (.int (((Int32.ofNat i) <<< ((1 : Int32) &&& 31)) + (1 : Int32))), (.ref b)])) (fun t k => st3 t (XS.aloadN X3.here hx rfl (hb hby d54_44) rfl rfl (XS.iloadN X3.here hx rfl (hb hby d54_45) rfl (XS.iloadN X3.here hx rfl (hb hby d54_46) rfl k)))) ?_
 obtain ⟨T4, X4, e4, st4⟩ := getS2 X3 hx hZ hown (host := "") (Or.inl (wq hw 276 rfl)) Via.refl e3 (sL.ext O.2) (g := (mkF m 47 #[sR b, .val (.int (((Int32.ofNat i) <<< ((1 : Int32) &&& 31)) + (1 : Int32))), sI q] [(.int q), (.int (((Int32.ofNat i) <<< ((1 : Int32) &&& 31)) + (1 : Int32))), (.ref b)])) rfl (hb hby d54_47)
 refine Goes.pre (U' := T4.setTop (mkF m 52 #[sR b, .val (.int (((Int32.ofNat i) <<< ((1 : Int32) &&& 31)) + (1 : Int32))), sI q] [(.int ((q >>> ((8 : Int32) &&& 31)).toInt8.toInt32)), (.int (((Int32.ofNat i) <<< ((1 : Int32) &&& 31)) + (1 : Int32))), (.ref b)])) (fun t k => st4 t (XS.ishr X4.here hx rfl (hb hby d54_50) rfl (XS.i2b X4.here hx rfl (hb hby d54_51) rfl k))) ?_
 obtain ⟨cl5, Ar5, q5, Sz5, Ng5, Hs5, Ft5⟩ := id V_b
 obtain ⟨T5, h5, X5, e5, W5, st5⟩ := stB X4 hx hZ e4 Ar5 (j := (((Int32.ofNat i) <<< ((1 : Int32) &&& 31)) + (1 : Int32))) (inb_of Sz5 (own_p1 i n hn hbg)) (g := (mkF m 52 #[sR b, .val (.int (((Int32.ofNat i) <<< ((1 : Int32) &&& 31)) + (1 : Int32))), sI q] [(.int ((q >>> ((8 : Int32) &&& 31)).toInt8.toInt32)), (.int (((Int32.ofNat i) <<< ((1 : Int32) &&& 31)) + (1 : Int32))), (.ref b)])) rfl rfl (hb hby d54_52)
 have nr5 : nar .byte ((q >>> ((8 : Int32) &&& 31)).toInt8.toInt32) = ((q >>> ((8 : Int32) &&& 31)).toInt8.toInt32) := own_bb _
 have ft5 : fits .byte (.int ((q >>> ((8 : Int32) &&& 31)).toInt8.toInt32)) = true := nr5 ▸ (fits_nar_byte ((q >>> ((8 : Int32) &&& 31)).toInt8.toInt32) : fits .byte (.int (nar .byte ((q >>> ((8 : Int32) &&& 31)).toInt8.toInt32))) = true)
 rw [nr5] at W5
 have Z5 : n0 ≤ h5.size := Nat.le_trans Z3 (Keep.of_wr W5).1
 have O := O.wr W5 g_b
 have V_b : Arv Z h5 b kb .byte (Int32.ofNat n) ((vs ++ [.int ((q >>> ((0 : Int32) &&& 31)).toInt8.toInt32)]) ++ [.int ((q >>> ((8 : Int32) &&& 31)).toInt8.toInt32)]) (.int (0 : Int32)) := own_push Ar5 q5 Sz5 Ng5 Hs5 Ft5 ft5 W5 (by rw [(own_sh1 i (by omega)).2, own_ixn _ (by omega), List.length_append]; exact congrArg (· + 1) hv.symm)
 have K5 := K3.wr W5 (Or.inl (List.mem_of_getElem? (i := 0) rfl))
 have N5 := Fr.snoc X5 N3 g_b
 refine Goes.pre (U' := T5.setTop (mkF m 53 #[sR b, .val (.int (((Int32.ofNat i) <<< ((1 : Int32) &&& 31)) + (1 : Int32))), sI q] [])) (fun t k => st5 t k) ?_
 refine Goes.ret X5 (v := none) (fun _ => rfl) hlk (by decide) (by decide) e5 (fun fs hr => X5.returnOut hx hret (hb hby d54_53) hr) ?_
 exact ⟨rfl, N5, K5, V_b⟩
theorem own_lt30 (n : Nat) (hn : n ≤ 8192) : Int32.ofNat n < (1073741823 : Int32) := by
  have b := own_ofn n hn
  rw [Int32.lt_iff_toInt_lt, b, show (1073741823 : Int32).toInt = 1073741823 from by decide]
  omega
theorem own_cap (n N : Nat) (hn : n ≤ 8192) (h : n ≤ N) : (Int32.ofNat n).toNatClampNeg ≤ N := by rw [own_ixn n hn]; exact h
theorem ef_rm_nblG (m : MethodId) (x0 : Int32) : entryFrame m #[(.int x0)] 1 = mkF m 0 #[sI x0] [] := by first | (simp [entryFrame, mkF, argsToLocals, Value.category]; done) | rfl
abbrev M53 : MethodName := ⟨"java/lang/StringUTF16", "newBytesLength", "(I)I"⟩
theorem d53_0 : decode B53 0 = .ok (.iload_n 0, 1) := by decide +kernel
theorem d53_1 : decode B53 1 = .ok (.ifCond .ge 11, 3) := by decide +kernel
theorem d53_12 : decode B53 12 = .ok (.iload_n 0, 1) := by decide +kernel
theorem d53_13 : decode B53 13 = .ok (.ldc 20, 2) := by decide +kernel
theorem d53_15 : decode B53 15 = .ok (.if_icmp .lt 40, 3) := by decide +kernel
theorem d53_55 : decode B53 55 = .ok (.iload_n 0, 1) := by decide +kernel
theorem d53_56 : decode B53 56 = .ok (.iconst 1, 1) := by decide +kernel
theorem d53_57 : decode B53 57 = .ok (.ishl, 1) := by decide +kernel
theorem d53_58 : decode B53 58 = .ok (.ireturn, 1) := by decide +kernel
def Q_rm_nblG (Z : State) (cl : List Int32) (h0 : Heap) (n0 : Nat) (v : Option Value) (h : Heap) (L : List Loc) : Prop := v = some (.int (Int32.ofNat (2 * cl.length))) ∧ Fr n0 L ∧ h = h0
set_option maxRecDepth 65536 in
set_option maxHeartbeats 40000000 in
theorem rm_nblG (l : Launch) (Z : State) (a0 : Array Value) (hw : ∀ d ∈ tables_1, d.before a0 Z = true) (ws : List Jvm.Cond) (cl : List Int32) (h0 : Heap) (n0 : Nat) (Z0 : n0 ≤ h0.size)  (hlen : cl.length ≤ 3) :
  Met l Z M53 jdk_52_method_3_code 1 (some .int) ws (Rm 0 0 0 0) #[(.int (Int32.ofNat cl.length))] h0 (Q_rm_nblG Z cl h0 n0) := by
 refine met_of (plainFor_of_name pn_java_lang_StringUTF16) (own := "java/lang/StringUTF16") rfl (fun m => ef_rm_nblG m (Int32.ofNat cl.length)) ?_
 intro p e s m below meth c s₁ hx hby hml hown hnm hZ X0 e0 hret hlk
 have N0 := Fr.nil n0
 show Goes p e below s _ _ _ (s₁.setTop (mkF m 0 #[sI (Int32.ofNat cl.length)] []))
 refine Goes.pre (U' := s₁.setTop (mkF m 1 #[sI (Int32.ofNat cl.length)] [(.int (Int32.ofNat cl.length))])) (fun t k => XS.iloadN X0.here hx rfl (hb hby d53_0) rfl k) ?_
 have hc1 : ¬ ((Int32.ofNat cl.length) < (0 : Int32)) := own_neg _ (Nat.le_trans hlen (by decide))
 refine Goes.pre (U' := s₁.setTop (mkF m 15 #[sI (Int32.ofNat cl.length)] [(.int (1073741823 : Int32)), (.int (Int32.ofNat cl.length))])) (fun t k => XS.ifYes X0.here hx rfl (pc0 := 1) (pc' := 12) rfl (hb hby d53_1) rfl ((if0 _ _).trans (flt hc1).2.1) (by decide) (by decide) (XS.iloadN X0.here hx rfl (hb hby d53_12) rfl (X0.ldcInt hx hown (mvT hZ (wq hw 270 rfl)) (g := (mkF m 13 #[sI (Int32.ofNat cl.length)] [(.int (Int32.ofNat cl.length))])) rfl (hb hby d53_13) _ k))) ?_
 have hc15 : (Int32.ofNat cl.length) < (1073741823 : Int32) := own_lt30 _ (Nat.le_trans hlen (by decide))
 refine Goes.pre (U' := s₁.setTop (mkF m 58 #[sI (Int32.ofNat cl.length)] [(.int ((Int32.ofNat cl.length) <<< ((1 : Int32) &&& 31)))])) (fun t k => XS.icmpYes X0.here hx rfl (pc0 := 15) (pc' := 55) rfl (hb hby d53_15) rfl (tlt hc15).1 (by decide) (by decide) (XS.iloadN X0.here hx rfl (hb hby d53_55) rfl (XS.iconst X0.here hx rfl (hb hby d53_56) (XS.ishl X0.here hx rfl (hb hby d53_57) rfl k)))) ?_
 refine Goes.ret X0 (v := (some (.int ((Int32.ofNat cl.length) <<< ((1 : Int32) &&& 31))))) (fun h => by rw [hret] at h; cases h) hlk (by decide) (by decide) e0 (fun fs hr => retI X0 hx hret (hb hby d53_58) hr) ?_
 exact ⟨congrArg (fun z => some (Value.int z)) (own_shl cl.length (Nat.le_trans hlen (by decide))).symm, N0, rfl⟩
theorem ef_rm_nbfG (m : MethodId) (x0 : Int32) : entryFrame m #[(.int x0)] 1 = mkF m 0 #[sI x0] [] := by first | (simp [entryFrame, mkF, argsToLocals, Value.category]; done) | rfl
abbrev M52 : MethodName := ⟨"java/lang/StringUTF16", "newBytesFor", "(I)[B"⟩
theorem d52_0 : decode B52 0 = .ok (.iload_n 0, 1) := by decide +kernel
theorem d52_1 : decode B52 1 = .ok (.invokestatic 11, 3) := by decide +kernel
theorem pd__28I_29I : parseMethodDescriptor "(I)I" = some ⟨[.int], some .int⟩ := by decide +kernel
theorem d52_4 : decode B52 4 = .ok (.newarray .byte, 2) := by decide +kernel
theorem d52_6 : decode B52 6 = .ok (.areturn, 1) := by decide +kernel
def Q_rm_nbfG (Z : State) (cl : List Int32) (h0 : Heap) (n0 : Nat) (v : Option Value) (h : Heap) (L : List Loc) : Prop := ∃ (r : Addr) (kr : ClassId), v = some (.ref r) ∧ Fr n0 L ∧ Keep h0 h [] ∧ Arv Z h r kr .byte (Int32.ofNat (2 * cl.length)) [] (.int (0 : Int32)) ∧ n0 ≤ r ∧ h0.size ≤ r
set_option maxRecDepth 65536 in
set_option maxHeartbeats 40000000 in
theorem rm_nbfG (l : Launch) (Z : State) (a0 : Array Value) (hw : ∀ d ∈ tables_1, d.before a0 Z = true) (ws : List Jvm.Cond) (cl : List Int32) (h0 : Heap) (n0 : Nat) (Z0 : n0 ≤ h0.size)  (hlen : cl.length ≤ 3) :
  Met l Z M52 jdk_52_method_2_code 1 (some (.array .byte)) ws (Rm 1 1 6 12) #[(.int (Int32.ofNat cl.length))] h0 (Q_rm_nbfG Z cl h0 n0) := by
 refine met_of (plainFor_of_name pn_java_lang_StringUTF16) (own := "java/lang/StringUTF16") rfl (fun m => ef_rm_nbfG m (Int32.ofNat cl.length)) ?_
 intro p e s m below meth c s₁ hx hby hml hown hnm hZ X0 e0 hret hlk
 have N0 := Fr.nil n0
 have K0 := Keep.refl h0 []
 show Goes p e below s _ _ _ (s₁.setTop (mkF m 0 #[sI (Int32.ofNat cl.length)] []))
 refine Goes.pre (U' := s₁.setTop (mkF m 1 #[sI (Int32.ofNat cl.length)] [(.int (Int32.ofNat cl.length))])) (fun t k => XS.iloadN X0.here hx rfl (hb hby d52_0) rfl k) ?_
 obtain ⟨_, _, ⟨T1, L1, k1, n1⟩, -, X1, ⟨Lc1, hQ1, l1, y1, z1⟩, st1⟩ := Jvm.LawKit.callS X0 hx (y := M53) hown (mvT hZ (wq hw 267 rfl)) (mvT hZ (wq hw 268 rfl)) (mvT hZ (wq hw 163 rfl)) (mvT hZ (wq hw 269 rfl)) (by decide) (backOf (W := 0) (rm_nblG l Z a0 hw [] cl h0 n0 Z0  hlen) hZ (wq hw 269 rfl) (wq hw 163 rfl) (by decide) (by decide)) (g := (mkF m 1 #[sI (Int32.ofNat cl.length)] [(.int (Int32.ofNat cl.length))])) rfl (by rw [hml]; rfl) (argsL := [(.int (Int32.ofNat cl.length))]) (rest := []) (lenOf pd__28I_29I rfl) rfl (by show 2 * 0 + _ ≤ _; exact Nat.le_of_eq rfl) (hb hby d52_1) (fun _ _ => ⟨rfl, e0, (by decide : 0 + 0 ≤ _), (by decide : 0 + 0 ≤ _)⟩)
 dsimp only [Pt.U, Pt.locs, Pt.cells, Pt.slots] at X1 l1 y1 z1 st1 hQ1
 subst l1 y1 z1
 obtain ⟨rfl, N1q, HQ1⟩ := hQ1
 have N1 := Fr.app N0 N1q
 refine Goes.pre (U' := T1.setTop (mkF m 4 #[sI (Int32.ofNat cl.length)] [(.int (Int32.ofNat (2 * cl.length)))])) (fun t k => st1 t k) ?_
 obtain ⟨T2, h2, k2, X2, e2, E2, A2, B2, st2⟩ := newPE X1 hx hZ (wq hw 21 rfl) HQ1 (g := (mkF m 4 #[sI (Int32.ofNat cl.length)] [(.int (Int32.ofNat (2 * cl.length)))])) rfl (hb hby d52_4) rfl (own_neg _ (by omega)) (cap := 6) (own_cap _ _ (by omega) (by omega)) (by decide) (by decide) (by decide) (ad := "[B") (by decide)
 obtain ⟨nb2, g2⟩ : ∃ z, z = h0.size := ⟨_, rfl⟩
 rw [← g2] at A2 B2 st2
 have g_nb2 : n0 ≤ nb2 := Nat.le_trans Z0 (Nat.le_of_eq g2.symm)
 have sz_nb2 : h0.size ≤ nb2 := Nat.le_trans K0.1 (Nat.le_of_eq g2.symm)
 have Z2 : n0 ≤ h2.size := Nat.le_trans Z0 E2.1
 have K2 := K0.ext E2
 have E_nb2 := B2
 have V_nb2 : Arv Z h2 nb2 k2 .byte (Int32.ofNat (2 * cl.length)) [] (.int (0 : Int32)) := Arv.new A2 (own_neg _ (by omega))
 refine Goes.pre (U' := T2.setTop (mkF m 6 #[sI (Int32.ofNat cl.length)] [(.ref nb2)])) (fun t k => st2 t k) ?_
 refine Goes.ret X2 (v := (some (.ref nb2))) (fun h => by rw [hret] at h; cases h) hlk (by decide) (by decide) e2 (fun fs hr => retOut X2 hx hret rfl (Or.inr (Or.inr (Or.inr (Or.inr ⟨rfl, rfl, rfl⟩)))) (hb hby d52_6) hr) ?_
 exact ⟨nb2, k2, rfl, N1, K2, V_nb2, g_nb2, sz_nb2⟩
theorem ef_rm_toBG (m : MethodId) (x0 : Addr) (x1 : Int32) (x2 : Int32) : entryFrame m #[(.ref x0), (.int x1), (.int x2)] 5 = mkF m 0 #[sR x0, sI x1, sI x2, .unset, .unset] [] := by first | (simp [entryFrame, mkF, argsToLocals, Value.category]; done) | rfl
abbrev M51 : MethodName := ⟨"java/lang/StringUTF16", "toBytes", "([CII)[B"⟩
theorem d51_0 : decode B51 0 = .ok (.iload_n 2, 1) := by decide +kernel
theorem d51_1 : decode B51 1 = .ok (.invokestatic 107, 3) := by decide +kernel
theorem pd__28I_29_5bB : parseMethodDescriptor "(I)[B" = some ⟨[.int], some (.array .byte)⟩ := by decide +kernel
theorem d51_4 : decode B51 4 = .ok (.astore_n 3, 1) := by decide +kernel
theorem d51_5 : decode B51 5 = .ok (.iconst 0, 1) := by decide +kernel
theorem d51_6 : decode B51 6 = .ok (.istore 4, 2) := by decide +kernel
theorem d51_8 : decode B51 8 = .ok (.iload 4, 2) := by decide +kernel
theorem d51_10 : decode B51 10 = .ok (.iload_n 2, 1) := by decide +kernel
theorem d51_11 : decode B51 11 = .ok (.if_icmp .ge 21, 3) := by decide +kernel
theorem d51_14 : decode B51 14 = .ok (.aload_n 3, 1) := by decide +kernel
theorem d51_15 : decode B51 15 = .ok (.iload 4, 2) := by decide +kernel
theorem d51_17 : decode B51 17 = .ok (.aload_n 0, 1) := by decide +kernel
theorem d51_18 : decode B51 18 = .ok (.iload_n 1, 1) := by decide +kernel
theorem d51_19 : decode B51 19 = .ok (.caload, 1) := by decide +kernel
theorem d51_20 : decode B51 20 = .ok (.invokestatic 111, 3) := by decide +kernel
theorem pd__28_5bBII_29V : parseMethodDescriptor "([BII)V" = some ⟨[(.array .byte), .int, .int], none⟩ := by decide +kernel
theorem d51_23 : decode B51 23 = .ok (.iinc 1 1, 3) := by decide +kernel
theorem d51_26 : decode B51 26 = .ok (.iinc 4 1, 3) := by decide +kernel
theorem d51_29 : decode B51 29 = .ok (.goto (-21), 3) := by decide +kernel
theorem d51_32 : decode B51 32 = .ok (.aload_n 3, 1) := by decide +kernel
theorem d51_33 : decode B51 33 = .ok (.areturn, 1) := by decide +kernel
def Q_rm_toBG (Z : State) (d : Addr) (kd : ClassId) (cl : List Int32) (h0 : Heap) (n0 : Nat) (v : Option Value) (h : Heap) (L : List Loc) : Prop := ∃ (r : Addr) (kr : ClassId), v = some (.ref r) ∧ Fr n0 L ∧ Keep h0 h [] ∧ Arv Z h r kr .byte (Int32.ofNat (2 * cl.length)) (cl.flatMap fun c => [.int (c >>> ((0 : Int32) &&& 31)).toInt8.toInt32, .int (c >>> ((8 : Int32) &&& 31)).toInt8.toInt32]) (.int (0 : Int32)) ∧ n0 ≤ r ∧ h0.size ≤ r
set_option maxRecDepth 65536 in
set_option maxHeartbeats 40000000 in
theorem rm_toBG (l : Launch) (Z : State) (a0 : Array Value) (hw : ∀ d ∈ tables_1, d.before a0 Z = true) (ws : List Jvm.Cond) (d : Addr) (kd : ClassId) (cl : List Int32) (h0 : Heap) (n0 : Nat) (Z0 : n0 ≤ h0.size) (V_d : Arv Z h0 d kd .char (Int32.ofNat cl.length) (cl.map Value.int) (.int (0 : Int32))) (sA : OAD Z (.int (1 : Int32))) (sH : OHI Z (.int (0 : Int32))) (sL : OLO Z (.int (8 : Int32))) (hlen : cl.length ≤ 3) (O : Old Z n0 h0) :
  Met l Z M51 jdk_52_method_14_code 5 (some (.array .byte)) ws (Rm 2 1 6 24) #[(.ref d), (.int (0 : Int32)), (.int (Int32.ofNat cl.length))] h0 (Q_rm_toBG Z d kd cl h0 n0) := by
 refine met_of (plainFor_of_name pn_java_lang_StringUTF16) (own := "java/lang/StringUTF16") rfl (fun m => ef_rm_toBG m d (0 : Int32) (Int32.ofNat cl.length)) ?_
 intro p e s m below meth c s₁ hx hby hml hown hnm hZ X0 e0 hret hlk
 have N0 := Fr.nil n0
 have K0 := Keep.refl h0 []
 show Goes p e below s _ _ _ (s₁.setTop (mkF m 0 #[sR d, sI (0 : Int32), sI (Int32.ofNat cl.length), .unset, .unset] []))
 refine Goes.pre (U' := s₁.setTop (mkF m 1 #[sR d, sI (0 : Int32), sI (Int32.ofNat cl.length), .unset, .unset] [(.int (Int32.ofNat cl.length))])) (fun t k => XS.iloadN X0.here hx rfl (hb hby d51_0) rfl k) ?_
 have lt_d := V_d.lt
 obtain ⟨_, _, ⟨T1, L1, k1, n1⟩, -, X1, ⟨Lc1, hQ1, l1, y1, z1⟩, st1⟩ := Jvm.LawKit.callS X0 hx (y := M52) hown (mvT hZ (wq hw 264 rfl)) (mvT hZ (wq hw 265 rfl)) (mvT hZ (wq hw 163 rfl)) (mvT hZ (wq hw 266 rfl)) (by decide) (backOf (W := 0) (rm_nbfG l Z a0 hw [] cl h0 n0 Z0  hlen) hZ (wq hw 266 rfl) (wq hw 163 rfl) (by decide) (by decide)) (g := (mkF m 1 #[sR d, sI (0 : Int32), sI (Int32.ofNat cl.length), .unset, .unset] [(.int (Int32.ofNat cl.length))])) rfl (by rw [hml]; rfl) (argsL := [(.int (Int32.ofNat cl.length))]) (rest := []) (lenOf pd__28I_29_5bB rfl) rfl (by show 2 * 0 + _ ≤ _; exact Nat.le_of_eq rfl) (hb hby d51_1) (fun _ _ => ⟨rfl, e0, (by decide : 0 + 1 ≤ _), (by decide : 0 + 6 ≤ _)⟩)
 dsimp only [Pt.U, Pt.locs, Pt.cells, Pt.slots] at X1 l1 y1 z1 st1 hQ1
 subst l1 y1 z1
 obtain ⟨r1, kr1, rfl, N1q, KQ1, fo0_1, g_r1, sl_r1⟩ := hQ1
 have N1 := Fr.app N0 N1q
 have V_d := V_d.keep KQ1 nin0
 have Z2 : n0 ≤ T1.heap.size := Nat.le_trans Z0 KQ1.1
 have O := O.keep KQ1 all0
 have K2 := K0.trans KQ1 all0
 have ne_d_r1 : d ≠ r1 := Nat.ne_of_lt (Nat.lt_of_lt_of_le lt_d sl_r1)
 have ne_r1_d := ne_d_r1.symm
 have sz_r1 : h0.size ≤ r1 := Nat.le_trans K0.1 sl_r1
 have V_r1 := fo0_1
 refine Goes.pre (U' := T1.setTop (mkF m 8 #[sR d, sI (0 : Int32), sI (Int32.ofNat cl.length), sR r1, sI (0 : Int32)] [])) (fun t k => st1 t (XS.astoreN X1.here hx rfl (hb hby d51_4) rfl rfl (l' := #[sR d, sI (0 : Int32), sI (Int32.ofNat cl.length), sR r1, .unset]) rfl (XS.iconst X1.here hx rfl (hb hby d51_5) (XS.istore X1.here hx rfl (hb hby d51_6) rfl (l' := #[sR d, sI (0 : Int32), sI (Int32.ofNat cl.length), sR r1, sI (0 : Int32)]) rfl k)))) ?_
 have J8_3 : ∀ (kk : Nat) (i : Nat) (hi : i ≤ cl.length) (hm : cl.length - i = kk) (T3 : State) (h3 : Heap) (lc3 : List Loc), Stand p l e (Rm 2 1 6 24) s m #[(.ref d), (.int (0 : Int32)), (.int (Int32.ofNat cl.length))] below meth c T3 lc3 1 6 → T3.heap = h3 → Fr n0 lc3 → n0 ≤ h3.size → Keep h0 h3 [] → Old Z n0 h3 → Arv Z h3 d kd .char (Int32.ofNat cl.length) (cl.map Value.int) (.int (0 : Int32)) → Arv Z h3 r1 kr1 .byte (Int32.ofNat (2 * cl.length)) ((cl.take i).flatMap fun c => [.int (c >>> ((0 : Int32) &&& 31)).toInt8.toInt32, .int (c >>> ((8 : Int32) &&& 31)).toInt8.toInt32]) (.int (0 : Int32)) → Goes p e below s (Q_rm_toBG Z d kd cl h0 n0) (Rm 2 1 6 24).cells (Rm 2 1 6 24).slots (T3.setTop (mkF m 8 #[sR d, sI (Int32.ofNat i), sI (Int32.ofNat cl.length), sR r1, sI (Int32.ofNat i)] [])) := by
  intro kk
  induction kk using Nat.strongRecOn with
  | ind kk ih =>
   intro i hi hm T3 h3 lc3 X3 e3 N3 Z3 K3 O V_d V_r1
   refine Goes.pre (U' := T3.setTop (mkF m 11 #[sR d, sI (Int32.ofNat i), sI (Int32.ofNat cl.length), sR r1, sI (Int32.ofNat i)] [(.int (Int32.ofNat cl.length)), (.int (Int32.ofNat i))])) (fun t k => XS.iload X3.here hx rfl (hb hby d51_8) rfl (XS.iloadN X3.here hx rfl (hb hby d51_10) rfl k)) ?_
   by_cases hc11 : (Int32.ofNat i) < (Int32.ofNat cl.length)
   ·
    refine Goes.pre (U' := T3.setTop (mkF m 19 #[sR d, sI (Int32.ofNat i), sI (Int32.ofNat cl.length), sR r1, sI (Int32.ofNat i)] [(.int (Int32.ofNat i)), (.ref d), (.int (Int32.ofNat i)), (.ref r1)])) (fun t k => XS.icmpNo X3.here hx rfl (hb hby d51_11) rfl (tlt hc11).2.1 (XS.aloadN X3.here hx rfl (hb hby d51_14) rfl rfl (XS.iload X3.here hx rfl (hb hby d51_15) rfl (XS.aloadN X3.here hx rfl (hb hby d51_17) rfl rfl (XS.iloadN X3.here hx rfl (hb hby d51_18) rfl k))))) ?_
    obtain ⟨cl4, Ar4, q4, Sz4, Ng4, Hs4, Ft4⟩ := id V_d
    have hin4 := inb_of (j := (Int32.ofNat i)) Sz4 (own_ix i _ (own_lti _ _ hc11 hi (Nat.le_trans hlen (by decide))) (Nat.le_trans hlen (by decide)))
    refine Goes.pre (U' := T3.setTop (mkF m 20 #[sR d, sI (Int32.ofNat i), sI (Int32.ofNat cl.length), sR r1, sI (Int32.ofNat i)] [(.int (cl.getD i 0)), (.int (Int32.ofNat i)), (.ref r1)])) (fun t k => X3.caload hx (j := (Int32.ofNat i)) (v := (.int (cl.getD i 0))) (by rw [e3]; exact Ar4.1) (State.isArrayOf_alike hZ.alike Ar4.2.1) Ar4.2.2 hin4 (Has.at Hs4 hin4 (own_getm cl i (own_lti _ _ hc11 hi (Nat.le_trans hlen (by decide))) (Nat.le_trans hlen (by decide)))) (g := (mkF m 19 #[sR d, sI (Int32.ofNat i), sI (Int32.ofNat cl.length), sR r1, sI (Int32.ofNat i)] [(.int (Int32.ofNat i)), (.ref d), (.int (Int32.ofNat i)), (.ref r1)])) rfl rfl (hb hby d51_19) _ k) ?_
    obtain ⟨_, _, ⟨T5, L5, k5, n5⟩, -, X5, ⟨Lc5, hQ5, l5, y5, z5⟩, st5⟩ := Jvm.LawKit.callS X3 hx (y := M54) hown (mvT hZ (wq hw 271 rfl)) (mvT hZ (wq hw 272 rfl)) (mvT hZ (wq hw 163 rfl)) (mvT hZ (wq hw 273 rfl)) (by decide) (backOf (W := 0) (rm_putG l Z a0 hw [] r1 kr1 ((cl.take i).flatMap fun c => [.int (c >>> ((0 : Int32) &&& 31)).toInt8.toInt32, .int (c >>> ((8 : Int32) &&& 31)).toInt8.toInt32]) (2 * cl.length) (cl.getD i 0) i h3 n0 Z3 V_r1 sA sH sL (own_fml _ _ cl i hi) (by have := own_lti _ _ hc11 hi (Nat.le_trans hlen (by decide)); omega) (by omega) g_r1 O) hZ (wq hw 273 rfl) (wq hw 163 rfl) (by decide) (by decide)) (g := (mkF m 20 #[sR d, sI (Int32.ofNat i), sI (Int32.ofNat cl.length), sR r1, sI (Int32.ofNat i)] [(.int (cl.getD i 0)), (.int (Int32.ofNat i)), (.ref r1)])) rfl (by rw [hml]; rfl) (argsL := [(.ref r1), (.int (Int32.ofNat i)), (.int (cl.getD i 0))]) (rest := []) (lenOf pd__28_5bBII_29V rfl) rfl (by show 2 * 0 + _ ≤ _; exact Nat.le_of_eq rfl) (hb hby d51_20) (fun _ _ => ⟨rfl, e3, (by decide : 1 + 0 ≤ _), (by decide : 6 + 0 ≤ _)⟩)
    dsimp only [Pt.U, Pt.locs, Pt.cells, Pt.slots] at X5 l5 y5 z5 st5 hQ5
    subst l5 y5 z5
    obtain ⟨rfl, N5q, KQ5, fo0_5⟩ := hQ5
    have N5 := Fr.app N3 N5q
    have V_d := V_d.keep KQ5 (ninS ne_d_r1 nin0)
    have Z6 : n0 ≤ T5.heap.size := Nat.le_trans Z3 KQ5.1
    have O := O.keep KQ5 (allS (P := fun x => n0 ≤ x) g_r1 all0)
    have K6 := K3.trans KQ5 (allS (P := fun x => x ∈ [] ∨ h0.size ≤ x) (Or.inr sz_r1) all0)
    have V_r1 := fo0_5
    refine Goes.pre (U' := T5.setTop (mkF m 29 #[sR d, .val (.int ((Int32.ofNat i) + (1 : Int32))), sI (Int32.ofNat cl.length), sR r1, .val (.int ((Int32.ofNat i) + (1 : Int32)))] [])) (fun t k => st5 t (XT.iincV X5.here hx rfl (1 : Int32) (hb hby d51_23) (by decide) rfl (l' := #[sR d, .val (.int ((Int32.ofNat i) + (1 : Int32))), sI (Int32.ofNat cl.length), sR r1, sI (Int32.ofNat i)]) rfl (XT.iincV X5.here hx rfl (1 : Int32) (hb hby d51_26) (by decide) rfl (l' := #[sR d, .val (.int ((Int32.ofNat i) + (1 : Int32))), sI (Int32.ofNat cl.length), sR r1, .val (.int ((Int32.ofNat i) + (1 : Int32)))]) rfl k))) ?_
    rw [own_inc]
    have V_r1 : Arv Z T5.heap r1 kr1 .byte (Int32.ofNat (2 * cl.length)) ((cl.take (i + 1)).flatMap fun c => [.int (c >>> ((0 : Int32) &&& 31)).toInt8.toInt32, .int (c >>> ((8 : Int32) &&& 31)).toInt8.toInt32]) (.int (0 : Int32)) := own_tkf (fun c => .int (c >>> ((0 : Int32) &&& 31)).toInt8.toInt32) (fun c => .int (c >>> ((8 : Int32) &&& 31)).toInt8.toInt32) cl i (own_lti _ _ hc11 hi (Nat.le_trans hlen (by decide))) ▸ V_r1
    refine Goes.pre (U' := T5.setTop (mkF m 8 #[sR d, .val (.int (Int32.ofNat (i + 1))), sI (Int32.ofNat cl.length), sR r1, .val (.int (Int32.ofNat (i + 1)))] [])) (fun t k => XS.goto X5.here hx rfl (pc0 := 29) (pc' := 8) rfl (hb hby d51_29) (by decide) (by decide) k) ?_
    exact ih _ (by have := own_lti _ _ hc11 hi (Nat.le_trans hlen (by decide)); omega) (i + 1) (own_lti _ _ hc11 hi (Nat.le_trans hlen (by decide))) rfl _ _ _ X5 rfl N5 Z6 K6 O V_d V_r1
   ·
    refine Goes.pre (U' := T3.setTop (mkF m 33 #[sR d, sI (Int32.ofNat i), sI (Int32.ofNat cl.length), sR r1, sI (Int32.ofNat i)] [(.ref r1)])) (fun t k => XS.icmpYes X3.here hx rfl (pc0 := 11) (pc' := 32) rfl (hb hby d51_11) rfl (flt hc11).2.1 (by decide) (by decide) (XS.aloadN X3.here hx rfl (hb hby d51_32) rfl rfl k)) ?_
    refine Goes.ret X3 (v := (some (.ref r1))) (fun h => by rw [hret] at h; cases h) hlk (by decide) (by decide) e3 (fun fs hr => retOut X3 hx hret rfl (Or.inr (Or.inr (Or.inr (Or.inr ⟨rfl, rfl, rfl⟩)))) (hb hby d51_33) hr) ?_
    obtain rfl := own_nlti _ _ hc11 hi (Nat.le_trans hlen (by decide))
    rw [List.take_length] at V_r1
    exact ⟨r1, kr1, rfl, N3, K3, V_r1, g_r1, sz_r1⟩
 exact J8_3 _ 0 (Nat.zero_le _) rfl _ _ _ X1 rfl N1 Z2 K2 O V_d V_r1
theorem ef_rm_cmpG (m : MethodId) (x0 : Addr) (x1 : Int32) (x2 : Int32) : entryFrame m #[(.ref x0), (.int x1), (.int x2)] 6 = mkF m 0 #[sR x0, sI x1, sI x2, .unset, .unset, .unset] [] := by first | (simp [entryFrame, mkF, argsToLocals, Value.category]; done) | rfl
abbrev M29 : MethodName := ⟨"java/lang/StringUTF16", "compress", "([CII)[B"⟩
theorem d29_0 : decode B29 0 = .ok (.iload_n 2, 1) := by decide +kernel
theorem d29_1 : decode B29 1 = .ok (.newarray .byte, 2) := by decide +kernel
theorem d29_3 : decode B29 3 = .ok (.astore_n 3, 1) := by decide +kernel
theorem d29_4 : decode B29 4 = .ok (.aload_n 0, 1) := by decide +kernel
theorem d29_5 : decode B29 5 = .ok (.iload_n 1, 1) := by decide +kernel
theorem d29_6 : decode B29 6 = .ok (.aload_n 3, 1) := by decide +kernel
theorem d29_7 : decode B29 7 = .ok (.iconst 0, 1) := by decide +kernel
theorem d29_8 : decode B29 8 = .ok (.iload_n 2, 1) := by decide +kernel
theorem d29_9 : decode B29 9 = .ok (.invokestatic 115, 3) := by decide +kernel
theorem pd__28_5bCI_5bBII_29I : parseMethodDescriptor "([CI[BII)I" = some ⟨[(.array .char), .int, (.array .byte), .int, .int], some .int⟩ := by decide +kernel
theorem d29_12 : decode B29 12 = .ok (.istore 4, 2) := by decide +kernel
theorem d29_14 : decode B29 14 = .ok (.iload 4, 2) := by decide +kernel
theorem d29_16 : decode B29 16 = .ok (.iload_n 2, 1) := by decide +kernel
theorem d29_17 : decode B29 17 = .ok (.if_icmp .eq 40, 3) := by decide +kernel
theorem d29_57 : decode B29 57 = .ok (.aload_n 3, 1) := by decide +kernel
theorem d29_58 : decode B29 58 = .ok (.areturn, 1) := by decide +kernel
theorem d29_20 : decode B29 20 = .ok (.aload_n 0, 1) := by decide +kernel
theorem d29_21 : decode B29 21 = .ok (.iload_n 1, 1) := by decide +kernel
theorem d29_22 : decode B29 22 = .ok (.iload_n 2, 1) := by decide +kernel
theorem d29_23 : decode B29 23 = .ok (.invokestatic 119, 3) := by decide +kernel
theorem pd__28_5bCII_29_5bB : parseMethodDescriptor "([CII)[B" = some ⟨[(.array .char), .int, .int], some (.array .byte)⟩ := by decide +kernel
theorem d29_26 : decode B29 26 = .ok (.astore 5, 2) := by decide +kernel
theorem d29_28 : decode B29 28 = .ok (.aload 5, 2) := by decide +kernel
theorem d29_30 : decode B29 30 = .ok (.iload 4, 2) := by decide +kernel
theorem d29_32 : decode B29 32 = .ok (.invokestatic 71, 3) := by decide +kernel
theorem d29_35 : decode B29 35 = .ok (.sipush 255, 3) := by decide +kernel
theorem d29_38 : decode B29 38 = .ok (.if_icmp .gt 16, 3) := by decide +kernel
theorem d29_54 : decode B29 54 = .ok (.aload 5, 2) := by decide +kernel
theorem d29_56 : decode B29 56 = .ok (.areturn, 1) := by decide +kernel
def Q_rm_cmpG (Z : State) (d : Addr) (kd : ClassId) (cl : List Int32) (h0 : Heap) (n0 : Nat) (v : Option Value) (h : Heap) (L : List Loc) : Prop := ∃ (r : Addr) (kr : ClassId), v = some (.ref r) ∧ Fr n0 L ∧ Keep h0 h [] ∧ OwnByt Z h r kr cl ∧ n0 ≤ r ∧ h0.size ≤ r
set_option maxRecDepth 65536 in
set_option maxHeartbeats 40000000 in
theorem rm_cmpG (l : Launch) (Z : State) (a0 : Array Value) (hw : ∀ d ∈ tables_1, d.before a0 Z = true) (ws : List Jvm.Cond) (d : Addr) (kd : ClassId) (cl : List Int32) (h0 : Heap) (n0 : Nat) (Z0 : n0 ≤ h0.size) (V_d : Arv Z h0 d kd .char (Int32.ofNat cl.length) (cl.map Value.int) (.int (0 : Int32))) (sA : OAD Z (.int (1 : Int32))) (sH : OHI Z (.int (0 : Int32))) (sL : OLO Z (.int (8 : Int32))) (hlen : cl.length ≤ 3) (hcA : ∀ c ∈ cl, OwnCh c) (O : Old Z n0 h0) :
  Met l Z M29 jdk_52_method_16_code 6 (some (.array .byte)) ws (Rm 3 2 9 40) #[(.ref d), (.int (0 : Int32)), (.int (Int32.ofNat cl.length))] h0 (Q_rm_cmpG Z d kd cl h0 n0) := by
 refine met_of (plainFor_of_name pn_java_lang_StringUTF16) (own := "java/lang/StringUTF16") rfl (fun m => ef_rm_cmpG m d (0 : Int32) (Int32.ofNat cl.length)) ?_
 intro p e s m below meth c s₁ hx hby hml hown hnm hZ X0 e0 hret hlk
 have N0 := Fr.nil n0
 have K0 := Keep.refl h0 []
 show Goes p e below s _ _ _ (s₁.setTop (mkF m 0 #[sR d, sI (0 : Int32), sI (Int32.ofNat cl.length), .unset, .unset, .unset] []))
 refine Goes.pre (U' := s₁.setTop (mkF m 1 #[sR d, sI (0 : Int32), sI (Int32.ofNat cl.length), .unset, .unset, .unset] [(.int (Int32.ofNat cl.length))])) (fun t k => XS.iloadN X0.here hx rfl (hb hby d29_0) rfl k) ?_
 obtain ⟨T1, h1, k1, X1, e1, E1, A1, B1, st1⟩ := newPE X0 hx hZ (wq hw 21 rfl) e0 (g := (mkF m 1 #[sR d, sI (0 : Int32), sI (Int32.ofNat cl.length), .unset, .unset, .unset] [(.int (Int32.ofNat cl.length))])) rfl (hb hby d29_1) rfl (own_neg _ (Nat.le_trans hlen (by decide))) (cap := 3) (own_cap _ _ (Nat.le_trans hlen (by decide)) hlen) (by decide) (by decide) (by decide) (ad := "[B") (by decide)
 obtain ⟨nb1, g1⟩ : ∃ z, z = h0.size := ⟨_, rfl⟩
 rw [← g1] at A1 B1 st1
 have ne_d_nb1 : d ≠ nb1 := Nat.ne_of_lt (Nat.lt_of_lt_of_le V_d.lt (Nat.le_of_eq g1.symm))
 have ne_nb1_d := ne_d_nb1.symm
 have g_nb1 : n0 ≤ nb1 := Nat.le_trans Z0 (Nat.le_of_eq g1.symm)
 have sz_nb1 : h0.size ≤ nb1 := Nat.le_trans K0.1 (Nat.le_of_eq g1.symm)
 have V_d := V_d.ext E1
 have O := O.ext E1
 have Z1 : n0 ≤ h1.size := Nat.le_trans Z0 E1.1
 have K1 := K0.ext E1
 have E_nb1 := B1
 have V_nb1 : Arv Z h1 nb1 k1 .byte (Int32.ofNat cl.length) [] (.int (0 : Int32)) := Arv.new A1 (own_neg _ (Nat.le_trans hlen (by decide)))
 refine Goes.pre (U' := T1.setTop (mkF m 9 #[sR d, sI (0 : Int32), sI (Int32.ofNat cl.length), sR nb1, .unset, .unset] [(.int (Int32.ofNat cl.length)), (.int (0 : Int32)), (.ref nb1), (.int (0 : Int32)), (.ref d)])) (fun t k => st1 t (XS.astoreN X1.here hx rfl (hb hby d29_3) rfl rfl (l' := #[sR d, sI (0 : Int32), sI (Int32.ofNat cl.length), sR nb1, .unset, .unset]) rfl (XS.aloadN X1.here hx rfl (hb hby d29_4) rfl rfl (XS.iloadN X1.here hx rfl (hb hby d29_5) rfl (XS.aloadN X1.here hx rfl (hb hby d29_6) rfl rfl (XS.iconst X1.here hx rfl (hb hby d29_7) (XS.iloadN X1.here hx rfl (hb hby d29_8) rfl k))))))) ?_
 obtain ⟨_, _, ⟨T2, L2, k2, n2⟩, -, X2, ⟨Lc2, hQ2, l2, y2, z2⟩, st2⟩ := Jvm.LawKit.callS X1 hx (y := M30) hown (mvT hZ (wq hw 165 rfl)) (mvT hZ (wq hw 166 rfl)) (mvT hZ (wq hw 163 rfl)) (mvT hZ (wq hw 167 rfl)) (by decide) (backOf (W := 0) (rm_cmpIG l Z a0 hw [] d kd nb1 k1 cl h1 n0 Z1 V_d V_nb1 hlen ne_d_nb1 g_nb1) hZ (wq hw 167 rfl) (wq hw 163 rfl) (by decide) (by decide)) (g := (mkF m 9 #[sR d, sI (0 : Int32), sI (Int32.ofNat cl.length), sR nb1, .unset, .unset] [(.int (Int32.ofNat cl.length)), (.int (0 : Int32)), (.ref nb1), (.int (0 : Int32)), (.ref d)])) rfl (by rw [hml]; rfl) (argsL := [(.ref d), (.int (0 : Int32)), (.ref nb1), (.int (0 : Int32)), (.int (Int32.ofNat cl.length))]) (rest := []) (lenOf pd__28_5bCI_5bBII_29I rfl) rfl (by show 2 * 0 + _ ≤ _; exact Nat.le_of_eq rfl) (hb hby d29_9) (fun _ _ => ⟨rfl, e1, (by decide : 1 + 0 ≤ _), (by decide : 3 + 0 ≤ _)⟩)
 dsimp only [Pt.U, Pt.locs, Pt.cells, Pt.slots] at X2 l2 y2 z2 st2 hQ2
 subst l2 y2 z2
 obtain ⟨j2, vs2, rfl, N2q, KQ2, fo0_2, hx2⟩ := hQ2
 have N2 := Fr.app N0 N2q
 have V_d := V_d.keep KQ2 (ninS ne_d_nb1 nin0)
 have E_nb1 := E_nb1.keep KQ2
 have Z3 : n0 ≤ T2.heap.size := Nat.le_trans Z1 KQ2.1
 have O := O.keep KQ2 (allS (P := fun x => n0 ≤ x) g_nb1 all0)
 have K3 := K1.trans KQ2 (allS (P := fun x => x ∈ [] ∨ h0.size ≤ x) (Or.inr sz_nb1) all0)
 have V_nb1 := fo0_2
 refine Goes.pre (U' := T2.setTop (mkF m 14 #[sR d, sI (0 : Int32), sI (Int32.ofNat cl.length), sR nb1, sI (Int32.ofNat j2), .unset] [])) (fun t k => st2 t (XS.istore X2.here hx rfl (hb hby d29_12) rfl (l' := #[sR d, sI (0 : Int32), sI (Int32.ofNat cl.length), sR nb1, sI (Int32.ofNat j2), .unset]) rfl k)) ?_
 rcases hx2 with ⟨hj, hv, hle⟩ | ⟨hj, hgt⟩
 ·
  subst hj hv
  refine Goes.pre (U' := T2.setTop (mkF m 17 #[sR d, sI (0 : Int32), sI (Int32.ofNat cl.length), sR nb1, sI (Int32.ofNat cl.length), .unset] [(.int (Int32.ofNat cl.length)), (.int (Int32.ofNat cl.length))])) (fun t k => XS.iload X2.here hx rfl (hb hby d29_14) rfl (XS.iloadN X2.here hx rfl (hb hby d29_16) rfl k)) ?_
  have hc17 : (Int32.ofNat cl.length) = (Int32.ofNat cl.length) := rfl
  refine Goes.pre (U' := T2.setTop (mkF m 58 #[sR d, sI (0 : Int32), sI (Int32.ofNat cl.length), sR nb1, sI (Int32.ofNat cl.length), .unset] [(.ref nb1)])) (fun t k => XS.icmpYes X2.here hx rfl (pc0 := 17) (pc' := 57) rfl (hb hby d29_17) rfl (teq hc17).1 (by decide) (by decide) (XS.aloadN X2.here hx rfl (hb hby d29_57) rfl rfl k)) ?_
  refine Goes.ret X2 (v := (some (.ref nb1))) (fun h => by rw [hret] at h; cases h) hlk (by decide) (by decide) rfl (fun fs hr => retOut X2 hx hret rfl (Or.inr (Or.inr (Or.inr (Or.inr ⟨rfl, rfl, rfl⟩)))) (hb hby d29_58) hr) ?_
  exact ⟨nb1, k1, rfl, N2, K3, Or.inl ⟨V_nb1, hle⟩, g_nb1, sz_nb1⟩
 ·
  refine Goes.pre (U' := T2.setTop (mkF m 17 #[sR d, sI (0 : Int32), sI (Int32.ofNat cl.length), sR nb1, sI (Int32.ofNat j2), .unset] [(.int (Int32.ofNat cl.length)), (.int (Int32.ofNat j2))])) (fun t k => XS.iload X2.here hx rfl (hb hby d29_14) rfl (XS.iloadN X2.here hx rfl (hb hby d29_16) rfl k)) ?_
  have hc17 : ¬ ((Int32.ofNat j2) = (Int32.ofNat cl.length)) := own_nei _ _ hj (Nat.le_trans hlen (by decide))
  refine Goes.pre (U' := T2.setTop (mkF m 23 #[sR d, sI (0 : Int32), sI (Int32.ofNat cl.length), sR nb1, sI (Int32.ofNat j2), .unset] [(.int (Int32.ofNat cl.length)), (.int (0 : Int32)), (.ref d)])) (fun t k => XS.icmpNo X2.here hx rfl (hb hby d29_17) rfl (feq hc17).1 (XS.aloadN X2.here hx rfl (hb hby d29_20) rfl rfl (XS.iloadN X2.here hx rfl (hb hby d29_21) rfl (XS.iloadN X2.here hx rfl (hb hby d29_22) rfl k)))) ?_
  have lt_d := V_d.lt
  have lt_nb1 := E_nb1.lt
  obtain ⟨_, _, ⟨T4, L4, k4, n4⟩, -, X4, ⟨Lc4, hQ4, l4, y4, z4⟩, st4⟩ := Jvm.LawKit.callS X2 hx (y := M51) hown (mvT hZ (wq hw 261 rfl)) (mvT hZ (wq hw 262 rfl)) (mvT hZ (wq hw 163 rfl)) (mvT hZ (wq hw 263 rfl)) (by decide) (backOf (W := 0) (rm_toBG l Z a0 hw [] d kd cl T2.heap n0 Z3 V_d sA sH sL hlen O) hZ (wq hw 263 rfl) (wq hw 163 rfl) (by decide) (by decide)) (g := (mkF m 23 #[sR d, sI (0 : Int32), sI (Int32.ofNat cl.length), sR nb1, sI (Int32.ofNat j2), .unset] [(.int (Int32.ofNat cl.length)), (.int (0 : Int32)), (.ref d)])) rfl (by rw [hml]; rfl) (argsL := [(.ref d), (.int (0 : Int32)), (.int (Int32.ofNat cl.length))]) (rest := []) (lenOf pd__28_5bCII_29_5bB rfl) rfl (by show 2 * 0 + _ ≤ _; exact Nat.le_of_eq rfl) (hb hby d29_23) (fun _ _ => ⟨rfl, rfl, (by decide : 1 + 1 ≤ _), (by decide : 3 + 6 ≤ _)⟩)
  dsimp only [Pt.U, Pt.locs, Pt.cells, Pt.slots] at X4 l4 y4 z4 st4 hQ4
  subst l4 y4 z4
  obtain ⟨r4, kr4, rfl, N4q, KQ4, fo0_4, g_r4, sl_r4⟩ := hQ4
  have N4 := Fr.app N2 N4q
  have V_d := V_d.keep KQ4 nin0
  have E_nb1 := E_nb1.keep KQ4
  have V_nb1 := V_nb1.keep KQ4 nin0
  have Z5 : n0 ≤ T4.heap.size := Nat.le_trans Z3 KQ4.1
  have O := O.keep KQ4 all0
  have K5 := K3.trans KQ4 all0
  have ne_d_r4 : d ≠ r4 := Nat.ne_of_lt (Nat.lt_of_lt_of_le lt_d sl_r4)
  have ne_r4_d := ne_d_r4.symm
  have ne_nb1_r4 : nb1 ≠ r4 := Nat.ne_of_lt (Nat.lt_of_lt_of_le lt_nb1 sl_r4)
  have ne_r4_nb1 := ne_nb1_r4.symm
  have sz_r4 : h0.size ≤ r4 := Nat.le_trans K3.1 sl_r4
  have V_r4 := fo0_4
  refine Goes.pre (U' := T4.setTop (mkF m 32 #[sR d, sI (0 : Int32), sI (Int32.ofNat cl.length), sR nb1, sI (Int32.ofNat j2), sR r4] [(.int (Int32.ofNat j2)), (.ref r4)])) (fun t k => st4 t (XS.astore X4.here hx rfl (hb hby d29_26) rfl rfl (l' := #[sR d, sI (0 : Int32), sI (Int32.ofNat cl.length), sR nb1, sI (Int32.ofNat j2), sR r4]) rfl (XS.aload X4.here hx rfl (hb hby d29_28) rfl rfl (XS.iload X4.here hx rfl (hb hby d29_30) rfl k)))) ?_
  obtain ⟨_, _, ⟨T6, L6, k6, n6⟩, -, X6, ⟨Lc6, hQ6, l6, y6, z6⟩, st6⟩ := Jvm.LawKit.callS X4 hx (y := M55) hown (mvT hZ (wq hw 277 rfl)) (mvT hZ (wq hw 278 rfl)) (mvT hZ (wq hw 163 rfl)) (mvT hZ (wq hw 279 rfl)) (by decide) (backOf (W := 0) (rm_getChG l Z a0 hw [] r4 kr4 cl (Int32.ofNat j2) T4.heap n0 Z5 V_r4 sA sH sL (own_ix _ _ hj (Nat.le_trans hlen (by decide))).1 (own_ix _ _ hj (Nat.le_trans hlen (by decide))).2 (Nat.le_trans hlen (by decide)) hcA O) hZ (wq hw 279 rfl) (wq hw 163 rfl) (by decide) (by decide)) (g := (mkF m 32 #[sR d, sI (0 : Int32), sI (Int32.ofNat cl.length), sR nb1, sI (Int32.ofNat j2), sR r4] [(.int (Int32.ofNat j2)), (.ref r4)])) rfl (by rw [hml]; rfl) (argsL := [(.ref r4), (.int (Int32.ofNat j2))]) (rest := []) (lenOf pd__28_5bBI_29C rfl) rfl (by show 2 * 0 + _ ≤ _; exact Nat.le_of_eq rfl) (hb hby d29_32) (fun _ _ => ⟨rfl, rfl, (by decide : 2 + 0 ≤ _), (by decide : 9 + 0 ≤ _)⟩)
  dsimp only [Pt.U, Pt.locs, Pt.cells, Pt.slots] at X6 l6 y6 z6 st6 hQ6
  subst l6 y6 z6
  obtain ⟨rfl, N6q, HQ6⟩ := hQ6
  have N6 := Fr.app N4 N6q
  refine Goes.pre (U' := T6.setTop (mkF m 38 #[sR d, sI (0 : Int32), sI (Int32.ofNat cl.length), sR nb1, sI (Int32.ofNat j2), sR r4] [(.int (255 : Int32)), (.int (cl.getD (Int32.ofNat j2).toNatClampNeg 0))])) (fun t k => st6 t (XS.sipush X6.here hx rfl (hb hby d29_35) k)) ?_
  have hc38 : (255 : Int32) < (cl.getD (Int32.ofNat j2).toNatClampNeg 0) := by rw [own_ixn _ (Nat.le_trans (Nat.le_of_lt hj) (Nat.le_trans hlen (by decide)))]; exact hgt
  refine Goes.pre (U' := T6.setTop (mkF m 56 #[sR d, sI (0 : Int32), sI (Int32.ofNat cl.length), sR nb1, sI (Int32.ofNat j2), sR r4] [(.ref r4)])) (fun t k => XS.icmpYes X6.here hx rfl (pc0 := 38) (pc' := 54) rfl (hb hby d29_38) rfl (tlt hc38).2.2.1 (by decide) (by decide) (XS.aload X6.here hx rfl (hb hby d29_54) rfl rfl k)) ?_
  refine Goes.ret X6 (v := (some (.ref r4))) (fun h => by rw [hret] at h; cases h) hlk (by decide) (by decide) HQ6 (fun fs hr => retOut X6 hx hret rfl (Or.inr (Or.inr (Or.inr (Or.inr ⟨rfl, rfl, rfl⟩)))) (hb hby d29_56) hr) ?_
  exact ⟨r4, kr4, rfl, N6, K5, Or.inr ⟨V_r4, _, own_gmem cl _ hj, hgt⟩, g_r4, sz_r4⟩
theorem ef_rm_cflG0 (m : MethodId) (x0 : Addr) (x1 : Int32) : entryFrame m #[(.ref x0), (.int x1)] 2 = mkF m 0 #[sR x0, sI x1] [] := by first | (simp [entryFrame, mkF, argsToLocals, Value.category]; done) | rfl
abbrev M31 : MethodName := ⟨"java/lang/StringUTF16", "coderFromArrayLen", "([BI)B"⟩
theorem d31_0 : decode B31 0 = .ok (.iload_n 1, 1) := by decide +kernel
theorem d31_1 : decode B31 1 = .ok (.aload_n 0, 1) := by decide +kernel
theorem d31_2 : decode B31 2 = .ok (.arraylength, 1) := by decide +kernel
theorem d31_3 : decode B31 3 = .ok (.isub, 1) := by decide +kernel
theorem d31_4 : decode B31 4 = .ok (.bipush 31, 2) := by decide +kernel
theorem d31_6 : decode B31 6 = .ok (.iushr, 1) := by decide +kernel
theorem d31_7 : decode B31 7 = .ok (.i2b, 1) := by decide +kernel
theorem d31_8 : decode B31 8 = .ok (.ireturn, 1) := by decide +kernel
def Q_rm_cflG0 (Z : State) (b : Addr) (kb : ClassId) (cl : List Int32) (h0 : Heap) (n0 : Nat) (v : Option Value) (h : Heap) (L : List Loc) : Prop := v = some (.int (0 : Int32)) ∧ Fr n0 L ∧ h = h0
set_option maxRecDepth 65536 in
set_option maxHeartbeats 40000000 in
theorem rm_cflG0 (l : Launch) (Z : State) (a0 : Array Value) (hw : ∀ d ∈ tables_1, d.before a0 Z = true) (ws : List Jvm.Cond) (b : Addr) (kb : ClassId) (cl : List Int32) (h0 : Heap) (n0 : Nat) (Z0 : n0 ≤ h0.size) (V_b : Arv Z h0 b kb .byte (Int32.ofNat cl.length) (cl.map fun c => .int c.toInt8.toInt32) (.int (0 : Int32))) (hp : 0 < cl.length) (hlen : cl.length ≤ 3) :
  Met l Z M31 jdk_52_method_15_code 2 (some .byte) ws (Rm 0 0 0 0) #[(.ref b), (.int (Int32.ofNat cl.length))] h0 (Q_rm_cflG0 Z b kb cl h0 n0) := by
 refine met_of (plainFor_of_name pn_java_lang_StringUTF16) (own := "java/lang/StringUTF16") rfl (fun m => ef_rm_cflG0 m b (Int32.ofNat cl.length)) ?_
 intro p e s m below meth c s₁ hx hby hml hown hnm hZ X0 e0 hret hlk
 have N0 := Fr.nil n0
 show Goes p e below s _ _ _ (s₁.setTop (mkF m 0 #[sR b, sI (Int32.ofNat cl.length)] []))
 refine Goes.pre (U' := s₁.setTop (mkF m 2 #[sR b, sI (Int32.ofNat cl.length)] [(.ref b), (.int (Int32.ofNat cl.length))])) (fun t k => XS.iloadN X0.here hx rfl (hb hby d31_0) rfl (XS.aloadN X0.here hx rfl (hb hby d31_1) rfl rfl k)) ?_
 obtain ⟨cl1, Ar1, q1, Sz1, Ng1, -, -⟩ := id V_b
 have ln1 := len_of Sz1 Ng1
 refine Goes.pre (U' := s₁.setTop (mkF m 8 #[sR b, sI (Int32.ofNat cl.length)] [(.int (((((Int32.ofNat cl.length) - (Int32.ofNat cl.length)).toUInt32 >>> ((31 : Int32) &&& 31).toUInt32).toInt32).toInt8.toInt32))])) (fun t k => X0.arraylength hx (by rw [e0]; exact Ar1.1) (State.isArrayOf_alike hZ.alike Ar1.2.1) (g := (mkF m 2 #[sR b, sI (Int32.ofNat cl.length)] [(.ref b), (.int (Int32.ofNat cl.length))])) rfl rfl (hb hby d31_2) _ (by rw [ln1]; exact (XS.isub X0.here hx rfl (hb hby d31_3) rfl (XS.bipush X0.here hx rfl (hb hby d31_4) (XS.iushr X0.here hx rfl (hb hby d31_6) rfl (XS.i2b X0.here hx rfl (hb hby d31_7) rfl k)))))) ?_
 refine Goes.ret X0 (v := (some (.int (0 : Int32)))) (fun h => by rw [hret] at h; cases h) hlk (by decide) (by decide) e0 (fun fs hr => retN X0 hx (t := .byte) hret (by simp) (hb hby d31_8) (by rw [show nar .byte (((((Int32.ofNat cl.length) - (Int32.ofNat cl.length)).toUInt32 >>> ((31 : Int32) &&& 31).toUInt32).toInt32).toInt8.toInt32) = (0 : Int32) from own_c0]; exact hr)) ?_
 exact ⟨rfl, N0, rfl⟩
theorem ef_rm_cflG1 (m : MethodId) (x0 : Addr) (x1 : Int32) : entryFrame m #[(.ref x0), (.int x1)] 2 = mkF m 0 #[sR x0, sI x1] [] := by first | (simp [entryFrame, mkF, argsToLocals, Value.category]; done) | rfl
def Q_rm_cflG1 (Z : State) (b : Addr) (kb : ClassId) (cl : List Int32) (h0 : Heap) (n0 : Nat) (v : Option Value) (h : Heap) (L : List Loc) : Prop := v = some (.int (1 : Int32)) ∧ Fr n0 L ∧ h = h0
set_option maxRecDepth 65536 in
set_option maxHeartbeats 40000000 in
theorem rm_cflG1 (l : Launch) (Z : State) (a0 : Array Value) (hw : ∀ d ∈ tables_1, d.before a0 Z = true) (ws : List Jvm.Cond) (b : Addr) (kb : ClassId) (cl : List Int32) (h0 : Heap) (n0 : Nat) (Z0 : n0 ≤ h0.size) (V_b : Arv Z h0 b kb .byte (Int32.ofNat (2 * cl.length)) (cl.flatMap fun c => [.int (c >>> ((0 : Int32) &&& 31)).toInt8.toInt32, .int (c >>> ((8 : Int32) &&& 31)).toInt8.toInt32]) (.int (0 : Int32))) (hp : 0 < cl.length) (hlen : cl.length ≤ 3) :
  Met l Z M31 jdk_52_method_15_code 2 (some .byte) ws (Rm 0 0 0 0) #[(.ref b), (.int (Int32.ofNat cl.length))] h0 (Q_rm_cflG1 Z b kb cl h0 n0) := by
 refine met_of (plainFor_of_name pn_java_lang_StringUTF16) (own := "java/lang/StringUTF16") rfl (fun m => ef_rm_cflG1 m b (Int32.ofNat cl.length)) ?_
 intro p e s m below meth c s₁ hx hby hml hown hnm hZ X0 e0 hret hlk
 have N0 := Fr.nil n0
 show Goes p e below s _ _ _ (s₁.setTop (mkF m 0 #[sR b, sI (Int32.ofNat cl.length)] []))
 refine Goes.pre (U' := s₁.setTop (mkF m 2 #[sR b, sI (Int32.ofNat cl.length)] [(.ref b), (.int (Int32.ofNat cl.length))])) (fun t k => XS.iloadN X0.here hx rfl (hb hby d31_0) rfl (XS.aloadN X0.here hx rfl (hb hby d31_1) rfl rfl k)) ?_
 obtain ⟨cl1, Ar1, q1, Sz1, Ng1, -, -⟩ := id V_b
 have ln1 := len_of Sz1 Ng1
 refine Goes.pre (U' := s₁.setTop (mkF m 8 #[sR b, sI (Int32.ofNat cl.length)] [(.int (((((Int32.ofNat cl.length) - (Int32.ofNat (2 * cl.length))).toUInt32 >>> ((31 : Int32) &&& 31).toUInt32).toInt32).toInt8.toInt32))])) (fun t k => X0.arraylength hx (by rw [e0]; exact Ar1.1) (State.isArrayOf_alike hZ.alike Ar1.2.1) (g := (mkF m 2 #[sR b, sI (Int32.ofNat cl.length)] [(.ref b), (.int (Int32.ofNat cl.length))])) rfl rfl (hb hby d31_2) _ (by rw [ln1]; exact (XS.isub X0.here hx rfl (hb hby d31_3) rfl (XS.bipush X0.here hx rfl (hb hby d31_4) (XS.iushr X0.here hx rfl (hb hby d31_6) rfl (XS.i2b X0.here hx rfl (hb hby d31_7) rfl k)))))) ?_
 refine Goes.ret X0 (v := (some (.int (1 : Int32)))) (fun h => by rw [hret] at h; cases h) hlk (by decide) (by decide) e0 (fun fs hr => retN X0 hx (t := .byte) hret (by simp) (hb hby d31_8) (by rw [show nar .byte (((((Int32.ofNat cl.length) - (Int32.ofNat (2 * cl.length))).toUInt32 >>> ((31 : Int32) &&& 31).toUInt32).toInt32).toInt8.toInt32) = (1 : Int32) from own_c1 _ hp (Nat.le_trans hlen (by decide))]; exact hr)) ?_
 exact ⟨rfl, N0, rfl⟩
theorem ef_rm_init4G (m : MethodId) (x0 : Addr) (x1 : Addr) (x2 : Int32) (x3 : Int32) : entryFrame m #[(.ref x0), (.ref x1), (.int x2), (.int x3), .null] 6 = mkF m 0 #[sR x0, sR x1, sI x2, sI x3, .val .null, .unset] [] := by first | (simp [entryFrame, mkF, argsToLocals, Value.category]; done) | rfl
abbrev M3 : MethodName := ⟨"java/lang/String", "<init>", "([CIILjava/lang/Void;)V"⟩
theorem d3_0 : decode B3 0 = .ok (.aload_n 0, 1) := by decide +kernel
theorem d3_1 : decode B3 1 = .ok (.invokespecial 1, 3) := by decide +kernel
theorem d3_4 : decode B3 4 = .ok (.iload_n 3, 1) := by decide +kernel
theorem d3_5 : decode B3 5 = .ok (.ifCond .ne 22, 3) := by decide +kernel
theorem d3_27 : decode B3 27 = .ok (.getstatic 38, 3) := by decide +kernel
theorem d3_30 : decode B3 30 = .ok (.ifCond .eq 28, 3) := by decide +kernel
theorem d3_33 : decode B3 33 = .ok (.aload_n 1, 1) := by decide +kernel
theorem d3_34 : decode B3 34 = .ok (.iload_n 2, 1) := by decide +kernel
theorem d3_35 : decode B3 35 = .ok (.iload_n 3, 1) := by decide +kernel
theorem d3_36 : decode B3 36 = .ok (.invokestatic 177, 3) := by decide +kernel
theorem d3_39 : decode B3 39 = .ok (.astore 5, 2) := by decide +kernel
theorem d3_41 : decode B3 41 = .ok (.aload_n 0, 1) := by decide +kernel
theorem d3_42 : decode B3 42 = .ok (.aload 5, 2) := by decide +kernel
theorem d3_44 : decode B3 44 = .ok (.iload_n 3, 1) := by decide +kernel
theorem d3_45 : decode B3 45 = .ok (.invokestatic 47, 3) := by decide +kernel
theorem pd__28_5bBI_29B : parseMethodDescriptor "([BI)B" = some ⟨[(.array .byte), .int], some .byte⟩ := by decide +kernel
theorem d3_48 : decode B3 48 = .ok (.putfield 15, 3) := by decide +kernel
theorem d3_51 : decode B3 51 = .ok (.aload_n 0, 1) := by decide +kernel
theorem d3_52 : decode B3 52 = .ok (.aload 5, 2) := by decide +kernel
theorem d3_54 : decode B3 54 = .ok (.putfield 9, 3) := by decide +kernel
theorem d3_57 : decode B3 57 = .ok (.return_, 1) := by decide +kernel
def Q_rm_init4G (Z : State) (a : Addr) (d : Addr) (kd : ClassId) (cl : List Int32) (cs : Int32) (h0 : Heap) (n0 : Nat) (v : Option Value) (h : Heap) (L : List Loc) : Prop := ∃ (b : Addr) (kb : ClassId), v = none ∧ Fr n0 L ∧ Keep h0 h [a] ∧ OwnStr Z h a b kb cl ∧ n0 ≤ b ∧ h0.size ≤ b
set_option maxRecDepth 65536 in
set_option maxHeartbeats 40000000 in
theorem rm_init4G (l : Launch) (Z : State) (a0 : Array Value) (hw : ∀ d ∈ tables_1, d.before a0 Z = true) (ws : List Jvm.Cond) (a : Addr) (d : Addr) (kd : ClassId) (cl : List Int32) (cs : Int32) (h0 : Heap) (n0 : Nat) (Z0 : n0 ≤ h0.size) (E_a : Exa Z h0 a "java/lang/String") (Fv_a : Fld Z h0 a "java/lang/String" "value" "[B" .null) (Fc_a : Fld Z h0 a "java/lang/String" "coder" "B" (.int (0 : Int32))) (V_d : Arv Z h0 d kd .char (Int32.ofNat cl.length) (cl.map Value.int) (.int (0 : Int32))) (sC : OCS Z (.int cs)) (sA : OAD Z (.int (1 : Int32))) (sH : OHI Z (.int (0 : Int32))) (sL : OLO Z (.int (8 : Int32))) (hlen : cl.length ≤ 3) (hcA : ∀ c ∈ cl, OwnCh c) (hne : cl ≠ []) (hcs : ¬ (cs = (0 : Int32))) (ne_d_a : d ≠ a) (g_a : n0 ≤ a) (O : Old Z n0 h0) :
  Met l Z M3 jdk_42_method_149_code 6 none ws (Rm 4 2 9 57) #[(.ref a), (.ref d), (.int (0 : Int32)), (.int (Int32.ofNat cl.length)), .null] h0 (Q_rm_init4G Z a d kd cl cs h0 n0) := by
 refine met_of (plainFor_of_name pn_java_lang_String) (own := "java/lang/String") rfl (fun m => ef_rm_init4G m a d (0 : Int32) (Int32.ofNat cl.length)) ?_
 intro p e s m below meth c s₁ hx hby hml hown hnm hZ X0 e0 hret hlk
 have N0 := Fr.nil n0
 have K0 := Keep.refl h0 [a]
 show Goes p e below s _ _ _ (s₁.setTop (mkF m 0 #[sR a, sR d, sI (0 : Int32), sI (Int32.ofNat cl.length), .val .null, .unset] []))
 refine Goes.pre (U' := s₁.setTop (mkF m 1 #[sR a, sR d, sI (0 : Int32), sI (Int32.ofNat cl.length), .val .null, .unset] [(.ref a)])) (fun t k => XS.aloadN X0.here hx rfl (hb hby d3_0) rfl rfl k) ?_
 obtain ⟨T1, X1, e1, st1⟩ := initO X0 hx hZ hown (wq hw 17 rfl) (wq hw 18 rfl) (wq hw 19 rfl) e0 (g := (mkF m 1 #[sR a, sR d, sI (0 : Int32), sI (Int32.ofNat cl.length), .val .null, .unset] [(.ref a)])) rfl (by rw [hml]; rfl) rfl (hb hby d3_1) (by decide) (W := 0) (by show 2 * 0 + _ ≤ _; exact Nat.le_of_eq rfl) (by decide)
 refine Goes.pre (U' := T1.setTop (mkF m 5 #[sR a, sR d, sI (0 : Int32), sI (Int32.ofNat cl.length), .val .null, .unset] [(.int (Int32.ofNat cl.length))])) (fun t k => st1 t (XS.iloadN X1.here hx rfl (hb hby d3_4) rfl k)) ?_
 have hc5 : ¬ ((Int32.ofNat cl.length) = (0 : Int32)) := own_ne0 cl hne (Nat.le_trans hlen (by decide))
 refine Goes.pre (U' := T1.setTop (mkF m 27 #[sR a, sR d, sI (0 : Int32), sI (Int32.ofNat cl.length), .val .null, .unset] [])) (fun t k => XS.ifYes X1.here hx rfl (pc0 := 5) (pc' := 27) rfl (hb hby d3_5) rfl ((if0 _ _).trans (feq hc5).2) (by decide) (by decide) k) ?_
 obtain ⟨T2, X2, e2, st2⟩ := getS2 X1 hx hZ hown (host := "") (Or.inl (wq hw 45 rfl)) Via.refl e1 (sC.ext O.2) (g := (mkF m 27 #[sR a, sR d, sI (0 : Int32), sI (Int32.ofNat cl.length), .val .null, .unset] [])) rfl (hb hby d3_27)
 refine Goes.pre (U' := T2.setTop (mkF m 30 #[sR a, sR d, sI (0 : Int32), sI (Int32.ofNat cl.length), .val .null, .unset] [(.int cs)])) (fun t k => st2 t k) ?_
 have hc30 : ¬ (cs = (0 : Int32)) := hcs
 refine Goes.pre (U' := T2.setTop (mkF m 36 #[sR a, sR d, sI (0 : Int32), sI (Int32.ofNat cl.length), .val .null, .unset] [(.int (Int32.ofNat cl.length)), (.int (0 : Int32)), (.ref d)])) (fun t k => XS.ifNo X2.here hx rfl (hb hby d3_30) rfl ((if0 _ _).trans (feq hc30).1) (XS.aloadN X2.here hx rfl (hb hby d3_33) rfl rfl (XS.iloadN X2.here hx rfl (hb hby d3_34) rfl (XS.iloadN X2.here hx rfl (hb hby d3_35) rfl k)))) ?_
 have lt_a := E_a.lt
 have lt_d := V_d.lt
 obtain ⟨_, _, ⟨T3, L3, k3, n3⟩, -, X3, ⟨Lc3, hQ3, l3, y3, z3⟩, st3⟩ := Jvm.LawKit.callS X2 hx (y := M29) hown (mvT hZ (wq hw 161 rfl)) (mvT hZ (wq hw 162 rfl)) (mvT hZ (wq hw 163 rfl)) (mvT hZ (wq hw 164 rfl)) (by decide) (backOf (W := 0) (rm_cmpG l Z a0 hw [] d kd cl h0 n0 Z0 V_d sA sH sL hlen hcA O) hZ (wq hw 164 rfl) (wq hw 163 rfl) (by decide) (by decide)) (g := (mkF m 36 #[sR a, sR d, sI (0 : Int32), sI (Int32.ofNat cl.length), .val .null, .unset] [(.int (Int32.ofNat cl.length)), (.int (0 : Int32)), (.ref d)])) rfl (by rw [hml]; rfl) (argsL := [(.ref d), (.int (0 : Int32)), (.int (Int32.ofNat cl.length))]) (rest := []) (lenOf pd__28_5bCII_29_5bB rfl) rfl (by show 2 * 0 + _ ≤ _; exact Nat.le_of_eq rfl) (hb hby d3_36) (fun _ _ => ⟨rfl, e2, (by decide : 0 + 2 ≤ _), (by decide : 0 + 9 ≤ _)⟩)
 dsimp only [Pt.U, Pt.locs, Pt.cells, Pt.slots] at X3 l3 y3 z3 st3 hQ3
 subst l3 y3 z3
 obtain ⟨r3, kr3, rfl, N3q, KQ3, fo0_3, g_r3, sl_r3⟩ := hQ3
 have N3 := Fr.app N0 N3q
 have E_a := E_a.keep KQ3
 have Fv_a := Fv_a.keep KQ3 nin0
 have Fc_a := Fc_a.keep KQ3 nin0
 have V_d := V_d.keep KQ3 nin0
 have Z4 : n0 ≤ T3.heap.size := Nat.le_trans Z0 KQ3.1
 have O := O.keep KQ3 all0
 have K4 := K0.trans KQ3 all0
 have ne_a_r3 : a ≠ r3 := Nat.ne_of_lt (Nat.lt_of_lt_of_le lt_a sl_r3)
 have ne_r3_a := ne_a_r3.symm
 have ne_d_r3 : d ≠ r3 := Nat.ne_of_lt (Nat.lt_of_lt_of_le lt_d sl_r3)
 have ne_r3_d := ne_d_r3.symm
 have sz_r3 : h0.size ≤ r3 := Nat.le_trans K0.1 sl_r3
 have Byt_r3 := fo0_3
 refine Goes.pre (U' := T3.setTop (mkF m 41 #[sR a, sR d, sI (0 : Int32), sI (Int32.ofNat cl.length), .val .null, sR r3] [])) (fun t k => st3 t (XS.astore X3.here hx rfl (hb hby d3_39) rfl rfl (l' := #[sR a, sR d, sI (0 : Int32), sI (Int32.ofNat cl.length), .val .null, sR r3]) rfl k)) ?_
 rcases Byt_r3 with ⟨V_r3, hleS⟩ | ⟨V_r3, hexS⟩
 ·
  refine Goes.pre (U' := T3.setTop (mkF m 45 #[sR a, sR d, sI (0 : Int32), sI (Int32.ofNat cl.length), .val .null, sR r3] [(.int (Int32.ofNat cl.length)), (.ref r3), (.ref a)])) (fun t k => XS.aloadN X3.here hx rfl (hb hby d3_41) rfl rfl (XS.aload X3.here hx rfl (hb hby d3_42) rfl rfl (XS.iloadN X3.here hx rfl (hb hby d3_44) rfl k))) ?_
  obtain ⟨_, _, ⟨T5, L5, k5, n5⟩, -, X5, ⟨Lc5, hQ5, l5, y5, z5⟩, st5⟩ := Jvm.LawKit.callS X3 hx (y := M31) hown (mvT hZ (wq hw 168 rfl)) (mvT hZ (wq hw 169 rfl)) (mvT hZ (wq hw 163 rfl)) (mvT hZ (wq hw 170 rfl)) (by decide) (backOf (W := 1) (rm_cflG0 l Z a0 hw [] r3 kr3 cl T3.heap n0 Z4 V_r3 (List.length_pos_iff.mpr hne) hlen) hZ (wq hw 170 rfl) (wq hw 163 rfl) (by decide) (by decide)) (g := (mkF m 45 #[sR a, sR d, sI (0 : Int32), sI (Int32.ofNat cl.length), .val .null, sR r3] [(.int (Int32.ofNat cl.length)), (.ref r3), (.ref a)])) rfl (by rw [hml]; rfl) (argsL := [(.ref r3), (.int (Int32.ofNat cl.length))]) (rest := [(.ref a)]) (lenOf pd__28_5bBI_29B rfl) rfl (by show 2 * 0 + _ ≤ _; exact Nat.le_of_eq rfl) (hb hby d3_45) (fun _ _ => ⟨rfl, rfl, (by decide : 2 + 0 ≤ _), (by decide : 9 + 0 ≤ _)⟩)
  dsimp only [Pt.U, Pt.locs, Pt.cells, Pt.slots] at X5 l5 y5 z5 st5 hQ5
  subst l5 y5 z5
  obtain ⟨rfl, N5q, HQ5⟩ := hQ5
  have N5 := Fr.app N3 N5q
  refine Goes.pre (U' := T5.setTop (mkF m 48 #[sR a, sR d, sI (0 : Int32), sI (Int32.ofNat cl.length), .val .null, sR r3] [(.int (0 : Int32)), (.ref a)])) (fun t k => st5 t k) ?_
  obtain ⟨T6, h6, X6, e6, W6, st6⟩ := putFN X5 hx hZ hown (wq hw 27 rfl) Via.refl HQ5 Fc_a E_a (Or.inr ⟨(wq hw 23 rfl), rfl, hnm⟩) (wq hw 7 rfl) (ty := .byte) (v' := (.int (0 : Int32))) (by decide) rfl (by decide) (g := (mkF m 48 #[sR a, sR d, sI (0 : Int32), sI (Int32.ofNat cl.length), .val .null, sR r3] [(.int (0 : Int32)), (.ref a)])) rfl rfl (hb hby d3_48)
  have E_a := E_a.wr W6
  have Fv_a := Fv_a.other W6 (Or.inr (slot_ne (Or.inr (wq hw 22 rfl)) (Or.inr (wq hw 23 rfl)) (by decide) (t := (.array .byte)) (t' := .byte) (by decide) (by decide)))
  have V_d := V_d.other W6 ne_d_a
  have V_r3 := V_r3.other W6 ne_r3_a
  have Z6 : n0 ≤ h6.size := Nat.le_trans Z4 (Keep.of_wr W6).1
  have O := O.wr W6 g_a
  have Fc_a := Fc_a.same W6
  have K6 := K4.wr W6 (Or.inl (List.mem_of_getElem? (i := 0) rfl))
  have N6 := Fr.snoc X6 N5 g_a
  refine Goes.pre (U' := T6.setTop (mkF m 54 #[sR a, sR d, sI (0 : Int32), sI (Int32.ofNat cl.length), .val .null, sR r3] [(.ref r3), (.ref a)])) (fun t k => st6 t (XS.aloadN X6.here hx rfl (hb hby d3_51) rfl rfl (XS.aload X6.here hx rfl (hb hby d3_52) rfl rfl k))) ?_
  obtain ⟨T7, h7, X7, e7, W7, st7⟩ := putF X6 hx hZ hown (host := "") (Or.inl (wq hw 26 rfl)) Via.refl e6 Fv_a E_a (Or.inr ⟨(wq hw 22 rfl), rfl, hnm⟩) (wq hw 7 rfl) (ty := (.array .byte)) (by decide) rfl rfl (g := (mkF m 54 #[sR a, sR d, sI (0 : Int32), sI (Int32.ofNat cl.length), .val .null, sR r3] [(.ref r3), (.ref a)])) rfl rfl (hb hby d3_54)
  have E_a := E_a.wr W7
  have Fc_a := Fc_a.other W7 (Or.inr (slot_ne (Or.inr (wq hw 23 rfl)) (Or.inr (wq hw 22 rfl)) (by decide) (t := .byte) (t' := (.array .byte)) (by decide) (by decide)))
  have V_d := V_d.other W7 ne_d_a
  have V_r3 := V_r3.other W7 ne_r3_a
  have Z7 : n0 ≤ h7.size := Nat.le_trans Z6 (Keep.of_wr W7).1
  have O := O.wr W7 g_a
  have Fv_a := Fv_a.same W7
  have K7 := K6.wr W7 (Or.inl (List.mem_of_getElem? (i := 0) rfl))
  have N7 := Fr.snoc X7 N6 g_a
  refine Goes.pre (U' := T7.setTop (mkF m 57 #[sR a, sR d, sI (0 : Int32), sI (Int32.ofNat cl.length), .val .null, sR r3] [])) (fun t k => st7 t k) ?_
  refine Goes.ret X7 (v := none) (fun _ => rfl) hlk (by decide) (by decide) e7 (fun fs hr => X7.returnOut hx hret (hb hby d3_57) hr) ?_
  exact ⟨r3, kr3, rfl, N7, K7, ⟨E_a, Fv_a, hcA, Or.inl ⟨Fc_a, V_r3, hleS⟩⟩, g_r3, sz_r3⟩
 ·
  refine Goes.pre (U' := T3.setTop (mkF m 45 #[sR a, sR d, sI (0 : Int32), sI (Int32.ofNat cl.length), .val .null, sR r3] [(.int (Int32.ofNat cl.length)), (.ref r3), (.ref a)])) (fun t k => XS.aloadN X3.here hx rfl (hb hby d3_41) rfl rfl (XS.aload X3.here hx rfl (hb hby d3_42) rfl rfl (XS.iloadN X3.here hx rfl (hb hby d3_44) rfl k))) ?_
  obtain ⟨_, _, ⟨T8, L8, k8, n8⟩, -, X8, ⟨Lc8, hQ8, l8, y8, z8⟩, st8⟩ := Jvm.LawKit.callS X3 hx (y := M31) hown (mvT hZ (wq hw 168 rfl)) (mvT hZ (wq hw 169 rfl)) (mvT hZ (wq hw 163 rfl)) (mvT hZ (wq hw 170 rfl)) (by decide) (backOf (W := 1) (rm_cflG1 l Z a0 hw [] r3 kr3 cl T3.heap n0 Z4 V_r3 (List.length_pos_iff.mpr hne) hlen) hZ (wq hw 170 rfl) (wq hw 163 rfl) (by decide) (by decide)) (g := (mkF m 45 #[sR a, sR d, sI (0 : Int32), sI (Int32.ofNat cl.length), .val .null, sR r3] [(.int (Int32.ofNat cl.length)), (.ref r3), (.ref a)])) rfl (by rw [hml]; rfl) (argsL := [(.ref r3), (.int (Int32.ofNat cl.length))]) (rest := [(.ref a)]) (lenOf pd__28_5bBI_29B rfl) rfl (by show 2 * 0 + _ ≤ _; exact Nat.le_of_eq rfl) (hb hby d3_45) (fun _ _ => ⟨rfl, rfl, (by decide : 2 + 0 ≤ _), (by decide : 9 + 0 ≤ _)⟩)
  dsimp only [Pt.U, Pt.locs, Pt.cells, Pt.slots] at X8 l8 y8 z8 st8 hQ8
  subst l8 y8 z8
  obtain ⟨rfl, N8q, HQ8⟩ := hQ8
  have N8 := Fr.app N3 N8q
  refine Goes.pre (U' := T8.setTop (mkF m 48 #[sR a, sR d, sI (0 : Int32), sI (Int32.ofNat cl.length), .val .null, sR r3] [(.int (1 : Int32)), (.ref a)])) (fun t k => st8 t k) ?_
  obtain ⟨T9, h9, X9, e9, W9, st9⟩ := putFN X8 hx hZ hown (wq hw 27 rfl) Via.refl HQ8 Fc_a E_a (Or.inr ⟨(wq hw 23 rfl), rfl, hnm⟩) (wq hw 7 rfl) (ty := .byte) (v' := (.int (1 : Int32))) (by decide) rfl (by decide) (g := (mkF m 48 #[sR a, sR d, sI (0 : Int32), sI (Int32.ofNat cl.length), .val .null, sR r3] [(.int (1 : Int32)), (.ref a)])) rfl rfl (hb hby d3_48)
  have E_a := E_a.wr W9
  have Fv_a := Fv_a.other W9 (Or.inr (slot_ne (Or.inr (wq hw 22 rfl)) (Or.inr (wq hw 23 rfl)) (by decide) (t := (.array .byte)) (t' := .byte) (by decide) (by decide)))
  have V_d := V_d.other W9 ne_d_a
  have V_r3 := V_r3.other W9 ne_r3_a
  have Z9 : n0 ≤ h9.size := Nat.le_trans Z4 (Keep.of_wr W9).1
  have O := O.wr W9 g_a
  have Fc_a := Fc_a.same W9
  have K9 := K4.wr W9 (Or.inl (List.mem_of_getElem? (i := 0) rfl))
  have N9 := Fr.snoc X9 N8 g_a
  refine Goes.pre (U' := T9.setTop (mkF m 54 #[sR a, sR d, sI (0 : Int32), sI (Int32.ofNat cl.length), .val .null, sR r3] [(.ref r3), (.ref a)])) (fun t k => st9 t (XS.aloadN X9.here hx rfl (hb hby d3_51) rfl rfl (XS.aload X9.here hx rfl (hb hby d3_52) rfl rfl k))) ?_
  obtain ⟨T10, h10, X10, e10, W10, st10⟩ := putF X9 hx hZ hown (host := "") (Or.inl (wq hw 26 rfl)) Via.refl e9 Fv_a E_a (Or.inr ⟨(wq hw 22 rfl), rfl, hnm⟩) (wq hw 7 rfl) (ty := (.array .byte)) (by decide) rfl rfl (g := (mkF m 54 #[sR a, sR d, sI (0 : Int32), sI (Int32.ofNat cl.length), .val .null, sR r3] [(.ref r3), (.ref a)])) rfl rfl (hb hby d3_54)
  have E_a := E_a.wr W10
  have Fc_a := Fc_a.other W10 (Or.inr (slot_ne (Or.inr (wq hw 23 rfl)) (Or.inr (wq hw 22 rfl)) (by decide) (t := .byte) (t' := (.array .byte)) (by decide) (by decide)))
  have V_d := V_d.other W10 ne_d_a
  have V_r3 := V_r3.other W10 ne_r3_a
  have Z10 : n0 ≤ h10.size := Nat.le_trans Z9 (Keep.of_wr W10).1
  have O := O.wr W10 g_a
  have Fv_a := Fv_a.same W10
  have K10 := K9.wr W10 (Or.inl (List.mem_of_getElem? (i := 0) rfl))
  have N10 := Fr.snoc X10 N9 g_a
  refine Goes.pre (U' := T10.setTop (mkF m 57 #[sR a, sR d, sI (0 : Int32), sI (Int32.ofNat cl.length), .val .null, sR r3] [])) (fun t k => st10 t k) ?_
  refine Goes.ret X10 (v := none) (fun _ => rfl) hlk (by decide) (by decide) e10 (fun fs hr => X10.returnOut hx hret (hb hby d3_57) hr) ?_
  exact ⟨r3, kr3, rfl, N10, K10, ⟨E_a, Fv_a, hcA, Or.inr ⟨Fc_a, V_r3, hexS⟩⟩, g_r3, sz_r3⟩
theorem ef_rm_init1G (m : MethodId) (x0 : Addr) (x1 : Addr) : entryFrame m #[(.ref x0), (.ref x1)] 2 = mkF m 0 #[sR x0, sR x1] [] := by first | (simp [entryFrame, mkF, argsToLocals, Value.category]; done) | rfl
abbrev M2 : MethodName := ⟨"java/lang/String", "<init>", "([C)V"⟩
theorem d2_0 : decode B2 0 = .ok (.aload_n 0, 1) := by decide +kernel
theorem d2_1 : decode B2 1 = .ok (.aload_n 1, 1) := by decide +kernel
theorem d2_2 : decode B2 2 = .ok (.iconst 0, 1) := by decide +kernel
theorem d2_3 : decode B2 3 = .ok (.aload_n 1, 1) := by decide +kernel
theorem d2_4 : decode B2 4 = .ok (.arraylength, 1) := by decide +kernel
theorem d2_5 : decode B2 5 = .ok (.aconst_null, 1) := by decide +kernel
theorem d2_6 : decode B2 6 = .ok (.invokespecial 27, 3) := by decide +kernel
theorem pd__28_5bCIILjava_2flang_2fVoid_3b_29V : parseMethodDescriptor "([CIILjava/lang/Void;)V" = some ⟨[(.array .char), .int, .int, (.object "java/lang/Void")], none⟩ := by decide +kernel
theorem d2_9 : decode B2 9 = .ok (.return_, 1) := by decide +kernel
def Q_rm_init1G (Z : State) (a : Addr) (d : Addr) (kd : ClassId) (cl : List Int32) (cs : Int32) (h0 : Heap) (n0 : Nat) (v : Option Value) (h : Heap) (L : List Loc) : Prop := ∃ (b : Addr) (kb : ClassId), v = none ∧ Fr n0 L ∧ Keep h0 h [a] ∧ OwnStr Z h a b kb cl ∧ n0 ≤ b ∧ h0.size ≤ b
set_option maxRecDepth 65536 in
set_option maxHeartbeats 40000000 in
theorem rm_init1G (l : Launch) (Z : State) (a0 : Array Value) (hw : ∀ d ∈ tables_1, d.before a0 Z = true) (ws : List Jvm.Cond) (a : Addr) (d : Addr) (kd : ClassId) (cl : List Int32) (cs : Int32) (h0 : Heap) (n0 : Nat) (Z0 : n0 ≤ h0.size) (E_a : Exa Z h0 a "java/lang/String") (Fv_a : Fld Z h0 a "java/lang/String" "value" "[B" .null) (Fc_a : Fld Z h0 a "java/lang/String" "coder" "B" (.int (0 : Int32))) (V_d : Arv Z h0 d kd .char (Int32.ofNat cl.length) (cl.map Value.int) (.int (0 : Int32))) (sC : OCS Z (.int cs)) (sA : OAD Z (.int (1 : Int32))) (sH : OHI Z (.int (0 : Int32))) (sL : OLO Z (.int (8 : Int32))) (hlen : cl.length ≤ 3) (hcA : ∀ c ∈ cl, OwnCh c) (hne : cl ≠ []) (hcs : ¬ (cs = (0 : Int32))) (ne_d_a : d ≠ a) (g_a : n0 ≤ a) (O : Old Z n0 h0) :
  Met l Z M2 jdk_42_method_3_code 2 none ws (Rm 5 2 9 74) #[(.ref a), (.ref d)] h0 (Q_rm_init1G Z a d kd cl cs h0 n0) := by
 refine met_of (plainFor_of_name pn_java_lang_String) (own := "java/lang/String") rfl (fun m => ef_rm_init1G m a d) ?_
 intro p e s m below meth c s₁ hx hby hml hown hnm hZ X0 e0 hret hlk
 have N0 := Fr.nil n0
 have K0 := Keep.refl h0 [a]
 show Goes p e below s _ _ _ (s₁.setTop (mkF m 0 #[sR a, sR d] []))
 refine Goes.pre (U' := s₁.setTop (mkF m 4 #[sR a, sR d] [(.ref d), (.int (0 : Int32)), (.ref d), (.ref a)])) (fun t k => XS.aloadN X0.here hx rfl (hb hby d2_0) rfl rfl (XS.aloadN X0.here hx rfl (hb hby d2_1) rfl rfl (XS.iconst X0.here hx rfl (hb hby d2_2) (XS.aloadN X0.here hx rfl (hb hby d2_3) rfl rfl k)))) ?_
 obtain ⟨cl1, Ar1, q1, Sz1, Ng1, -, -⟩ := id V_d
 have ln1 := len_of Sz1 Ng1
 refine Goes.pre (U' := s₁.setTop (mkF m 6 #[sR a, sR d] [.null, (.int (Int32.ofNat cl.length)), (.int (0 : Int32)), (.ref d), (.ref a)])) (fun t k => X0.arraylength hx (by rw [e0]; exact Ar1.1) (State.isArrayOf_alike hZ.alike Ar1.2.1) (g := (mkF m 4 #[sR a, sR d] [(.ref d), (.int (0 : Int32)), (.ref d), (.ref a)])) rfl rfl (hb hby d2_4) _ (by rw [ln1]; exact (XS.aconstNull X0.here hx rfl (hb hby d2_5) k))) ?_
 have lt_a := E_a.lt
 have lt_d := V_d.lt
 obtain ⟨_, _, ⟨T2, L2, k2, n2⟩, -, X2, ⟨Lc2, hQ2, l2, y2, z2⟩, st2⟩ := X0.specialBack hx (y := M3) rfl hown (mvT hZ (wq hw 13 rfl)) (mvT hZ (wq hw 14 rfl)) (mvT hZ (wq hw 16 rfl)) (by decide) (backOf (W := 0) (rm_init4G l Z a0 hw [] a d kd cl cs h0 n0 Z0 E_a Fv_a Fc_a V_d sC sA sH sL hlen hcA hne hcs ne_d_a g_a O) hZ (wq hw 16 rfl) (wq hw 8 rfl) (by decide) (by decide)) (g := (mkF m 6 #[sR a, sR d] [.null, (.int (Int32.ofNat cl.length)), (.int (0 : Int32)), (.ref d), (.ref a)])) rfl (by rw [hml]; rfl) (Steps.refl _) (a := a) (argsL := [(.ref d), (.int (0 : Int32)), (.int (Int32.ofNat cl.length)), .null]) (rest := []) (lenOf pd__28_5bCIILjava_2flang_2fVoid_3b_29V rfl) rfl (by show 2 * 0 + _ ≤ _; exact Nat.le_of_eq rfl) (hb hby d2_6) (fun _ _ => ⟨rfl, e0, (by decide : 0 + 2 ≤ _), (by decide : 0 + 9 ≤ _)⟩)
 dsimp only [Pt.U, Pt.locs, Pt.cells, Pt.slots] at X2 l2 y2 z2 st2 hQ2
 subst l2 y2 z2
 obtain ⟨b2, kb2, rfl, N2q, KQ2, fo0_2, g_b2, sl_b2⟩ := hQ2
 have N2 := Fr.app N0 N2q
 have E_a := E_a.keep KQ2
 have V_d := V_d.keep KQ2 (ninS ne_d_a nin0)
 have Z3 : n0 ≤ T2.heap.size := Nat.le_trans Z0 KQ2.1
 have O := O.keep KQ2 (allS (P := fun x => n0 ≤ x) g_a all0)
 have K3 := K0.trans KQ2 (allS (P := fun x => x ∈ [a] ∨ h0.size ≤ x) (Or.inl (List.mem_of_getElem? (i := 0) rfl)) all0)
 have ne_a_b2 : a ≠ b2 := Nat.ne_of_lt (Nat.lt_of_lt_of_le lt_a sl_b2)
 have ne_b2_a := ne_a_b2.symm
 have ne_d_b2 : d ≠ b2 := Nat.ne_of_lt (Nat.lt_of_lt_of_le lt_d sl_b2)
 have ne_b2_d := ne_d_b2.symm
 have sz_b2 : h0.size ≤ b2 := Nat.le_trans K0.1 sl_b2
 have S_a := fo0_2
 refine Goes.pre (U' := T2.setTop (mkF m 9 #[sR a, sR d] [])) (fun t k => st2.trans k) ?_
 refine Goes.ret X2 (v := none) (fun _ => rfl) hlk (by decide) (by decide) rfl (fun fs hr => X2.returnOut hx hret (hb hby d2_9) hr) ?_
 exact ⟨b2, kb2, rfl, N2, K3, S_a, g_b2, sz_b2⟩
theorem ef_rm_init4_0 (m : MethodId) (x0 : Addr) (x1 : Addr) (x2 : Int32) (x3 : Int32) : entryFrame m #[(.ref x0), (.ref x1), (.int x2), (.int x3), .null] 6 = mkF m 0 #[sR x0, sR x1, sI x2, sI x3, .val .null, .unset] [] := by first | (simp [entryFrame, mkF, argsToLocals, Value.category]; done) | rfl
theorem d3_8 : decode B3 8 = .ok (.aload_n 0, 1) := by decide +kernel
theorem d3_9 : decode B3 9 = .ok (.ldc 7, 2) := by decide +kernel
theorem d3_11 : decode B3 11 = .ok (.getfield 9, 3) := by decide +kernel
theorem d3_14 : decode B3 14 = .ok (.putfield 9, 3) := by decide +kernel
theorem d3_17 : decode B3 17 = .ok (.aload_n 0, 1) := by decide +kernel
theorem d3_18 : decode B3 18 = .ok (.ldc 7, 2) := by decide +kernel
theorem d3_20 : decode B3 20 = .ok (.getfield 15, 3) := by decide +kernel
theorem d3_23 : decode B3 23 = .ok (.putfield 15, 3) := by decide +kernel
theorem d3_26 : decode B3 26 = .ok (.return_, 1) := by decide +kernel
def Q_rm_init4_0 (Z : State) (a : Addr) (d : Addr) (h0 : Heap) (n0 : Nat) (v : Option Value) (h : Heap) (L : List Loc) : Prop := ∃ (b : Addr) (kb : ClassId), v = none ∧ Fr n0 L ∧ Keep h0 h [a] ∧ OwnStr Z h a b kb []
set_option maxRecDepth 65536 in
set_option maxHeartbeats 40000000 in
theorem rm_init4_0 (l : Launch) (Z : State) (a0 : Array Value) (hw : ∀ d ∈ tables_1, d.before a0 Z = true) (hEL : EW Z a0 own_EL) (ws : List Jvm.Cond) (a : Addr) (d : Addr) (h0 : Heap) (n0 : Nat) (Z0 : n0 ≤ h0.size) (E_a : Exa Z h0 a "java/lang/String") (Fv_a : Fld Z h0 a "java/lang/String" "value" "[B" .null) (Fc_a : Fld Z h0 a "java/lang/String" "coder" "B" (.int (0 : Int32))) (g_a : n0 ≤ a) :
  MetW l Z own_EL M3 jdk_42_method_149_code 6 none ws (Rm 1 2 4 12) #[(.ref a), (.ref d), (.int (0 : Int32)), (.int (0 : Int32)), .null] [a] h0 (Q_rm_init4_0 Z a d h0 n0) := by
 refine metW_of (plainFor_of_name pn_java_lang_String) (own := "java/lang/String") rfl (fun m => ef_rm_init4_0 m a d (0 : Int32) (0 : Int32)) ?_
 intro p e s m below meth c s₁ hx hby hml hown hnm hZ X0 e0 hret hlk H hSf CR hS
 have N0 := Fr.nil n0
 have K0 := Keep.refl h0 [a]
 have hk := Nat.le_refl h0.size
 have SF_a := hSf a (List.mem_of_getElem? (i := 0) rfl)
 show GoesW p e below s Z own_EL _ _ _ (s₁.setTop (mkF m 0 #[sR a, sR d, sI (0 : Int32), sI (0 : Int32), .val .null, .unset] []))
 refine GoesW.pre (U' := s₁.setTop (mkF m 1 #[sR a, sR d, sI (0 : Int32), sI (0 : Int32), .val .null, .unset] [(.ref a)])) (fun t k => XS.aloadN X0.here hx rfl (hb hby d3_0) rfl rfl k) ?_
 obtain ⟨T1, X1, e1, st1⟩ := initO X0 hx hZ hown (wq hw 17 rfl) (wq hw 18 rfl) (wq hw 19 rfl) e0 (g := (mkF m 1 #[sR a, sR d, sI (0 : Int32), sI (0 : Int32), .val .null, .unset] [(.ref a)])) rfl (by rw [hml]; rfl) rfl (hb hby d3_1) (by decide) (W := 0) (by show 2 * 0 + _ ≤ _; exact Nat.le_of_eq rfl) (by decide)
 refine GoesW.pre (U' := T1.setTop (mkF m 5 #[sR a, sR d, sI (0 : Int32), sI (0 : Int32), .val .null, .unset] [(.int (0 : Int32))])) (fun t k => st1 t (XS.iloadN X1.here hx rfl (hb hby d3_4) rfl k)) ?_
 have hc5 : (0 : Int32) = (0 : Int32) := rfl
 refine GoesW.pre (U' := T1.setTop (mkF m 9 #[sR a, sR d, sI (0 : Int32), sI (0 : Int32), .val .null, .unset] [(.ref a)])) (fun t k => XS.ifNo X1.here hx rfl (hb hby d3_5) rfl ((if0 _ _).trans (teq hc5).2) (XS.aloadN X1.here hx rfl (hb hby d3_8) rfl rfl k)) ?_
 have lt0_a := E_a.lt
 obtain ⟨ls2, T2, h2, k1_2, lb2, kl2, X2, e2, E2, hS2, hk2, hZ2, hown2, El2, Fc2, Fv2, Av2, lta2, ltb2, CQ2, Li2, Sne2, st2⟩ := ldcCH X1 hx hZ hown (wq hw 20 rfl) (own_atoms hw) e1 hS hk hEL (List.mem_of_getElem? (i := 3) rfl) H (vs := []) (z := (0 : Int32)) ⟨by decide, by decide⟩ (by decide) (by decide) (g := (mkF m 9 #[sR a, sR d, sI (0 : Int32), sI (0 : Int32), .val .null, .unset] [(.ref a)])) rfl (hb hby d3_9) (n := 0) (by decide) (by decide) (by decide) (by decide)
 have E_a := E_a.ext E2
 have Fv_a := Fv_a.ext E2
 have Fc_a := Fc_a.ext E2
 have SF_a : Safe Z own_EL T2.vm h2 a := CQ2.safe lt0_a SF_a
 have Z2 : n0 ≤ h2.size := Nat.le_trans Z0 E2.1
 have K2 := K0.ext E2
 have hS := hS2
 have hk := hk2
 have hZ := hZ2
 have hown := hown2
 have H := CQ2.1
 have CR := CR.trans CQ2
 obtain ⟨ne_a_ls2, ne_a_lb2⟩ := Sne2 a SF_a
 have ne_ls2_a := ne_a_ls2.symm
 have ne_lb2_a := ne_a_lb2.symm
 have E_ls2 := El2
 have Fc_ls2 := Fc2
 have Fv_ls2 := Fv2
 have V_lb2 := Av2
 have Li_ls2 := Li2
 refine GoesW.pre (U' := T2.setTop (mkF m 11 #[sR a, sR d, sI (0 : Int32), sI (0 : Int32), .val .null, .unset] [(.ref ls2), (.ref a)])) (fun t k => st2 t k) ?_
 obtain ⟨T3, X3, e3, st3⟩ := getF X2 hx hZ hown (host := "") (Or.inl (wq hw 26 rfl)) Via.refl e2 Fv_ls2 (g := (mkF m 11 #[sR a, sR d, sI (0 : Int32), sI (0 : Int32), .val .null, .unset] [(.ref ls2), (.ref a)])) rfl rfl (hb hby d3_11)
 refine GoesW.pre (U' := T3.setTop (mkF m 14 #[sR a, sR d, sI (0 : Int32), sI (0 : Int32), .val .null, .unset] [(.ref lb2), (.ref a)])) (fun t k => st3 t k) ?_
 obtain ⟨T4, h4, X4, e4, W4, st4⟩ := putF X3 hx hZ hown (host := "") (Or.inl (wq hw 26 rfl)) Via.refl e3 Fv_a E_a (Or.inr ⟨(wq hw 22 rfl), rfl, hnm⟩) (wq hw 7 rfl) (ty := (.array .byte)) (by decide) rfl rfl (g := (mkF m 14 #[sR a, sR d, sI (0 : Int32), sI (0 : Int32), .val .null, .unset] [(.ref lb2), (.ref a)])) rfl rfl (hb hby d3_14)
 have E_a := E_a.wr W4
 have Fc_a := Fc_a.other W4 (Or.inr (slot_ne (Or.inr (wq hw 23 rfl)) (Or.inr (wq hw 22 rfl)) (by decide) (t := .byte) (t' := (.array .byte)) (by decide) (by decide)))
 have E_ls2 := E_ls2.wr W4
 have Fc_ls2 := Fc_ls2.other W4 (Or.inl ne_ls2_a)
 have Fv_ls2 := Fv_ls2.other W4 (Or.inl ne_ls2_a)
 have V_lb2 := V_lb2.other W4 ne_lb2_a
 have Z4 : n0 ≤ h4.size := Nat.le_trans Z2 (Keep.of_wr W4).1
 have SFo := SF_a
 have SF_a := Safe.wr W4 SFo H SF_a
 have CR := CR.trans (CHr.wr W4 SFo H)
 have H := H.wr W4 SFo
 have hk := Nat.le_trans hk (Keep.of_wr W4).1
 have Fv_a := Fv_a.same W4
 have K4 := K2.wr W4 (Or.inl (List.mem_of_getElem? (i := 0) rfl))
 have N4 := Fr.snoc X4 N0 g_a
 refine GoesW.pre (U' := T4.setTop (mkF m 20 #[sR a, sR d, sI (0 : Int32), sI (0 : Int32), .val .null, .unset] [(.ref ls2), (.ref a)])) (fun t k => st4 t (XS.aloadN X4.here hx rfl (hb hby d3_17) rfl rfl (ldcAgain X4 hx hZ hown (wq hw 20 rfl) Li_ls2 (g := (mkF m 18 #[sR a, sR d, sI (0 : Int32), sI (0 : Int32), .val .null, .unset] [(.ref a)])) rfl (hb hby d3_18) t k))) ?_
 obtain ⟨T5, X5, e5, st5⟩ := getF X4 hx hZ hown (host := "") (Or.inl (wq hw 27 rfl)) Via.refl e4 Fc_ls2 (g := (mkF m 20 #[sR a, sR d, sI (0 : Int32), sI (0 : Int32), .val .null, .unset] [(.ref ls2), (.ref a)])) rfl rfl (hb hby d3_20)
 refine GoesW.pre (U' := T5.setTop (mkF m 23 #[sR a, sR d, sI (0 : Int32), sI (0 : Int32), .val .null, .unset] [(.int (0 : Int32)), (.ref a)])) (fun t k => st5 t k) ?_
 obtain ⟨T6, h6, X6, e6, W6, st6⟩ := putFN X5 hx hZ hown (wq hw 27 rfl) Via.refl e5 Fc_a E_a (Or.inr ⟨(wq hw 23 rfl), rfl, hnm⟩) (wq hw 7 rfl) (ty := .byte) (v' := (.int (0 : Int32))) (by decide) rfl (by decide) (g := (mkF m 23 #[sR a, sR d, sI (0 : Int32), sI (0 : Int32), .val .null, .unset] [(.int (0 : Int32)), (.ref a)])) rfl rfl (hb hby d3_23)
 have E_a := E_a.wr W6
 have Fv_a := Fv_a.other W6 (Or.inr (slot_ne (Or.inr (wq hw 22 rfl)) (Or.inr (wq hw 23 rfl)) (by decide) (t := (.array .byte)) (t' := .byte) (by decide) (by decide)))
 have E_ls2 := E_ls2.wr W6
 have Fc_ls2 := Fc_ls2.other W6 (Or.inl ne_ls2_a)
 have Fv_ls2 := Fv_ls2.other W6 (Or.inl ne_ls2_a)
 have V_lb2 := V_lb2.other W6 ne_lb2_a
 have Z6 : n0 ≤ h6.size := Nat.le_trans Z4 (Keep.of_wr W6).1
 have SFo := SF_a
 have SF_a := Safe.wr W6 SFo H SF_a
 have CR := CR.trans (CHr.wr W6 SFo H)
 have H := H.wr W6 SFo
 have hk := Nat.le_trans hk (Keep.of_wr W6).1
 have Fc_a := Fc_a.same W6
 have K6 := K4.wr W6 (Or.inl (List.mem_of_getElem? (i := 0) rfl))
 have N6 := Fr.snoc X6 N4 g_a
 refine GoesW.pre (U' := T6.setTop (mkF m 26 #[sR a, sR d, sI (0 : Int32), sI (0 : Int32), .val .null, .unset] [])) (fun t k => st6 t k) ?_
 refine GoesW.ret X6 hZ hEL hS hk H CR (v := none) (fun _ => rfl) hlk (by decide) (by decide) e6 (fun fs hr => X6.returnOut hx hret (hb hby d3_26) hr) ?_
 exact ⟨lb2, kl2, rfl, N6, K6, ⟨E_a, Fv_a, (by intro c hc; cases hc), Or.inl ⟨Fc_a, V_lb2, (by intro c hc; cases hc)⟩⟩⟩
theorem ef_rm_init1_0 (m : MethodId) (x0 : Addr) (x1 : Addr) : entryFrame m #[(.ref x0), (.ref x1)] 2 = mkF m 0 #[sR x0, sR x1] [] := by first | (simp [entryFrame, mkF, argsToLocals, Value.category]; done) | rfl
def Q_rm_init1_0 (Z : State) (a : Addr) (d : Addr) (kd : ClassId) (h0 : Heap) (n0 : Nat) (v : Option Value) (h : Heap) (L : List Loc) : Prop := ∃ (b : Addr) (kb : ClassId), v = none ∧ Fr n0 L ∧ Keep h0 h [a] ∧ OwnStr Z h a b kb []
set_option maxRecDepth 65536 in
set_option maxHeartbeats 40000000 in
theorem rm_init1_0 (l : Launch) (Z : State) (a0 : Array Value) (hw : ∀ d ∈ tables_1, d.before a0 Z = true) (hEL : EW Z a0 own_EL) (ws : List Jvm.Cond) (a : Addr) (d : Addr) (kd : ClassId) (h0 : Heap) (n0 : Nat) (Z0 : n0 ≤ h0.size) (E_a : Exa Z h0 a "java/lang/String") (Fv_a : Fld Z h0 a "java/lang/String" "value" "[B" .null) (Fc_a : Fld Z h0 a "java/lang/String" "coder" "B" (.int (0 : Int32))) (V_d : Arv Z h0 d kd .char (0 : Int32) [] (.int (0 : Int32))) (ne_d_a : d ≠ a) (g_a : n0 ≤ a) :
  MetW l Z own_EL M2 jdk_42_method_3_code 2 none ws (Rm 2 2 4 29) #[(.ref a), (.ref d)] [a] h0 (Q_rm_init1_0 Z a d kd h0 n0) := by
 refine metW_of (plainFor_of_name pn_java_lang_String) (own := "java/lang/String") rfl (fun m => ef_rm_init1_0 m a d) ?_
 intro p e s m below meth c s₁ hx hby hml hown hnm hZ X0 e0 hret hlk H hSf CR hS
 have N0 := Fr.nil n0
 have K0 := Keep.refl h0 [a]
 have hk := Nat.le_refl h0.size
 have SF_a := hSf a (List.mem_of_getElem? (i := 0) rfl)
 show GoesW p e below s Z own_EL _ _ _ (s₁.setTop (mkF m 0 #[sR a, sR d] []))
 refine GoesW.pre (U' := s₁.setTop (mkF m 4 #[sR a, sR d] [(.ref d), (.int (0 : Int32)), (.ref d), (.ref a)])) (fun t k => XS.aloadN X0.here hx rfl (hb hby d2_0) rfl rfl (XS.aloadN X0.here hx rfl (hb hby d2_1) rfl rfl (XS.iconst X0.here hx rfl (hb hby d2_2) (XS.aloadN X0.here hx rfl (hb hby d2_3) rfl rfl k)))) ?_
 obtain ⟨cl1, Ar1, q1, Sz1, Ng1, -, -⟩ := id V_d
 have ln1 := len_of Sz1 Ng1
 refine GoesW.pre (U' := s₁.setTop (mkF m 6 #[sR a, sR d] [.null, (.int (0 : Int32)), (.int (0 : Int32)), (.ref d), (.ref a)])) (fun t k => X0.arraylength hx (by rw [e0]; exact Ar1.1) (State.isArrayOf_alike hZ.alike Ar1.2.1) (g := (mkF m 4 #[sR a, sR d] [(.ref d), (.int (0 : Int32)), (.ref d), (.ref a)])) rfl rfl (hb hby d2_4) _ (by rw [ln1]; exact (XS.aconstNull X0.here hx rfl (hb hby d2_5) k))) ?_
 obtain ⟨_, _, ⟨T2, L2, k2, n2⟩, -, X2, hS2, hge2, ⟨Lc2, hQ2, l2, y2, z2, CQ2⟩, st2⟩ := X0.specialBackS hx (y := M3) rfl hown (mvT hZ (wq hw 13 rfl)) (mvT hZ (wq hw 14 rfl)) (mvT hZ (wq hw 16 rfl)) (by decide) (own_backSH (s := s) (W := 0) (rm_init4_0 l Z a0 hw hEL [] a d h0 n0 Z0 E_a Fv_a Fc_a g_a) hZ (wq hw 16 rfl) (wq hw 8 rfl) (by decide) (by decide) hEL H (allS (P := fun x => Safe Z own_EL s.vm h0 x ∧ x < h0.size) ⟨SF_a, E_a.lt⟩ all0)) (g := (mkF m 6 #[sR a, sR d] [.null, (.int (0 : Int32)), (.int (0 : Int32)), (.ref d), (.ref a)])) rfl (by rw [hml]; rfl) (Steps.refl _) (a := a) (argsL := [(.ref d), (.int (0 : Int32)), (.int (0 : Int32)), .null]) (rest := []) (lenOf pd__28_5bCIILjava_2flang_2fVoid_3b_29V rfl) rfl (by show 2 * 0 + _ ≤ _; exact Nat.le_of_eq rfl) (hb hby d2_6) (fun _ _ => ⟨rfl, e0, (by decide : 0 + 2 ≤ _), (by decide : 0 + 4 ≤ _)⟩)
 dsimp only [Pt.U, Pt.locs, Pt.cells, Pt.slots] at X2 l2 y2 z2 st2 hQ2 hS2 hge2 CQ2
 subst l2 y2 z2
 obtain ⟨b2, kb2, rfl, N2q, KQ2, fo0_2⟩ := hQ2
 have N2 := Fr.app N0 N2q
 have SF_a := CQ2.safe E_a.lt SF_a
 have hS := foldS (T := s₁) hS (by rw [e0]; exact hk) hS2 hge2
 have hZ : Z.Warmed39 (s.setVm T2.vm).vm := State.Warmed39.trans (t := s.setVm s.vm) hZ hS2.1
 have hown := own_found hS2 hown
 have H := CQ2.1
 have CR := CR.trans CQ2
 have hk := Nat.le_refl T2.heap.size
 have E_a := E_a.keep KQ2
 have V_d := V_d.keep KQ2 (ninS ne_d_a nin0)
 have Z3 : n0 ≤ T2.heap.size := Nat.le_trans Z0 KQ2.1
 have K3 := K0.trans KQ2 (allS (P := fun x => x ∈ [a] ∨ h0.size ≤ x) (Or.inl (List.mem_of_getElem? (i := 0) rfl)) all0)
 have S_a := fo0_2
 refine GoesW.pre (U' := T2.setTop (mkF m 9 #[sR a, sR d] [])) (fun t k => st2.trans k) ?_
 refine GoesW.ret X2 hZ hEL hS hk H CR (v := none) (fun _ => rfl) hlk (by decide) (by decide) rfl (fun fs hr => X2.returnOut hx hret (hb hby d2_9) hr) ?_
 exact ⟨b2, kb2, rfl, N2, K3, S_a⟩
def own_l9 : List Int32 := [(60 : Int32), (62 : Int32), (34 : Int32), (123 : Int32), (125 : Int32), (124 : Int32), (94 : Int32), (96 : Int32), (92 : Int32)]
def own_u4 : List Int32 := [(92 : Int32), (117 : Int32), (48 : Int32), (48 : Int32)]
def own_hx : List Int32 := [(48 : Int32), (49 : Int32), (50 : Int32), (51 : Int32), (52 : Int32), (53 : Int32), (54 : Int32), (55 : Int32), (56 : Int32), (57 : Int32), (65 : Int32), (66 : Int32), (67 : Int32), (68 : Int32), (69 : Int32), (70 : Int32)]
theorem own_litA (l : List Int32) (hb : ∀ c ∈ l, 0 ≤ c.toInt ∧ c.toInt ≤ 127) : (∀ c ∈ l, OwnCh c) ∧ ∀ c ∈ l, ¬ ((255 : Int32) < c) := by
  refine ⟨fun c hc => ⟨(hb c hc).1, by have := (hb c hc).2; omega⟩, fun c hc h => ?_⟩
  rw [Int32.lt_iff_toInt_lt, show (255 : Int32).toInt = 255 from by decide] at h
  have := (hb c hc).2
  omega
theorem own_litB {Z : State} {h : Heap} {b : Addr} {k : ClassId} {z : Int32} (l : List Int32) (hb : ∀ c ∈ l, 0 ≤ c.toInt ∧ c.toInt ≤ 127) (hz : z = Int32.ofNat l.length) (A : Arv Z h b k .byte z (l.map Value.int) (.int (0 : Int32))) : Arv Z h b k .byte (Int32.ofNat l.length) (l.map fun c => .int c.toInt8.toInt32) (.int (0 : Int32)) := by
  have e : (l.map fun c => Value.int c.toInt8.toInt32) = l.map Value.int := by
    apply List.map_congr_left
    intro c hc
    have b := hb c hc
    have q := c_i2b c
    congr 1
    apply Int32.toInt_inj.mp
    omega
  rw [e, ← hz]
  exact A
theorem own_b9 : ∀ c ∈ own_l9, 0 ≤ c.toInt ∧ c.toInt ≤ 127 := by decide +kernel
theorem own_b4 : ∀ c ∈ own_u4, 0 ≤ c.toInt ∧ c.toInt ≤ 127 := by decide +kernel
theorem own_bh : ∀ c ∈ own_hx, 0 ≤ c.toInt ∧ c.toInt ≤ 127 := by decide +kernel
theorem own_hxb (k : Nat) : 0 ≤ (own_hx.getD k 0).toInt ∧ (own_hx.getD k 0).toInt ≤ 127 := by
  rcases Nat.lt_or_ge k own_hx.length with h | h
  · exact own_bh _ (own_gmem own_hx k h)
  · rw [List.getD_eq_getElem?_getD, List.getElem?_eq_none h]
    decide
theorem own_hx_ch (k : Nat) : OwnCh (own_hx.getD k 0) := ⟨(own_hxb k).1, by have := (own_hxb k).2; omega⟩
theorem own_hx_le (k : Nat) : ¬ ((255 : Int32) < own_hx.getD k 0) := fun h => by
  rw [Int32.lt_iff_toInt_lt, show (255 : Int32).toInt = 255 from by decide] at h
  have := (own_hxb k).2
  omega
theorem own_nface {args : Array Value} {s : State} {C : String} {y y1 z1 : MethodName} (hsel : (Cond.selects C y1 z1).before args s = true) (hz : z1.cls = y.cls) : NotFace s y := fun r0 h0 => by
  obtain ⟨c2, r2, m2, q1, q2, q3, q4, kP, hkP, hkPi⟩ := Cond.selects_spec hsel
  have a1 := findClass_of_methodNamed q3
  have a2 := findClass_of_methodNamed h0
  rw [hz, a2] at a1
  have a3 : r0.cls = m2.cls := Option.some.inj a1
  exact ⟨kP, by rw [a3]; exact hkP, hkPi⟩
theorem own_selfp {Z : State} {a0 : Array Value} {y : MethodName} {K : String} (ws : (Cond.selects K y y).before a0 Z = true) (wi : (Cond.instanceMethod y).before a0 Z = true) (wp : (Cond.privateMethod y).before a0 Z = true) (n1 : y.cls ≠ "java/lang/invoke/MethodHandle") (n2 : y.cls ≠ "java/lang/invoke/VarHandle") : (Cond.selects y.cls y y).before a0 Z = true := by
  obtain ⟨t, r, mm, k1, -, k3, -, kk, k4, k5⟩ := Cond.selects_spec ws
  exact selects_self_of_private (findClass_of_methodNamed k3) k4 k5 (Cond.privateMethod_at wp) wi ⟨n1, n2⟩
theorem own_same {Z : State} {a0 : Array Value} {y : MethodName} {K : String} {y1 z1 : MethodName} (w : (Cond.instanceMethod y).before a0 Z = true) (ws : (Cond.selects K y1 z1).before a0 Z = true) (hz : z1.cls = y.cls) (n1 : y.cls ≠ "java/lang/invoke/MethodHandle") (n2 : y.cls ≠ "java/lang/invoke/VarHandle") : (Cond.sameMethod y.cls y.cls y.name y.desc).before a0 Z = true := by
  obtain ⟨mk, methM, hnamed, -⟩ := Cond.instanceMethod_spec w
  have hf := State.methodFound?_of_named hnamed ⟨n1, n2⟩
  have hc := findClass_of_methodNamed hnamed
  obtain ⟨t, r, mm, k1, -, k3, -, kk, k4, k5⟩ := Cond.selects_spec ws
  have k6 := findClass_of_methodNamed k3
  rw [hz, hc] at k6
  have k7 : mk.cls = mm.cls := Option.some.inj k6
  rw [← k7] at k4
  simp [Cond.before, Cond.holds, Cond.value, hc, hf, hnamed, k4, k5]
theorem own_mayne {n : Nat} {r b x : Addr} (h : r = b ∨ n ≤ r) (l : x < n) (ne : x ≠ b) : x ≠ r := fun e => h.elim (fun q => ne (e.trans q)) (fun q => absurd (e ▸ l) (Nat.not_lt.mpr q))
theorem own_maysz {n m : Nat} {r b : Addr} (h : r = b ∨ n ≤ r) (s : m ≤ b) (f : n ≤ r → m ≤ r) : m ≤ r := h.elim (fun q => by rw [q]; exact s) f
theorem own_may1 {n m : Nat} {r b : Addr} (h : r = b ∨ n ≤ r) (f : n ≤ r → m ≤ r) : r = b ∨ m ≤ r := h.imp id f
theorem own_may2 {n m : Nat} {r b c : Addr} (h : r = b ∨ n ≤ r) (g : b = c ∨ m ≤ b) (f : n ≤ r → m ≤ r) : r = c ∨ m ≤ r := h.elim (fun q => by rw [q]; exact g) (fun q => Or.inr (f q))
theorem own_mayk {m : Nat} {r b : Addr} {ks : List Addr} (h : r = b ∨ m ≤ r) (i : b ∈ ks) : r ∈ ks ∨ m ≤ r := h.imp (fun q => by rw [q]; exact i) id
theorem own_maySF {Z : State} {EL : List (String × Nat)} {vm : Vm} {h : Heap} {r b : Addr} (q : r = b ∨ h.size ≤ r) (S : Safe Z EL vm h b) : Safe Z EL vm h r := q.elim (fun z => by rw [z]; exact S) (fun z => Safe.new z)
def OwnSB (Z : State) (h : Heap) (a b : Addr) (kb : ClassId) (cl : List Int32) : Prop :=
  Exa Z h a "java/lang/StringBuilder" ∧ Exa Z h b "[B" ∧ Fld Z h a "java/lang/AbstractStringBuilder" "value" "[B" (.ref b) ∧ Fld Z h a "java/lang/AbstractStringBuilder" "count" "I" (.int (Int32.ofNat cl.length)) ∧ Fld Z h a "java/lang/AbstractStringBuilder" "maybeLatin1" "Z" (.int (0 : Int32)) ∧ (∀ c ∈ cl, OwnCh c) ∧
  ((Fld Z h a "java/lang/AbstractStringBuilder" "coder" "B" (.int (0 : Int32)) ∧ (∀ c ∈ cl, ¬ ((255 : Int32) < c)) ∧ ∃ cap, cl.length ≤ cap ∧ cap ≤ 48 ∧ Arv Z h b kb .byte (Int32.ofNat cap) (cl.map fun c => .int c.toInt8.toInt32) (.int (0 : Int32))) ∨
   (Fld Z h a "java/lang/AbstractStringBuilder" "coder" "B" (.int (1 : Int32)) ∧ (∃ c ∈ cl, (255 : Int32) < c) ∧ ∃ cap, cl.length ≤ cap ∧ cap ≤ 48 ∧ Arv Z h b kb .byte (Int32.ofNat (2 * cap)) (cl.flatMap fun c => [.int (c >>> ((0 : Int32) &&& 31)).toInt8.toInt32, .int (c >>> ((8 : Int32) &&& 31)).toInt8.toInt32]) (.int (0 : Int32))))
theorem OwnSB.ext {Z : State} {h h' : Heap} {r b : Addr} {kb : ClassId} {cs : List Int32} (F : OwnSB Z h r b kb cs) (E : Ext h h') : OwnSB Z h' r b kb cs := by
  obtain ⟨e1, e2, f1, f2, f3, g, q⟩ := F
  refine ⟨e1.ext E, e2.ext E, f1.ext E, f2.ext E, f3.ext E, g, ?_⟩
  rcases q with ⟨q1, q2, n, q3, q4, q5⟩ | ⟨q1, q2, n, q3, q4, q5⟩
  · exact Or.inl ⟨q1.ext E, q2, n, q3, q4, q5.ext E⟩
  · exact Or.inr ⟨q1.ext E, q2, n, q3, q4, q5.ext E⟩
theorem OwnSB.keep {Z : State} {h h' : Heap} {r b : Addr} {kb : ClassId} {cs : List Int32} {ws : List Addr} (F : OwnSB Z h r b kb cs) (K : Keep h h' ws) (n1 : r ∉ ws) (n2 : b ∉ ws) : OwnSB Z h' r b kb cs := by
  obtain ⟨e1, e2, f1, f2, f3, g, q⟩ := F
  refine ⟨e1.keep K, e2.keep K, f1.keep K n1, f2.keep K n1, f3.keep K n1, g, ?_⟩
  rcases q with ⟨q1, q2, n, q3, q4, q5⟩ | ⟨q1, q2, n, q3, q4, q5⟩
  · exact Or.inl ⟨q1.keep K n1, q2, n, q3, q4, q5.keep K n2⟩
  · exact Or.inr ⟨q1.keep K n1, q2, n, q3, q4, q5.keep K n2⟩
theorem OwnSB.lt {Z : State} {h : Heap} {r b : Addr} {kb : ClassId} {cs : List Int32} (F : OwnSB Z h r b kb cs) : r < h.size := F.1.lt
theorem OwnSB.ltb {Z : State} {h : Heap} {r b : Addr} {kb : ClassId} {cs : List Int32} (F : OwnSB Z h r b kb cs) : b < h.size := by
  obtain ⟨e1, e2, f1, f2, f3, g, q⟩ := F
  rcases q with ⟨q1, q2, n, q3, q4, q5⟩ | ⟨q1, q2, n, q3, q4, q5⟩ <;> exact q5.lt
theorem own_sub (i n : Nat) (h : i ≤ n) : Int32.ofNat n - Int32.ofNat i = Int32.ofNat (n - i) := by
  have q := Int32.ofNat_add (n - i) i
  rw [Nat.sub_add_cancel h] at q
  rw [q, Int32.add_sub_cancel]
theorem own_addk (i k : Nat) : Int32.ofNat i + Int32.ofNat k = Int32.ofNat (i + k) := (Int32.ofNat_add i k).symm
theorem own_shl0 (n : Nat) (hn : n ≤ 4096) : Int32.ofNat n <<< ((0 : Int32) &&& 31) = Int32.ofNat n := by
  have a := c_ishl (Int32.ofNat n) 0 0 (by decide)
  have b := own_ofn n (by omega)
  have r := rng32 (Int32.ofNat n <<< ((0 : Int32) &&& 31))
  apply Int32.toInt_inj.mp
  omega
theorem own_shr0 (n : Nat) (hn : n ≤ 4096) : Int32.ofNat n >>> ((0 : Int32) &&& 31) = Int32.ofNat n := by
  have a := c_ishr (Int32.ofNat n) 0 0 (by decide)
  apply Int32.toInt_inj.mp
  omega
theorem own_shr1 (n : Nat) (hn : n ≤ 4096) : Int32.ofNat (2 * n) >>> ((1 : Int32) &&& 31) = Int32.ofNat n := by
  have a := c_ishr (Int32.ofNat (2 * n)) 1 1 (by decide)
  have b := own_ofn (2 * n) (by omega)
  have d := own_ofn n (by omega)
  apply Int32.toInt_inj.mp
  omega
theorem own_pos (i n : Nat) (h : i < n) (hn : n ≤ 8192) : (0 : Int32) < Int32.ofNat n - Int32.ofNat i := by
  rw [own_sub i n (by omega), Int32.lt_iff_toInt_lt, own_ofn _ (by omega), show (0 : Int32).toInt = 0 from by decide]
  omega
theorem own_npos (i n : Nat) (h : n ≤ i) (hn : i ≤ 8192) : ¬ ((0 : Int32) < Int32.ofNat n - Int32.ofNat i) := by
  have q := c_isub (Int32.ofNat n) (Int32.ofNat i)
  have r := rng32 (Int32.ofNat n - Int32.ofNat i)
  have a := own_ofn n (by omega)
  have b := own_ofn i (by omega)
  rw [Int32.lt_iff_toInt_lt, show (0 : Int32).toInt = 0 from by decide]
  omega
theorem own_ltn (i n : Nat) (hi : i ≤ 8192) (hn : n ≤ 8192) : (Int32.ofNat i < Int32.ofNat n) ↔ i < n := by
  rw [Int32.lt_iff_toInt_lt, own_ofn i hi, own_ofn n hn]
  omega
def own_nc (cap kk : Nat) : Nat := max kk (2 * cap + 2)
theorem own_fm2 (f g : Int32 → Value) (l : List Int32) : (l.flatMap fun c => [f c, g c]).length = 2 * l.length := by
  induction l with
  | nil => rfl
  | cons a l ih => simp only [List.flatMap_cons, List.length_append, ih, List.length_cons, List.length_nil]; omega
theorem own_repl (n : Nat) (z : Value) : ∀ i, (List.replicate n z).getD i z = ([] : List Value).getD i z := fun i => pad_rep [] z n i
theorem own_cpl (tb us : List Value) (z : Value) (k d m : Nat) (hd : tb.length = d) (hm : us.length = m) : ∀ i, (tb ++ us).getD i z = ((tb ++ List.replicate k z).take d ++ us ++ (tb ++ List.replicate k z).drop (d + m)).getD i z := fun i => by
  have e1 : (tb ++ List.replicate k z).take d = tb := by rw [← hd, List.take_left]
  have e2 : (tb ++ List.replicate k z).drop (d + m) = List.replicate (k - m) z := by
    rw [← hd, List.drop_append, List.drop_of_length_le (by omega), List.nil_append, List.drop_replicate]
    congr 1
    omega
  rw [e1, e2]
  exact (pad_rep (tb ++ us) z (k - m) i).symm
theorem own_rng (vs : List Value) (z : Value) (n : Nat) (h : vs.length ≤ n) : ∀ i, vs.getD i z = ((List.range n).map fun i => vs.getD i z).getD i z := fun i => by
  rcases Nat.lt_or_ge i n with q | q
  · simp [List.getD_eq_getElem?_getD, q]
  · rw [List.getD_eq_getElem?_getD, List.getElem?_eq_none (by omega), List.getD_eq_getElem?_getD, List.getElem?_eq_none (by simpa using q)]
theorem own_rngl (vs : List Value) (z : Value) (n : Nat) : ((List.range n).map fun i => vs.getD i z).length = n := by simp
theorem own_rng2 (vs : List Value) (z : Value) (n : Nat) (h : vs.length = n) : ((List.range n).map fun i => vs.getD i z) = vs := by
  apply List.ext_getElem
  · simp [h]
  · intro i h1 h2
    simp [List.getD_eq_getElem?_getD, h2]
theorem own_atL2 (cl : List Int32) (i : Nat) (h : i < cl.length) (hn : cl.length ≤ 8192) : (cl.map fun c => Value.int c.toInt8.toInt32).getD (Int32.ofNat i).toNatClampNeg (.int (0 : Int32)) = .int (cl.getD i 0).toInt8.toInt32 := by
  rw [own_ixn i (by omega)]
  simp [List.getD_eq_getElem?_getD, h]
theorem own_l255 (c : Int32) (h0 : OwnCh c) (h1 : ¬ ((255 : Int32) < c)) : (c.toInt8.toInt32 &&& (255 : Int32)) = c := by
  have k : (255 : Int32).toInt = 255 := by decide
  rw [Int32.lt_iff_toInt_lt, k] at h1
  obtain ⟨h0, -⟩ := h0
  have a1 := c_i2b c
  have a2 := c_mask c.toInt8.toInt32 255 8 (by decide) (by decide)
  apply Int32.toInt_inj.mp
  omega
theorem ef_rm_maxN (m : MethodId) (x0 : Int32) (x1 : Int32) : entryFrame m #[(.int x0), (.int x1)] 2 = mkF m 0 #[sI x0, sI x1] [] := by first | (simp [entryFrame, mkF, argsToLocals, Value.category]; done) | rfl
abbrev M36 : MethodName := ⟨"java/lang/Math", "max", "(II)I"⟩
theorem d36_0 : decode B36 0 = .ok (.iload_n 0, 1) := by decide +kernel
theorem d36_1 : decode B36 1 = .ok (.iload_n 1, 1) := by decide +kernel
theorem d36_2 : decode B36 2 = .ok (.if_icmp .lt 7, 3) := by decide +kernel
theorem d36_9 : decode B36 9 = .ok (.iload_n 1, 1) := by decide +kernel
theorem d36_10 : decode B36 10 = .ok (.ireturn, 1) := by decide +kernel
theorem d36_5 : decode B36 5 = .ok (.iload_n 0, 1) := by decide +kernel
theorem d36_6 : decode B36 6 = .ok (.goto 4, 3) := by decide +kernel
def Q_rm_maxN (Z : State) (xa : Nat) (ya : Nat) (h0 : Heap) (n0 : Nat) (v : Option Value) (h : Heap) (L : List Loc) : Prop := v = some (.int (Int32.ofNat (max xa ya))) ∧ Fr n0 L ∧ h = h0
set_option maxRecDepth 65536 in
set_option maxHeartbeats 40000000 in
theorem rm_maxN (l : Launch) (Z : State) (a0 : Array Value) (hw : ∀ d ∈ tables_1, d.before a0 Z = true) (ws : List Jvm.Cond) (xa : Nat) (ya : Nat) (h0 : Heap) (n0 : Nat) (Z0 : n0 ≤ h0.size)  (hx8 : xa ≤ 8192) (hy8 : ya ≤ 8192) :
  Met l Z M36 jdk_29_method_65_code 2 (some .int) ws (Rm 0 0 0 0) #[(.int (Int32.ofNat xa)), (.int (Int32.ofNat ya))] h0 (Q_rm_maxN Z xa ya h0 n0) := by
 refine met_of (Jvm.Free.JP.mathPlain rfl (by decide +kernel)) (own := "java/lang/Math") rfl (fun m => ef_rm_maxN m (Int32.ofNat xa) (Int32.ofNat ya)) ?_
 intro p e s m below meth c s₁ hx hby hml hown hnm hZ X0 e0 hret hlk
 have N0 := Fr.nil n0
 show Goes p e below s _ _ _ (s₁.setTop (mkF m 0 #[sI (Int32.ofNat xa), sI (Int32.ofNat ya)] []))
 refine Goes.pre (U' := s₁.setTop (mkF m 2 #[sI (Int32.ofNat xa), sI (Int32.ofNat ya)] [(.int (Int32.ofNat ya)), (.int (Int32.ofNat xa))])) (fun t k => XS.iloadN X0.here hx rfl (hb hby d36_0) rfl (XS.iloadN X0.here hx rfl (hb hby d36_1) rfl k)) ?_
 by_cases hc2 : (Int32.ofNat xa) < (Int32.ofNat ya)
 ·
  refine Goes.pre (U' := s₁.setTop (mkF m 10 #[sI (Int32.ofNat xa), sI (Int32.ofNat ya)] [(.int (Int32.ofNat ya))])) (fun t k => XS.icmpYes X0.here hx rfl (pc0 := 2) (pc' := 9) rfl (hb hby d36_2) rfl (tlt hc2).1 (by decide) (by decide) (XS.iloadN X0.here hx rfl (hb hby d36_9) rfl k)) ?_
  refine Goes.ret X0 (v := (some (.int (Int32.ofNat ya)))) (fun h => by rw [hret] at h; cases h) hlk (by decide) (by decide) e0 (fun fs hr => retI X0 hx hret (hb hby d36_10) hr) ?_
  exact ⟨congrArg (fun z => some (Value.int z)) (congrArg Int32.ofNat (show ya = max xa ya from (Nat.max_eq_right (Nat.le_of_lt ((own_ltn _ _ hx8 hy8).mp hc2))).symm)), N0, rfl⟩
 ·
  refine Goes.pre (U' := s₁.setTop (mkF m 10 #[sI (Int32.ofNat xa), sI (Int32.ofNat ya)] [(.int (Int32.ofNat xa))])) (fun t k => XS.icmpNo X0.here hx rfl (hb hby d36_2) rfl (flt hc2).1 (XS.iloadN X0.here hx rfl (hb hby d36_5) rfl (XS.goto X0.here hx rfl (pc0 := 6) (pc' := 10) rfl (hb hby d36_6) (by decide) (by decide) k))) ?_
  refine Goes.ret X0 (v := (some (.int (Int32.ofNat xa)))) (fun h => by rw [hret] at h; cases h) hlk (by decide) (by decide) e0 (fun fs hr => retI X0 hx hret (hb hby d36_10) hr) ?_
  exact ⟨congrArg (fun z => some (Value.int z)) (congrArg Int32.ofNat (show xa = max xa ya from (Nat.max_eq_left (Nat.le_of_not_lt fun z => hc2 ((own_ltn _ _ hx8 hy8).mpr z))).symm)), N0, rfl⟩
theorem ef_rm_minN (m : MethodId) (x0 : Int32) (x1 : Int32) : entryFrame m #[(.int x0), (.int x1)] 2 = mkF m 0 #[sI x0, sI x1] [] := by first | (simp [entryFrame, mkF, argsToLocals, Value.category]; done) | rfl
abbrev M37 : MethodName := ⟨"java/lang/Math", "min", "(II)I"⟩
theorem d37_0 : decode B37 0 = .ok (.iload_n 0, 1) := by decide +kernel
theorem d37_1 : decode B37 1 = .ok (.iload_n 1, 1) := by decide +kernel
theorem d37_2 : decode B37 2 = .ok (.if_icmp .gt 7, 3) := by decide +kernel
theorem d37_9 : decode B37 9 = .ok (.iload_n 1, 1) := by decide +kernel
theorem d37_10 : decode B37 10 = .ok (.ireturn, 1) := by decide +kernel
theorem d37_5 : decode B37 5 = .ok (.iload_n 0, 1) := by decide +kernel
theorem d37_6 : decode B37 6 = .ok (.goto 4, 3) := by decide +kernel
def Q_rm_minN (Z : State) (xa : Nat) (ya : Nat) (h0 : Heap) (n0 : Nat) (v : Option Value) (h : Heap) (L : List Loc) : Prop := v = some (.int (Int32.ofNat (min xa ya))) ∧ Fr n0 L ∧ h = h0
set_option maxRecDepth 65536 in
set_option maxHeartbeats 40000000 in
theorem rm_minN (l : Launch) (Z : State) (a0 : Array Value) (hw : ∀ d ∈ tables_1, d.before a0 Z = true) (ws : List Jvm.Cond) (xa : Nat) (ya : Nat) (h0 : Heap) (n0 : Nat) (Z0 : n0 ≤ h0.size)  (hx8 : xa ≤ 8192) (hy8 : ya ≤ 8192) :
  Met l Z M37 jdk_29_method_69_code 2 (some .int) ws (Rm 0 0 0 0) #[(.int (Int32.ofNat xa)), (.int (Int32.ofNat ya))] h0 (Q_rm_minN Z xa ya h0 n0) := by
 refine met_of (Jvm.Free.JP.mathPlain rfl (by decide +kernel)) (own := "java/lang/Math") rfl (fun m => ef_rm_minN m (Int32.ofNat xa) (Int32.ofNat ya)) ?_
 intro p e s m below meth c s₁ hx hby hml hown hnm hZ X0 e0 hret hlk
 have N0 := Fr.nil n0
 show Goes p e below s _ _ _ (s₁.setTop (mkF m 0 #[sI (Int32.ofNat xa), sI (Int32.ofNat ya)] []))
 refine Goes.pre (U' := s₁.setTop (mkF m 2 #[sI (Int32.ofNat xa), sI (Int32.ofNat ya)] [(.int (Int32.ofNat ya)), (.int (Int32.ofNat xa))])) (fun t k => XS.iloadN X0.here hx rfl (hb hby d37_0) rfl (XS.iloadN X0.here hx rfl (hb hby d37_1) rfl k)) ?_
 by_cases hc2 : (Int32.ofNat ya) < (Int32.ofNat xa)
 ·
  refine Goes.pre (U' := s₁.setTop (mkF m 10 #[sI (Int32.ofNat xa), sI (Int32.ofNat ya)] [(.int (Int32.ofNat ya))])) (fun t k => XS.icmpYes X0.here hx rfl (pc0 := 2) (pc' := 9) rfl (hb hby d37_2) rfl (tlt hc2).2.2.1 (by decide) (by decide) (XS.iloadN X0.here hx rfl (hb hby d37_9) rfl k)) ?_
  refine Goes.ret X0 (v := (some (.int (Int32.ofNat ya)))) (fun h => by rw [hret] at h; cases h) hlk (by decide) (by decide) e0 (fun fs hr => retI X0 hx hret (hb hby d37_10) hr) ?_
  exact ⟨congrArg (fun z => some (Value.int z)) (congrArg Int32.ofNat (show ya = min xa ya from (Nat.min_eq_right (Nat.le_of_lt ((own_ltn _ _ hy8 hx8).mp hc2))).symm)), N0, rfl⟩
 ·
  refine Goes.pre (U' := s₁.setTop (mkF m 10 #[sI (Int32.ofNat xa), sI (Int32.ofNat ya)] [(.int (Int32.ofNat xa))])) (fun t k => XS.icmpNo X0.here hx rfl (hb hby d37_2) rfl (flt hc2).2.2.1 (XS.iloadN X0.here hx rfl (hb hby d37_5) rfl (XS.goto X0.here hx rfl (pc0 := 6) (pc' := 10) rfl (hb hby d37_6) (by decide) (by decide) k))) ?_
  refine Goes.ret X0 (v := (some (.int (Int32.ofNat xa)))) (fun h => by rw [hret] at h; cases h) hlk (by decide) (by decide) e0 (fun fs hr => retI X0 hx hret (hb hby d37_10) hr) ?_
  exact ⟨congrArg (fun z => some (Value.int z)) (congrArg Int32.ofNat (show xa = min xa ya from (Nat.min_eq_left (Nat.le_of_not_lt fun z => hc2 ((own_ltn _ _ hy8 hx8).mpr z))).symm)), N0, rfl⟩
theorem own_nl1 (n : Nat) (h : 0 < n) (hn : n ≤ 8192) : (0 : Int32) < Int32.ofNat n := by
  rw [Int32.lt_iff_toInt_lt, own_ofn n hn, show (0 : Int32).toInt = 0 from by decide]
  omega
theorem own_nl2 (n : Nat) (hn : n ≤ 8192) : ¬ ((2147483639 : Int32) < Int32.ofNat n) := by
  rw [Int32.lt_iff_toInt_lt, own_ofn n hn, show (2147483639 : Int32).toInt = 2147483639 from by decide]
  omega
theorem own_nl3 (n : Nat) (hn : n ≤ 8192) : ¬ (Int32.ofNat n = (2147483647 : Int32)) := fun q => by
  have a := own_ofn n hn
  rw [q, show (2147483647 : Int32).toInt = 2147483647 from by decide] at a
  omega
theorem ef_rm_nl (m : MethodId) (x0 : Int32) (x1 : Int32) (x2 : Int32) : entryFrame m #[(.int x0), (.int x1), (.int x2)] 4 = mkF m 0 #[sI x0, sI x1, sI x2, .unset] [] := by first | (simp [entryFrame, mkF, argsToLocals, Value.category]; done) | rfl
theorem pn_jdk_internal_util_ArraysSupport : plainName "jdk/internal/util/ArraysSupport" = true := by first | (simp [plainName, overriddenIn]; done) | decide +kernel
abbrev M45 : MethodName := ⟨"jdk/internal/util/ArraysSupport", "newLength", "(III)I"⟩
theorem d45_0 : decode B45 0 = .ok (.iload_n 0, 1) := by decide +kernel
theorem d45_1 : decode B45 1 = .ok (.iload_n 1, 1) := by decide +kernel
theorem d45_2 : decode B45 2 = .ok (.iload_n 2, 1) := by decide +kernel
theorem d45_3 : decode B45 3 = .ok (.invokestatic 194, 3) := by decide +kernel
theorem pd__28II_29I : parseMethodDescriptor "(II)I" = some ⟨[.int, .int], some .int⟩ := by decide +kernel
theorem d45_6 : decode B45 6 = .ok (.iadd, 1) := by decide +kernel
theorem d45_7 : decode B45 7 = .ok (.istore_n 3, 1) := by decide +kernel
theorem d45_8 : decode B45 8 = .ok (.iconst 0, 1) := by decide +kernel
theorem d45_9 : decode B45 9 = .ok (.iload_n 3, 1) := by decide +kernel
theorem d45_10 : decode B45 10 = .ok (.if_icmp .ge 11, 3) := by decide +kernel
theorem d45_13 : decode B45 13 = .ok (.iload_n 3, 1) := by decide +kernel
theorem d45_14 : decode B45 14 = .ok (.ldc 200, 2) := by decide +kernel
theorem d45_16 : decode B45 16 = .ok (.if_icmp .gt 5, 3) := by decide +kernel
theorem d45_19 : decode B45 19 = .ok (.iload_n 3, 1) := by decide +kernel
theorem d45_20 : decode B45 20 = .ok (.ireturn, 1) := by decide +kernel
def Q_rm_nl (Z : State) (oa : Nat) (ga : Nat) (pa : Nat) (h0 : Heap) (n0 : Nat) (v : Option Value) (h : Heap) (L : List Loc) : Prop := v = some (.int (Int32.ofNat (oa + max ga pa))) ∧ Fr n0 L ∧ h = h0
set_option maxRecDepth 65536 in
set_option maxHeartbeats 40000000 in
theorem rm_nl (l : Launch) (Z : State) (a0 : Array Value) (hw : ∀ d ∈ tables_1, d.before a0 Z = true) (ws : List Jvm.Cond) (oa : Nat) (ga : Nat) (pa : Nat) (h0 : Heap) (n0 : Nat) (Z0 : n0 ≤ h0.size)  (ho : oa ≤ 400) (hg : ga ≤ 400) (hp : pa ≤ 400) (hp0 : 0 < pa) :
  Met l Z M45 jdk_48_method_27_code 4 (some .int) ws (Rm 1 0 0 14) #[(.int (Int32.ofNat oa)), (.int (Int32.ofNat ga)), (.int (Int32.ofNat pa))] h0 (Q_rm_nl Z oa ga pa h0 n0) := by
 refine met_of (plainFor_of_name pn_jdk_internal_util_ArraysSupport) (own := "jdk/internal/util/ArraysSupport") rfl (fun m => ef_rm_nl m (Int32.ofNat oa) (Int32.ofNat ga) (Int32.ofNat pa)) ?_
 intro p e s m below meth c s₁ hx hby hml hown hnm hZ X0 e0 hret hlk
 have N0 := Fr.nil n0
 show Goes p e below s _ _ _ (s₁.setTop (mkF m 0 #[sI (Int32.ofNat oa), sI (Int32.ofNat ga), sI (Int32.ofNat pa), .unset] []))
 refine Goes.pre (U' := s₁.setTop (mkF m 3 #[sI (Int32.ofNat oa), sI (Int32.ofNat ga), sI (Int32.ofNat pa), .unset] [(.int (Int32.ofNat pa)), (.int (Int32.ofNat ga)), (.int (Int32.ofNat oa))])) (fun t k => XS.iloadN X0.here hx rfl (hb hby d45_0) rfl (XS.iloadN X0.here hx rfl (hb hby d45_1) rfl (XS.iloadN X0.here hx rfl (hb hby d45_2) rfl k))) ?_
 obtain ⟨_, _, ⟨T1, L1, k1, n1⟩, -, X1, ⟨Lc1, hQ1, l1, y1, z1⟩, st1⟩ := Jvm.LawKit.callS X0 hx (y := M36) hown (mvT hZ (wq hw 229 rfl)) (mvT hZ (wq hw 191 rfl)) (mvT hZ (wq hw 192 rfl)) (mvT hZ (wq hw 193 rfl)) (by decide) (backOf (W := 1) (rm_maxN l Z a0 hw [] ga pa h0 n0 Z0  (by omega) (by omega)) hZ (wq hw 193 rfl) (wq hw 192 rfl) (by decide) (by decide)) (g := (mkF m 3 #[sI (Int32.ofNat oa), sI (Int32.ofNat ga), sI (Int32.ofNat pa), .unset] [(.int (Int32.ofNat pa)), (.int (Int32.ofNat ga)), (.int (Int32.ofNat oa))])) rfl (by rw [hml]; rfl) (argsL := [(.int (Int32.ofNat ga)), (.int (Int32.ofNat pa))]) (rest := [(.int (Int32.ofNat oa))]) (lenOf pd__28II_29I rfl) rfl (by show 2 * 0 + _ ≤ _; exact Nat.le_of_eq rfl) (hb hby d45_3) (fun _ _ => ⟨rfl, e0, (by decide : 0 + 0 ≤ _), (by decide : 0 + 0 ≤ _)⟩)
 dsimp only [Pt.U, Pt.locs, Pt.cells, Pt.slots] at X1 l1 y1 z1 st1 hQ1
 subst l1 y1 z1
 obtain ⟨rfl, N1q, HQ1⟩ := hQ1
 have N1 := Fr.app N0 N1q
 refine Goes.pre (U' := T1.setTop (mkF m 7 #[sI (Int32.ofNat oa), sI (Int32.ofNat ga), sI (Int32.ofNat pa), .unset] [(.int ((Int32.ofNat oa) + (Int32.ofNat (max ga pa))))])) (fun t k => st1 t (XS.iadd X1.here hx rfl (hb hby d45_6) rfl k)) ?_
 rw [own_addk]
 refine Goes.pre (U' := T1.setTop (mkF m 10 #[sI (Int32.ofNat oa), sI (Int32.ofNat ga), sI (Int32.ofNat pa), .val (.int (Int32.ofNat (oa + max ga pa)))] [(.int (Int32.ofNat (oa + max ga pa))), (.int (0 : Int32))])) (fun t k => XS.istoreN X1.here hx rfl (hb hby d45_7) rfl (l' := #[sI (Int32.ofNat oa), sI (Int32.ofNat ga), sI (Int32.ofNat pa), .val (.int (Int32.ofNat (oa + max ga pa)))]) rfl (XS.iconst X1.here hx rfl (hb hby d45_8) (XS.iloadN X1.here hx rfl (hb hby d45_9) rfl k))) ?_
 have hc10 : (0 : Int32) < (Int32.ofNat (oa + max ga pa)) := (own_nl1 _ (by omega) (by omega))
 refine Goes.pre (U' := T1.setTop (mkF m 16 #[sI (Int32.ofNat oa), sI (Int32.ofNat ga), sI (Int32.ofNat pa), .val (.int (Int32.ofNat (oa + max ga pa)))] [(.int (2147483639 : Int32)), (.int (Int32.ofNat (oa + max ga pa)))])) (fun t k => XS.icmpNo X1.here hx rfl (hb hby d45_10) rfl (tlt hc10).2.1 (XS.iloadN X1.here hx rfl (hb hby d45_13) rfl (X1.ldcInt hx hown (mvT hZ (wq hw 230 rfl)) (g := (mkF m 14 #[sI (Int32.ofNat oa), sI (Int32.ofNat ga), sI (Int32.ofNat pa), .val (.int (Int32.ofNat (oa + max ga pa)))] [(.int (Int32.ofNat (oa + max ga pa)))])) rfl (hb hby d45_14) _ k))) ?_
 have hc16 : ¬ ((2147483639 : Int32) < (Int32.ofNat (oa + max ga pa))) := (own_nl2 _ (by omega))
 refine Goes.pre (U' := T1.setTop (mkF m 20 #[sI (Int32.ofNat oa), sI (Int32.ofNat ga), sI (Int32.ofNat pa), .val (.int (Int32.ofNat (oa + max ga pa)))] [(.int (Int32.ofNat (oa + max ga pa)))])) (fun t k => XS.icmpNo X1.here hx rfl (hb hby d45_16) rfl (flt hc16).2.2.1 (XS.iloadN X1.here hx rfl (hb hby d45_19) rfl k)) ?_
 refine Goes.ret X1 (v := (some (.int (Int32.ofNat (oa + max ga pa))))) (fun h => by rw [hret] at h; cases h) hlk (by decide) (by decide) HQ1 (fun fs hr => retI X1 hx hret (hb hby d45_20) hr) ?_
 exact ⟨rfl, N1, rfl⟩
theorem ef_rm_aco (m : MethodId) (x0 : Addr) (x1 : Int32) : entryFrame m #[(.ref x0), (.int x1)] 3 = mkF m 0 #[sR x0, sI x1, .unset] [] := by first | (simp [entryFrame, mkF, argsToLocals, Value.category]; done) | rfl
theorem pn_java_util_Arrays : plainName "java/util/Arrays" = true := by first | (simp [plainName, overriddenIn]; done) | decide +kernel
abbrev M46 : MethodName := ⟨"java/util/Arrays", "copyOf", "([BI)[B"⟩
theorem d46_0 : decode B46 0 = .ok (.iload_n 1, 1) := by decide +kernel
theorem d46_1 : decode B46 1 = .ok (.aload_n 0, 1) := by decide +kernel
theorem d46_2 : decode B46 2 = .ok (.arraylength, 1) := by decide +kernel
theorem d46_3 : decode B46 3 = .ok (.if_icmp .ne 11, 3) := by decide +kernel
theorem d46_14 : decode B46 14 = .ok (.iload_n 1, 1) := by decide +kernel
theorem d46_15 : decode B46 15 = .ok (.newarray .byte, 2) := by decide +kernel
theorem d46_17 : decode B46 17 = .ok (.astore_n 2, 1) := by decide +kernel
theorem d46_18 : decode B46 18 = .ok (.aload_n 0, 1) := by decide +kernel
theorem d46_19 : decode B46 19 = .ok (.iconst 0, 1) := by decide +kernel
theorem d46_20 : decode B46 20 = .ok (.aload_n 2, 1) := by decide +kernel
theorem d46_21 : decode B46 21 = .ok (.iconst 0, 1) := by decide +kernel
theorem d46_22 : decode B46 22 = .ok (.aload_n 0, 1) := by decide +kernel
theorem d46_23 : decode B46 23 = .ok (.arraylength, 1) := by decide +kernel
theorem d46_24 : decode B46 24 = .ok (.iload_n 1, 1) := by decide +kernel
theorem d46_25 : decode B46 25 = .ok (.invokestatic 304, 3) := by decide +kernel
theorem d46_28 : decode B46 28 = .ok (.invokestatic 150, 3) := by decide +kernel
theorem d46_31 : decode B46 31 = .ok (.aload_n 2, 1) := by decide +kernel
theorem d46_32 : decode B46 32 = .ok (.areturn, 1) := by decide +kernel
def Q_rm_aco (Z : State) (b : Addr) (kb : ClassId) (n : Nat) (n2 : Nat) (vs : List Value) (h0 : Heap) (n0 : Nat) (v : Option Value) (h : Heap) (L : List Loc) : Prop := ∃ (r : Addr) (kr : ClassId), v = some (.ref r) ∧ Fr n0 L ∧ Keep h0 h [] ∧ Exa Z h r "[B" ∧ Arv Z h r kr .byte (Int32.ofNat n2) vs (.int (0 : Int32)) ∧ n0 ≤ r ∧ h0.size ≤ r
set_option maxRecDepth 65536 in
set_option maxHeartbeats 40000000 in
theorem rm_aco (l : Launch) (Z : State) (a0 : Array Value) (hw : ∀ d ∈ tables_1, d.before a0 Z = true) (ws : List Jvm.Cond) (b : Addr) (kb : ClassId) (n : Nat) (n2 : Nat) (vs : List Value) (h0 : Heap) (n0 : Nat) (Z0 : n0 ≤ h0.size) (V_b : Arv Z h0 b kb .byte (Int32.ofNat n) vs (.int (0 : Int32))) (hlt : n < n2) (hn2 : n2 ≤ 96) (hvl : vs.length ≤ n) :
  Met l Z M46 jdk_65_method_121_code 3 (some (.array .byte)) ws (Rm 1 1 96 18) #[(.ref b), (.int (Int32.ofNat n2))] h0 (Q_rm_aco Z b kb n n2 vs h0 n0) := by
 refine met_of (plainFor_of_name pn_java_util_Arrays) (own := "java/util/Arrays") rfl (fun m => ef_rm_aco m b (Int32.ofNat n2)) ?_
 intro p e s m below meth c s₁ hx hby hml hown hnm hZ X0 e0 hret hlk
 have N0 := Fr.nil n0
 have K0 := Keep.refl h0 []
 show Goes p e below s _ _ _ (s₁.setTop (mkF m 0 #[sR b, sI (Int32.ofNat n2), .unset] []))
 refine Goes.pre (U' := s₁.setTop (mkF m 2 #[sR b, sI (Int32.ofNat n2), .unset] [(.ref b), (.int (Int32.ofNat n2))])) (fun t k => XS.iloadN X0.here hx rfl (hb hby d46_0) rfl (XS.aloadN X0.here hx rfl (hb hby d46_1) rfl rfl k)) ?_
 obtain ⟨cl1, Ar1, q1, Sz1, Ng1, -, -⟩ := id V_b
 have ln1 := len_of Sz1 Ng1
 refine Goes.pre (U' := s₁.setTop (mkF m 3 #[sR b, sI (Int32.ofNat n2), .unset] [(.int (Int32.ofNat n)), (.int (Int32.ofNat n2))])) (fun t k => X0.arraylength hx (by rw [e0]; exact Ar1.1) (State.isArrayOf_alike hZ.alike Ar1.2.1) (g := (mkF m 2 #[sR b, sI (Int32.ofNat n2), .unset] [(.ref b), (.int (Int32.ofNat n2))])) rfl rfl (hb hby d46_2) _ (by rw [ln1]; exact k)) ?_
 have hc3 : ¬ ((Int32.ofNat n2) = (Int32.ofNat n)) := (fun q => own_nei n n2 hlt (by omega) q.symm)
 refine Goes.pre (U' := s₁.setTop (mkF m 15 #[sR b, sI (Int32.ofNat n2), .unset] [(.int (Int32.ofNat n2))])) (fun t k => XS.icmpYes X0.here hx rfl (pc0 := 3) (pc' := 14) rfl (hb hby d46_3) rfl (feq hc3).2 (by decide) (by decide) (XS.iloadN X0.here hx rfl (hb hby d46_14) rfl k)) ?_
 obtain ⟨T2, h2, k2, X2, e2, E2, A2, B2, st2⟩ := newPE X0 hx hZ (wq hw 21 rfl) e0 (g := (mkF m 15 #[sR b, sI (Int32.ofNat n2), .unset] [(.int (Int32.ofNat n2))])) rfl (hb hby d46_15) rfl (own_neg _ (by omega)) (cap := 96) (own_cap _ _ (by omega) (by omega)) (by decide) (by decide) (by decide) (ad := "[B") (by decide)
 obtain ⟨nb2, g2⟩ : ∃ z, z = h0.size := ⟨_, rfl⟩
 rw [← g2] at A2 B2 st2
 have ne_b_nb2 : b ≠ nb2 := Nat.ne_of_lt (Nat.lt_of_lt_of_le V_b.lt (Nat.le_of_eq g2.symm))
 have ne_nb2_b := ne_b_nb2.symm
 have g_nb2 : n0 ≤ nb2 := Nat.le_trans Z0 (Nat.le_of_eq g2.symm)
 have sz_nb2 : h0.size ≤ nb2 := Nat.le_trans K0.1 (Nat.le_of_eq g2.symm)
 have V_b := V_b.ext E2
 have Z2 : n0 ≤ h2.size := Nat.le_trans Z0 E2.1
 have K2 := K0.ext E2
 have E_nb2 := B2
 have V_nb2 : Arv Z h2 nb2 k2 .byte (Int32.ofNat n2) [] (.int (0 : Int32)) := Arv.new A2 (own_neg _ (by omega))
 refine Goes.pre (U' := T2.setTop (mkF m 23 #[sR b, sI (Int32.ofNat n2), sR nb2] [(.ref b), (.int (0 : Int32)), (.ref nb2), (.int (0 : Int32)), (.ref b)])) (fun t k => st2 t (XS.astoreN X2.here hx rfl (hb hby d46_17) rfl rfl (l' := #[sR b, sI (Int32.ofNat n2), sR nb2]) rfl (XS.aloadN X2.here hx rfl (hb hby d46_18) rfl rfl (XS.iconst X2.here hx rfl (hb hby d46_19) (XS.aloadN X2.here hx rfl (hb hby d46_20) rfl rfl (XS.iconst X2.here hx rfl (hb hby d46_21) (XS.aloadN X2.here hx rfl (hb hby d46_22) rfl rfl k))))))) ?_
 obtain ⟨cl3, Ar3, q3, Sz3, Ng3, -, -⟩ := id V_b
 have ln3 := len_of Sz3 Ng3
 refine Goes.pre (U' := T2.setTop (mkF m 25 #[sR b, sI (Int32.ofNat n2), sR nb2] [(.int (Int32.ofNat n2)), (.int (Int32.ofNat n)), (.int (0 : Int32)), (.ref nb2), (.int (0 : Int32)), (.ref b)])) (fun t k => X2.arraylength hx (by rw [e2]; exact Ar3.1) (State.isArrayOf_alike hZ.alike Ar3.2.1) (g := (mkF m 23 #[sR b, sI (Int32.ofNat n2), sR nb2] [(.ref b), (.int (0 : Int32)), (.ref nb2), (.int (0 : Int32)), (.ref b)])) rfl rfl (hb hby d46_23) _ (by rw [ln3]; exact (XS.iloadN X2.here hx rfl (hb hby d46_24) rfl k))) ?_
 obtain ⟨_, _, ⟨T4, L4, k4, n4⟩, -, X4, ⟨Lc4, hQ4, l4, y4, z4⟩, st4⟩ := Jvm.LawKit.callS X2 hx (y := M37) hown (mvT hZ (wq hw 235 rfl)) (mvT hZ (wq hw 195 rfl)) (mvT hZ (wq hw 192 rfl)) (mvT hZ (wq hw 196 rfl)) (by decide) (backOf (W := 4) (rm_minN l Z a0 hw [] n n2 h2 n0 Z2  (by omega) (by omega)) hZ (wq hw 196 rfl) (wq hw 192 rfl) (by decide) (by decide)) (g := (mkF m 25 #[sR b, sI (Int32.ofNat n2), sR nb2] [(.int (Int32.ofNat n2)), (.int (Int32.ofNat n)), (.int (0 : Int32)), (.ref nb2), (.int (0 : Int32)), (.ref b)])) rfl (by rw [hml]; rfl) (argsL := [(.int (Int32.ofNat n)), (.int (Int32.ofNat n2))]) (rest := [(.int (0 : Int32)), (.ref nb2), (.int (0 : Int32)), (.ref b)]) (lenOf pd__28II_29I rfl) rfl (by show 2 * 0 + _ ≤ _; exact Nat.le_of_eq rfl) (hb hby d46_25) (fun _ _ => ⟨rfl, e2, (by decide : 1 + 0 ≤ _), (by decide : 96 + 0 ≤ _)⟩)
 dsimp only [Pt.U, Pt.locs, Pt.cells, Pt.slots] at X4 l4 y4 z4 st4 hQ4
 subst l4 y4 z4
 obtain ⟨rfl, N4q, HQ4⟩ := hQ4
 have N4 := Fr.app N0 N4q
 refine Goes.pre (U' := T4.setTop (mkF m 28 #[sR b, sI (Int32.ofNat n2), sR nb2] [(.int (Int32.ofNat (min n n2))), (.int (0 : Int32)), (.ref nb2), (.int (0 : Int32)), (.ref b)])) (fun t k => st4 t k) ?_
 rw [Nat.min_eq_left (Nat.le_of_lt hlt)]
 have hz0 : (0 : Int32).toNatClampNeg = 0 := by decide
 have hcn : (Int32.ofNat n).toNatClampNeg = n := own_ixn _ (by omega)
 have hcm : (Int32.ofNat n2).toNatClampNeg = n2 := own_ixn _ (by omega)
 have V_nb2 := Arv.pad V_nb2 (pad_rep [] (.int (0 : Int32)) (n2 - (0)))
 obtain ⟨T5, h5, L5, X5, e5, N5, K5c, V5, st5⟩ := cpA X4 hx hZ hown (wq hw 236 rfl) (wq hw 239 rfl) (wq hw 237 rfl) (wq hw 238 rfl) HQ4 V_b V_nb2 (us := ((List.range n).map fun i => vs.getD i (.int (0 : Int32)))) (Or.inl ⟨rfl, rfl⟩) (by decide) (by decide) (own_neg _ (by omega)) (by rw [hz0, hcn]; omega) (by rw [hz0, hcn, hcm]; omega) (by rw [hz0, hcn]; simp only [Nat.zero_add]) (by rw [hz0, hcn, List.length_append, List.length_replicate]; simp; omega) N4 g_nb2 (g := (mkF m 28 #[sR b, sI (Int32.ofNat n2), sR nb2] [(.int (Int32.ofNat n)), (.int (0 : Int32)), (.ref nb2), (.int (0 : Int32)), (.ref b)])) rfl (by rw [hml]; rfl) rfl (hb hby d46_28) (by decide) (W := 0) (by show 2 * 0 + _ ≤ _; exact Nat.le_of_eq rfl) (by decide)
 have V_b := V_b.keep K5c (ninS ne_b_nb2 nin0)
 have E_nb2 := E_nb2.keep K5c
 have Z6 : n0 ≤ h5.size := Nat.le_trans Z2 K5c.1
 have K6 := K2.trans K5c (allS (P := fun x => x ∈ [] ∨ h0.size ≤ x) (Or.inr sz_nb2) all0)
 have V_nb2 : Arv Z h5 nb2 k2 .byte (Int32.ofNat n2) vs (.int (0 : Int32)) := by
  have q := V5
  rw [hz0, hcn] at q
  exact Arv.pad (Arv.pad q (own_cpl [] _ _ (n2 - 0) 0 n rfl (own_rngl _ _ _))) (own_rng vs _ n hvl)
 refine Goes.pre (U' := T5.setTop (mkF m 32 #[sR b, sI (Int32.ofNat n2), sR nb2] [(.ref nb2)])) (fun t k => st5 t (XS.aloadN X5.here hx rfl (hb hby d46_31) rfl rfl k)) ?_
 refine Goes.ret X5 (v := (some (.ref nb2))) (fun h => by rw [hret] at h; cases h) hlk (by decide) (by decide) e5 (fun fs hr => retOut X5 hx hret rfl (Or.inr (Or.inr (Or.inr (Or.inr ⟨rfl, rfl, rfl⟩)))) (hb hby d46_32) hr) ?_
 exact ⟨nb2, k2, rfl, N5, K6, E_nb2, V_nb2, g_nb2, sz_nb2⟩
theorem ef_rm_ckl (m : MethodId) (x0 : Int32) (x1 : Int32) : entryFrame m #[(.int x0), (.int x1)] 2 = mkF m 0 #[sI x0, sI x1] [] := by first | (simp [entryFrame, mkF, argsToLocals, Value.category]; done) | rfl
abbrev M67 : MethodName := ⟨"java/util/Arrays", "checkLength", "(II)V"⟩
theorem d67_0 : decode B67 0 = .ok (.iload_n 1, 1) := by decide +kernel
theorem d67_1 : decode B67 1 = .ok (.iload_n 0, 1) := by decide +kernel
theorem d67_2 : decode B67 2 = .ok (.if_icmp .ge 35, 3) := by decide +kernel
theorem d67_37 : decode B67 37 = .ok (.return_, 1) := by decide +kernel
def Q_rm_ckl (Z : State) (n : Nat) (h0 : Heap) (n0 : Nat) (v : Option Value) (h : Heap) (L : List Loc) : Prop := v = none ∧ Fr n0 L ∧ h = h0
set_option maxRecDepth 65536 in
set_option maxHeartbeats 40000000 in
theorem rm_ckl (l : Launch) (Z : State) (a0 : Array Value) (hw : ∀ d ∈ tables_1, d.before a0 Z = true) (ws : List Jvm.Cond) (n : Nat) (h0 : Heap) (n0 : Nat) (Z0 : n0 ≤ h0.size)  (hn : n ≤ 8192) :
  Met l Z M67 jdk_65_method_131_code 2 none ws (Rm 0 0 0 0) #[(.int (0 : Int32)), (.int (Int32.ofNat n))] h0 (Q_rm_ckl Z n h0 n0) := by
 refine met_of (plainFor_of_name pn_java_util_Arrays) (own := "java/util/Arrays") rfl (fun m => ef_rm_ckl m (0 : Int32) (Int32.ofNat n)) ?_
 intro p e s m below meth c s₁ hx hby hml hown hnm hZ X0 e0 hret hlk
 have N0 := Fr.nil n0
 show Goes p e below s _ _ _ (s₁.setTop (mkF m 0 #[sI (0 : Int32), sI (Int32.ofNat n)] []))
 refine Goes.pre (U' := s₁.setTop (mkF m 2 #[sI (0 : Int32), sI (Int32.ofNat n)] [(.int (0 : Int32)), (.int (Int32.ofNat n))])) (fun t k => XS.iloadN X0.here hx rfl (hb hby d67_0) rfl (XS.iloadN X0.here hx rfl (hb hby d67_1) rfl k)) ?_
 have hc2 : ¬ ((Int32.ofNat n) < (0 : Int32)) := (own_neg _ hn)
 refine Goes.pre (U' := s₁.setTop (mkF m 37 #[sI (0 : Int32), sI (Int32.ofNat n)] [])) (fun t k => XS.icmpYes X0.here hx rfl (pc0 := 2) (pc' := 37) rfl (hb hby d67_2) rfl (flt hc2).2.1 (by decide) (by decide) k) ?_
 refine Goes.ret X0 (v := none) (fun _ => rfl) hlk (by decide) (by decide) e0 (fun fs hr => X0.returnOut hx hret (hb hby d67_37) hr) ?_
 exact ⟨rfl, N0, rfl⟩
theorem own_s0 (n : Nat) : Int32.ofNat n - (0 : Int32) = Int32.ofNat n := Int32.sub_zero _
theorem ef_rm_corb (m : MethodId) (x0 : Addr) (x1 : Int32) (x2 : Int32) : entryFrame m #[(.ref x0), (.int x1), (.int x2)] 5 = mkF m 0 #[sR x0, sI x1, sI x2, .unset, .unset] [] := by first | (simp [entryFrame, mkF, argsToLocals, Value.category]; done) | rfl
abbrev M66 : MethodName := ⟨"java/util/Arrays", "copyOfRangeByte", "([BII)[B"⟩
theorem d66_0 : decode B66 0 = .ok (.iload_n 1, 1) := by decide +kernel
theorem d66_1 : decode B66 1 = .ok (.iload_n 2, 1) := by decide +kernel
theorem d66_2 : decode B66 2 = .ok (.invokestatic 343, 3) := by decide +kernel
theorem d66_5 : decode B66 5 = .ok (.iload_n 2, 1) := by decide +kernel
theorem d66_6 : decode B66 6 = .ok (.iload_n 1, 1) := by decide +kernel
theorem d66_7 : decode B66 7 = .ok (.isub, 1) := by decide +kernel
theorem d66_8 : decode B66 8 = .ok (.istore_n 3, 1) := by decide +kernel
theorem d66_9 : decode B66 9 = .ok (.iload_n 3, 1) := by decide +kernel
theorem d66_10 : decode B66 10 = .ok (.newarray .byte, 2) := by decide +kernel
theorem d66_12 : decode B66 12 = .ok (.astore 4, 2) := by decide +kernel
theorem d66_14 : decode B66 14 = .ok (.aload_n 0, 1) := by decide +kernel
theorem d66_15 : decode B66 15 = .ok (.iload_n 1, 1) := by decide +kernel
theorem d66_16 : decode B66 16 = .ok (.aload 4, 2) := by decide +kernel
theorem d66_18 : decode B66 18 = .ok (.iconst 0, 1) := by decide +kernel
theorem d66_19 : decode B66 19 = .ok (.aload_n 0, 1) := by decide +kernel
theorem d66_20 : decode B66 20 = .ok (.arraylength, 1) := by decide +kernel
theorem d66_21 : decode B66 21 = .ok (.iload_n 1, 1) := by decide +kernel
theorem d66_22 : decode B66 22 = .ok (.isub, 1) := by decide +kernel
theorem d66_23 : decode B66 23 = .ok (.iload_n 3, 1) := by decide +kernel
theorem d66_24 : decode B66 24 = .ok (.invokestatic 304, 3) := by decide +kernel
theorem d66_27 : decode B66 27 = .ok (.invokestatic 150, 3) := by decide +kernel
theorem d66_30 : decode B66 30 = .ok (.aload 4, 2) := by decide +kernel
theorem d66_32 : decode B66 32 = .ok (.areturn, 1) := by decide +kernel
def Q_rm_corb (Z : State) (b : Addr) (kb : ClassId) (n : Nat) (mm : Nat) (vs : List Value) (h0 : Heap) (n0 : Nat) (v : Option Value) (h : Heap) (L : List Loc) : Prop := ∃ (r : Addr) (kr : ClassId), v = some (.ref r) ∧ Fr n0 L ∧ Keep h0 h [] ∧ Arv Z h r kr .byte (Int32.ofNat mm) vs (.int (0 : Int32)) ∧ n0 ≤ r ∧ h0.size ≤ r
set_option maxRecDepth 65536 in
set_option maxHeartbeats 40000000 in
theorem rm_corb (l : Launch) (Z : State) (a0 : Array Value) (hw : ∀ d ∈ tables_1, d.before a0 Z = true) (ws : List Jvm.Cond) (b : Addr) (kb : ClassId) (n : Nat) (mm : Nat) (vs : List Value) (h0 : Heap) (n0 : Nat) (Z0 : n0 ≤ h0.size) (V_b : Arv Z h0 b kb .byte (Int32.ofNat n) vs (.int (0 : Int32))) (hmn : mm ≤ n) (hn96 : n ≤ 96) (hvl : vs.length = mm) :
  Met l Z M66 jdk_65_method_133_code 5 (some (.array .byte)) ws (Rm 1 1 96 18) #[(.ref b), (.int (0 : Int32)), (.int (Int32.ofNat mm))] h0 (Q_rm_corb Z b kb n mm vs h0 n0) := by
 refine met_of (plainFor_of_name pn_java_util_Arrays) (own := "java/util/Arrays") rfl (fun m => ef_rm_corb m b (0 : Int32) (Int32.ofNat mm)) ?_
 intro p e s m below meth c s₁ hx hby hml hown hnm hZ X0 e0 hret hlk
 have N0 := Fr.nil n0
 have K0 := Keep.refl h0 []
 show Goes p e below s _ _ _ (s₁.setTop (mkF m 0 #[sR b, sI (0 : Int32), sI (Int32.ofNat mm), .unset, .unset] []))
 refine Goes.pre (U' := s₁.setTop (mkF m 2 #[sR b, sI (0 : Int32), sI (Int32.ofNat mm), .unset, .unset] [(.int (Int32.ofNat mm)), (.int (0 : Int32))])) (fun t k => XS.iloadN X0.here hx rfl (hb hby d66_0) rfl (XS.iloadN X0.here hx rfl (hb hby d66_1) rfl k)) ?_
 obtain ⟨_, _, ⟨T1, L1, k1, n1⟩, -, X1, ⟨Lc1, hQ1, l1, y1, z1⟩, st1⟩ := Jvm.LawKit.callS X0 hx (y := M67) hown (mvT hZ (wq hw 319 rfl)) (mvT hZ (wq hw 320 rfl)) (mvT hZ (wq hw 117 rfl)) (mvT hZ (wq hw 321 rfl)) (by decide) (backOf (W := 0) (rm_ckl l Z a0 hw [] mm h0 n0 Z0  (by omega)) hZ (wq hw 321 rfl) (wq hw 117 rfl) (by decide) (by decide)) (g := (mkF m 2 #[sR b, sI (0 : Int32), sI (Int32.ofNat mm), .unset, .unset] [(.int (Int32.ofNat mm)), (.int (0 : Int32))])) rfl (by rw [hml]; rfl) (argsL := [(.int (0 : Int32)), (.int (Int32.ofNat mm))]) (rest := []) (lenOf pd__28II_29V rfl) rfl (by show 2 * 0 + _ ≤ _; exact Nat.le_of_eq rfl) (hb hby d66_2) (fun _ _ => ⟨rfl, e0, (by decide : 0 + 0 ≤ _), (by decide : 0 + 0 ≤ _)⟩)
 dsimp only [Pt.U, Pt.locs, Pt.cells, Pt.slots] at X1 l1 y1 z1 st1 hQ1
 subst l1 y1 z1
 obtain ⟨rfl, N1q, HQ1⟩ := hQ1
 have N1 := Fr.app N0 N1q
 refine Goes.pre (U' := T1.setTop (mkF m 8 #[sR b, sI (0 : Int32), sI (Int32.ofNat mm), .unset, .unset] [(.int ((Int32.ofNat mm) - (0 : Int32)))])) (fun t k => st1 t (XS.iloadN X1.here hx rfl (hb hby d66_5) rfl (XS.iloadN X1.here hx rfl (hb hby d66_6) rfl (XS.isub X1.here hx rfl (hb hby d66_7) rfl k)))) ?_
 rw [own_s0]
 refine Goes.pre (U' := T1.setTop (mkF m 10 #[sR b, sI (0 : Int32), sI (Int32.ofNat mm), sI (Int32.ofNat mm), .unset] [(.int (Int32.ofNat mm))])) (fun t k => XS.istoreN X1.here hx rfl (hb hby d66_8) rfl (l' := #[sR b, sI (0 : Int32), sI (Int32.ofNat mm), sI (Int32.ofNat mm), .unset]) rfl (XS.iloadN X1.here hx rfl (hb hby d66_9) rfl k)) ?_
 obtain ⟨T2, h2, k2, X2, e2, E2, A2, B2, st2⟩ := newPE X1 hx hZ (wq hw 21 rfl) HQ1 (g := (mkF m 10 #[sR b, sI (0 : Int32), sI (Int32.ofNat mm), sI (Int32.ofNat mm), .unset] [(.int (Int32.ofNat mm))])) rfl (hb hby d66_10) rfl (own_neg _ (by omega)) (cap := 96) (own_cap _ _ (by omega) (by omega)) (by decide) (by decide) (by decide) (ad := "[B") (by decide)
 obtain ⟨nb2, g2⟩ : ∃ z, z = h0.size := ⟨_, rfl⟩
 rw [← g2] at A2 B2 st2
 have ne_b_nb2 : b ≠ nb2 := Nat.ne_of_lt (Nat.lt_of_lt_of_le V_b.lt (Nat.le_of_eq g2.symm))
 have ne_nb2_b := ne_b_nb2.symm
 have g_nb2 : n0 ≤ nb2 := Nat.le_trans Z0 (Nat.le_of_eq g2.symm)
 have sz_nb2 : h0.size ≤ nb2 := Nat.le_trans K0.1 (Nat.le_of_eq g2.symm)
 have V_b := V_b.ext E2
 have Z2 : n0 ≤ h2.size := Nat.le_trans Z0 E2.1
 have K2 := K0.ext E2
 have E_nb2 := B2
 have V_nb2 : Arv Z h2 nb2 k2 .byte (Int32.ofNat mm) [] (.int (0 : Int32)) := Arv.new A2 (own_neg _ (by omega))
 refine Goes.pre (U' := T2.setTop (mkF m 20 #[sR b, sI (0 : Int32), sI (Int32.ofNat mm), sI (Int32.ofNat mm), sR nb2] [(.ref b), (.int (0 : Int32)), (.ref nb2), (.int (0 : Int32)), (.ref b)])) (fun t k => st2 t (XS.astore X2.here hx rfl (hb hby d66_12) rfl rfl (l' := #[sR b, sI (0 : Int32), sI (Int32.ofNat mm), sI (Int32.ofNat mm), sR nb2]) rfl (XS.aloadN X2.here hx rfl (hb hby d66_14) rfl rfl (XS.iloadN X2.here hx rfl (hb hby d66_15) rfl (XS.aload X2.here hx rfl (hb hby d66_16) rfl rfl (XS.iconst X2.here hx rfl (hb hby d66_18) (XS.aloadN X2.here hx rfl (hb hby d66_19) rfl rfl k))))))) ?_
 obtain ⟨cl3, Ar3, q3, Sz3, Ng3, -, -⟩ := id V_b
 have ln3 := len_of Sz3 Ng3
 refine Goes.pre (U' := T2.setTop (mkF m 23 #[sR b, sI (0 : Int32), sI (Int32.ofNat mm), sI (Int32.ofNat mm), sR nb2] [(.int ((Int32.ofNat n) - (0 : Int32))), (.int (0 : Int32)), (.ref nb2), (.int (0 : Int32)), (.ref b)])) (fun t k => X2.arraylength hx (by rw [e2]; exact Ar3.1) (State.isArrayOf_alike hZ.alike Ar3.2.1) (g := (mkF m 20 #[sR b, sI (0 : Int32), sI (Int32.ofNat mm), sI (Int32.ofNat mm), sR nb2] [(.ref b), (.int (0 : Int32)), (.ref nb2), (.int (0 : Int32)), (.ref b)])) rfl rfl (hb hby d66_20) _ (by rw [ln3]; exact (XS.iloadN X2.here hx rfl (hb hby d66_21) rfl (XS.isub X2.here hx rfl (hb hby d66_22) rfl k)))) ?_
 rw [own_s0]
 refine Goes.pre (U' := T2.setTop (mkF m 24 #[sR b, sI (0 : Int32), sI (Int32.ofNat mm), sI (Int32.ofNat mm), sR nb2] [(.int (Int32.ofNat mm)), (.int (Int32.ofNat n)), (.int (0 : Int32)), (.ref nb2), (.int (0 : Int32)), (.ref b)])) (fun t k => XS.iloadN X2.here hx rfl (hb hby d66_23) rfl k) ?_
 obtain ⟨_, _, ⟨T4, L4, k4, n4⟩, -, X4, ⟨Lc4, hQ4, l4, y4, z4⟩, st4⟩ := Jvm.LawKit.callS X2 hx (y := M37) hown (mvT hZ (wq hw 235 rfl)) (mvT hZ (wq hw 195 rfl)) (mvT hZ (wq hw 192 rfl)) (mvT hZ (wq hw 196 rfl)) (by decide) (backOf (W := 4) (rm_minN l Z a0 hw [] n mm h2 n0 Z2  (by omega) (by omega)) hZ (wq hw 196 rfl) (wq hw 192 rfl) (by decide) (by decide)) (g := (mkF m 24 #[sR b, sI (0 : Int32), sI (Int32.ofNat mm), sI (Int32.ofNat mm), sR nb2] [(.int (Int32.ofNat mm)), (.int (Int32.ofNat n)), (.int (0 : Int32)), (.ref nb2), (.int (0 : Int32)), (.ref b)])) rfl (by rw [hml]; rfl) (argsL := [(.int (Int32.ofNat n)), (.int (Int32.ofNat mm))]) (rest := [(.int (0 : Int32)), (.ref nb2), (.int (0 : Int32)), (.ref b)]) (lenOf pd__28II_29I rfl) rfl (by show 2 * 0 + _ ≤ _; exact Nat.le_of_eq rfl) (hb hby d66_24) (fun _ _ => ⟨rfl, e2, (by decide : 1 + 0 ≤ _), (by decide : 96 + 0 ≤ _)⟩)
 dsimp only [Pt.U, Pt.locs, Pt.cells, Pt.slots] at X4 l4 y4 z4 st4 hQ4
 subst l4 y4 z4
 obtain ⟨rfl, N4q, HQ4⟩ := hQ4
 have N4 := Fr.app N1 N4q
 refine Goes.pre (U' := T4.setTop (mkF m 27 #[sR b, sI (0 : Int32), sI (Int32.ofNat mm), sI (Int32.ofNat mm), sR nb2] [(.int (Int32.ofNat (min n mm))), (.int (0 : Int32)), (.ref nb2), (.int (0 : Int32)), (.ref b)])) (fun t k => st4 t k) ?_
 rw [Nat.min_eq_right hmn]
 have hz0 : (0 : Int32).toNatClampNeg = 0 := by decide
 have hcn : (Int32.ofNat n).toNatClampNeg = n := own_ixn _ (by omega)
 have hcm : (Int32.ofNat mm).toNatClampNeg = mm := own_ixn _ (by omega)
 have V_nb2 := Arv.pad V_nb2 (pad_rep [] (.int (0 : Int32)) (mm - (0)))
 obtain ⟨T5, h5, L5, X5, e5, N5, K5c, V5, st5⟩ := cpA X4 hx hZ hown (wq hw 236 rfl) (wq hw 239 rfl) (wq hw 237 rfl) (wq hw 238 rfl) HQ4 V_b V_nb2 (us := ((List.range mm).map fun i => vs.getD i (.int (0 : Int32)))) (Or.inl ⟨rfl, rfl⟩) (by decide) (by decide) (own_neg _ (by omega)) (by rw [hz0, hcm, hcn]; omega) (by rw [hz0, hcm]; omega) (by rw [hz0, hcm]; simp only [Nat.zero_add]) (by rw [hz0, hcm, List.length_append, List.length_replicate]; simp) N4 g_nb2 (g := (mkF m 27 #[sR b, sI (0 : Int32), sI (Int32.ofNat mm), sI (Int32.ofNat mm), sR nb2] [(.int (Int32.ofNat mm)), (.int (0 : Int32)), (.ref nb2), (.int (0 : Int32)), (.ref b)])) rfl (by rw [hml]; rfl) rfl (hb hby d66_27) (by decide) (W := 0) (by show 2 * 0 + _ ≤ _; exact Nat.le_of_eq rfl) (by decide)
 have V_b := V_b.keep K5c (ninS ne_b_nb2 nin0)
 have E_nb2 := E_nb2.keep K5c
 have Z6 : n0 ≤ h5.size := Nat.le_trans Z2 K5c.1
 have K6 := K2.trans K5c (allS (P := fun x => x ∈ [] ∨ h0.size ≤ x) (Or.inr sz_nb2) all0)
 have V_nb2 : Arv Z h5 nb2 k2 .byte (Int32.ofNat mm) vs (.int (0 : Int32)) := by
  have q := V5
  rw [hz0, hcm] at q
  exact Arv.pad (Arv.pad q (own_cpl [] _ _ (mm - 0) 0 mm rfl (own_rngl _ _ _))) (own_rng vs _ mm (by omega))
 refine Goes.pre (U' := T5.setTop (mkF m 32 #[sR b, sI (0 : Int32), sI (Int32.ofNat mm), sI (Int32.ofNat mm), sR nb2] [(.ref nb2)])) (fun t k => st5 t (XS.aload X5.here hx rfl (hb hby d66_30) rfl rfl k)) ?_
 refine Goes.ret X5 (v := (some (.ref nb2))) (fun h => by rw [hret] at h; cases h) hlk (by decide) (by decide) e5 (fun fs hr => retOut X5 hx hret rfl (Or.inr (Or.inr (Or.inr (Or.inr ⟨rfl, rfl, rfl⟩)))) (hb hby d66_32) hr) ?_
 exact ⟨nb2, k2, rfl, N5, K6, V_nb2, g_nb2, sz_nb2⟩
theorem ef_rm_cor (m : MethodId) (x0 : Addr) (x1 : Int32) (x2 : Int32) : entryFrame m #[(.ref x0), (.int x1), (.int x2)] 3 = mkF m 0 #[sR x0, sI x1, sI x2] [] := by first | (simp [entryFrame, mkF, argsToLocals, Value.category]; done) | rfl
abbrev M21 : MethodName := ⟨"java/util/Arrays", "copyOfRange", "([BII)[B"⟩
theorem d21_0 : decode B21 0 = .ok (.iload_n 1, 1) := by decide +kernel
theorem d21_1 : decode B21 1 = .ok (.ifCond .ne 9, 3) := by decide +kernel
theorem d21_4 : decode B21 4 = .ok (.iload_n 2, 1) := by decide +kernel
theorem d21_5 : decode B21 5 = .ok (.aload_n 0, 1) := by decide +kernel
theorem d21_6 : decode B21 6 = .ok (.arraylength, 1) := by decide +kernel
theorem d21_7 : decode B21 7 = .ok (.if_icmp .eq 10, 3) := by decide +kernel
theorem d21_17 : decode B21 17 = .ok (.aload_n 0, 1) := by decide +kernel
theorem d21_18 : decode B21 18 = .ok (.invokevirtual 310, 3) := by decide +kernel
theorem d21_21 : decode B21 21 = .ok (.checkcast 311, 3) := by decide +kernel
theorem d21_24 : decode B21 24 = .ok (.areturn, 1) := by decide +kernel
theorem d21_10 : decode B21 10 = .ok (.aload_n 0, 1) := by decide +kernel
theorem d21_11 : decode B21 11 = .ok (.iload_n 1, 1) := by decide +kernel
theorem d21_12 : decode B21 12 = .ok (.iload_n 2, 1) := by decide +kernel
theorem d21_13 : decode B21 13 = .ok (.invokestatic 339, 3) := by decide +kernel
theorem pd__28_5bBII_29_5bB : parseMethodDescriptor "([BII)[B" = some ⟨[(.array .byte), .int, .int], some (.array .byte)⟩ := by decide +kernel
theorem d21_16 : decode B21 16 = .ok (.areturn, 1) := by decide +kernel
def Q_rm_cor (Z : State) (b : Addr) (kb : ClassId) (n : Nat) (mm : Nat) (vs : List Value) (h0 : Heap) (n0 : Nat) (v : Option Value) (h : Heap) (L : List Loc) : Prop := ∃ (r : Addr) (kr : ClassId), v = some (.ref r) ∧ Fr n0 L ∧ Keep h0 h [] ∧ Arv Z h r kr .byte (Int32.ofNat mm) vs (.int (0 : Int32)) ∧ n0 ≤ r ∧ h0.size ≤ r
set_option maxRecDepth 65536 in
set_option maxHeartbeats 40000000 in
theorem rm_cor (l : Launch) (Z : State) (a0 : Array Value) (hw : ∀ d ∈ tables_1, d.before a0 Z = true) (ws : List Jvm.Cond) (b : Addr) (kb : ClassId) (n : Nat) (mm : Nat) (vs : List Value) (h0 : Heap) (n0 : Nat) (Z0 : n0 ≤ h0.size) (E_b : Exa Z h0 b "[B") (V_b : Arv Z h0 b kb .byte (Int32.ofNat n) vs (.int (0 : Int32))) (hmn : mm ≤ n) (hn96 : n ≤ 96) (hvl : vs.length = mm) :
  Met l Z M21 jdk_65_method_132_code 3 (some (.array .byte)) ws (Rm 2 1 96 34) #[(.ref b), (.int (0 : Int32)), (.int (Int32.ofNat mm))] h0 (Q_rm_cor Z b kb n mm vs h0 n0) := by
 refine met_of (plainFor_of_name pn_java_util_Arrays) (own := "java/util/Arrays") rfl (fun m => ef_rm_cor m b (0 : Int32) (Int32.ofNat mm)) ?_
 intro p e s m below meth c s₁ hx hby hml hown hnm hZ X0 e0 hret hlk
 have N0 := Fr.nil n0
 have K0 := Keep.refl h0 []
 show Goes p e below s _ _ _ (s₁.setTop (mkF m 0 #[sR b, sI (0 : Int32), sI (Int32.ofNat mm)] []))
 refine Goes.pre (U' := s₁.setTop (mkF m 1 #[sR b, sI (0 : Int32), sI (Int32.ofNat mm)] [(.int (0 : Int32))])) (fun t k => XS.iloadN X0.here hx rfl (hb hby d21_0) rfl k) ?_
 have hc1 : (0 : Int32) = (0 : Int32) := rfl
 refine Goes.pre (U' := s₁.setTop (mkF m 6 #[sR b, sI (0 : Int32), sI (Int32.ofNat mm)] [(.ref b), (.int (Int32.ofNat mm))])) (fun t k => XS.ifNo X0.here hx rfl (hb hby d21_1) rfl ((if0 _ _).trans (teq hc1).2) (XS.iloadN X0.here hx rfl (hb hby d21_4) rfl (XS.aloadN X0.here hx rfl (hb hby d21_5) rfl rfl k))) ?_
 obtain ⟨cl1, Ar1, q1, Sz1, Ng1, -, -⟩ := id V_b
 have ln1 := len_of Sz1 Ng1
 refine Goes.pre (U' := s₁.setTop (mkF m 7 #[sR b, sI (0 : Int32), sI (Int32.ofNat mm)] [(.int (Int32.ofNat n)), (.int (Int32.ofNat mm))])) (fun t k => X0.arraylength hx (by rw [e0]; exact Ar1.1) (State.isArrayOf_alike hZ.alike Ar1.2.1) (g := (mkF m 6 #[sR b, sI (0 : Int32), sI (Int32.ofNat mm)] [(.ref b), (.int (Int32.ofNat mm))])) rfl rfl (hb hby d21_6) _ (by rw [ln1]; exact k)) ?_
 by_cases hc7 : (Int32.ofNat mm) = (Int32.ofNat n)
 ·
  refine Goes.pre (U' := s₁.setTop (mkF m 18 #[sR b, sI (0 : Int32), sI (Int32.ofNat mm)] [(.ref b)])) (fun t k => XS.icmpYes X0.here hx rfl (pc0 := 7) (pc' := 17) rfl (hb hby d21_7) rfl (teq hc7).1 (by decide) (by decide) (XS.aloadN X0.here hx rfl (hb hby d21_17) rfl rfl k)) ?_
  obtain ⟨T2, h2, X2, e2, E2, A2, B2, st2⟩ := cloneH X0 hx hZ hown (wq hw 119 rfl) (wq hw 120 rfl) (wq hw 124 rfl) (wq hw 122 rfl) (wq hw 123 rfl) (wq hw 125 rfl) e0 V_b.arh E_b (g := (mkF m 18 #[sR b, sI (0 : Int32), sI (Int32.ofNat mm)] [(.ref b)])) rfl (by rw [hml]; rfl) rfl (hb hby d21_18) (by decide) (W := 0) (cap := 96) (by show 2 * 0 + _ ≤ _; exact Nat.le_of_eq rfl) (by decide) (own_cap _ _ (by omega) (by omega)) (by decide) (by decide)
  obtain ⟨cr, g2⟩ : ∃ z, z = h0.size := ⟨_, rfl⟩
  rw [← g2] at A2 B2 st2
  have ne_b_cr : b ≠ cr := Nat.ne_of_lt (Nat.lt_of_lt_of_le E_b.lt (Nat.le_of_eq g2.symm))
  have ne_cr_b := ne_b_cr.symm
  have g_cr : n0 ≤ cr := Nat.le_trans Z0 (Nat.le_of_eq g2.symm)
  have sz_cr : h0.size ≤ cr := Nat.le_trans K0.1 (Nat.le_of_eq g2.symm)
  have E_b := E_b.ext E2
  have V_b := V_b.ext E2
  have Z2 : n0 ≤ h2.size := Nat.le_trans Z0 E2.1
  have K2 := K0.ext E2
  have E_cr := B2
  have V_cr : Arv Z h2 cr kb .byte (Int32.ofNat n) vs (.int (0 : Int32)) := A2
  refine Goes.pre (U' := T2.setTop (mkF m 21 #[sR b, sI (0 : Int32), sI (Int32.ofNat mm)] [(.ref cr)])) (fun t k => st2 t k) ?_
  obtain ⟨T3, X3, e3, st3⟩ := castY X2 hx hZ hown (wq hw 126 rfl) e2 (Ins.self E_cr) (g := (mkF m 21 #[sR b, sI (0 : Int32), sI (Int32.ofNat mm)] [(.ref cr)])) rfl rfl (hb hby d21_21)
  refine Goes.pre (U' := T3.setTop (mkF m 24 #[sR b, sI (0 : Int32), sI (Int32.ofNat mm)] [(.ref cr)])) (fun t k => st3 t k) ?_
  refine Goes.ret X3 (v := (some (.ref cr))) (fun h => by rw [hret] at h; cases h) hlk (by decide) (by decide) e3 (fun fs hr => retOut X3 hx hret rfl (Or.inr (Or.inr (Or.inr (Or.inr ⟨rfl, rfl, rfl⟩)))) (hb hby d21_24) hr) ?_
  have V_cr : Arv Z h2 cr kb .byte (Int32.ofNat mm) vs (.int (0 : Int32)) := (show Int32.ofNat mm = Int32.ofNat n from hc7) ▸ V_cr
  exact ⟨cr, kb, rfl, N0, K2, V_cr, g_cr, sz_cr⟩
 ·
  refine Goes.pre (U' := s₁.setTop (mkF m 13 #[sR b, sI (0 : Int32), sI (Int32.ofNat mm)] [(.int (Int32.ofNat mm)), (.int (0 : Int32)), (.ref b)])) (fun t k => XS.icmpNo X0.here hx rfl (hb hby d21_7) rfl (feq hc7).1 (XS.aloadN X0.here hx rfl (hb hby d21_10) rfl rfl (XS.iloadN X0.here hx rfl (hb hby d21_11) rfl (XS.iloadN X0.here hx rfl (hb hby d21_12) rfl k)))) ?_
  have lt_b := E_b.lt
  obtain ⟨_, _, ⟨T4, L4, k4, n4⟩, -, X4, ⟨Lc4, hQ4, l4, y4, z4⟩, st4⟩ := Jvm.LawKit.callS X0 hx (y := M66) hown (mvT hZ (wq hw 316 rfl)) (mvT hZ (wq hw 317 rfl)) (mvT hZ (wq hw 117 rfl)) (mvT hZ (wq hw 318 rfl)) (by decide) (backOf (W := 0) (rm_corb l Z a0 hw [] b kb n mm vs h0 n0 Z0 V_b hmn hn96 hvl) hZ (wq hw 318 rfl) (wq hw 117 rfl) (by decide) (by decide)) (g := (mkF m 13 #[sR b, sI (0 : Int32), sI (Int32.ofNat mm)] [(.int (Int32.ofNat mm)), (.int (0 : Int32)), (.ref b)])) rfl (by rw [hml]; rfl) (argsL := [(.ref b), (.int (0 : Int32)), (.int (Int32.ofNat mm))]) (rest := []) (lenOf pd__28_5bBII_29_5bB rfl) rfl (by show 2 * 0 + _ ≤ _; exact Nat.le_of_eq rfl) (hb hby d21_13) (fun _ _ => ⟨rfl, e0, (by decide : 0 + 1 ≤ _), (by decide : 0 + 96 ≤ _)⟩)
  dsimp only [Pt.U, Pt.locs, Pt.cells, Pt.slots] at X4 l4 y4 z4 st4 hQ4
  subst l4 y4 z4
  obtain ⟨r4, kr4, rfl, N4q, KQ4, fo0_4, g_r4, sl_r4⟩ := hQ4
  have N4 := Fr.app N0 N4q
  have E_b := E_b.keep KQ4
  have V_b := V_b.keep KQ4 nin0
  have Z5 : n0 ≤ T4.heap.size := Nat.le_trans Z0 KQ4.1
  have K5 := K0.trans KQ4 all0
  have ne_b_r4 : b ≠ r4 := Nat.ne_of_lt (Nat.lt_of_lt_of_le lt_b sl_r4)
  have ne_r4_b := ne_b_r4.symm
  have sz_r4 : h0.size ≤ r4 := Nat.le_trans K0.1 sl_r4
  have V_r4 := fo0_4
  refine Goes.pre (U' := T4.setTop (mkF m 16 #[sR b, sI (0 : Int32), sI (Int32.ofNat mm)] [(.ref r4)])) (fun t k => st4 t k) ?_
  refine Goes.ret X4 (v := (some (.ref r4))) (fun h => by rw [hret] at h; cases h) hlk (by decide) (by decide) rfl (fun fs hr => retOut X4 hx hret rfl (Or.inr (Or.inr (Or.inr (Or.inr ⟨rfl, rfl, rfl⟩)))) (hb hby d21_16) hr) ?_
  exact ⟨r4, kr4, rfl, N4, K5, V_r4, g_r4, sz_r4⟩
theorem ef_rm_ulenC (m : MethodId) (x0 : Addr) : entryFrame m #[(.ref x0)] 1 = mkF m 0 #[sR x0] [] := by first | (simp [entryFrame, mkF, argsToLocals, Value.category]; done) | rfl
def Q_rm_ulenC (Z : State) (b : Addr) (kb : ClassId) (cap : Nat) (vs : List Value) (h0 : Heap) (n0 : Nat) (v : Option Value) (h : Heap) (L : List Loc) : Prop := v = some (.int (Int32.ofNat cap)) ∧ Fr n0 L ∧ h = h0
set_option maxRecDepth 65536 in
set_option maxHeartbeats 40000000 in
theorem rm_ulenC (l : Launch) (Z : State) (a0 : Array Value) (hw : ∀ d ∈ tables_1, d.before a0 Z = true) (ws : List Jvm.Cond) (b : Addr) (kb : ClassId) (cap : Nat) (vs : List Value) (h0 : Heap) (n0 : Nat) (Z0 : n0 ≤ h0.size) (V_b : Arv Z h0 b kb .byte (Int32.ofNat (2 * cap)) vs (.int (0 : Int32))) (hc2 : cap ≤ 48) :
  Met l Z M58 jdk_52_method_6_code 1 (some .int) ws (Rm 0 0 0 0) #[(.ref b)] h0 (Q_rm_ulenC Z b kb cap vs h0 n0) := by
 refine met_of (plainFor_of_name pn_java_lang_StringUTF16) (own := "java/lang/StringUTF16") rfl (fun m => ef_rm_ulenC m b) ?_
 intro p e s m below meth c s₁ hx hby hml hown hnm hZ X0 e0 hret hlk
 have N0 := Fr.nil n0
 show Goes p e below s _ _ _ (s₁.setTop (mkF m 0 #[sR b] []))
 refine Goes.pre (U' := s₁.setTop (mkF m 1 #[sR b] [(.ref b)])) (fun t k => XS.aloadN X0.here hx rfl (hb hby d58_0) rfl rfl k) ?_
 obtain ⟨cl1, Ar1, q1, Sz1, Ng1, -, -⟩ := id V_b
 have ln1 := len_of Sz1 Ng1
 refine Goes.pre (U' := s₁.setTop (mkF m 4 #[sR b] [(.int ((Int32.ofNat (2 * cap)) >>> ((1 : Int32) &&& 31)))])) (fun t k => X0.arraylength hx (by rw [e0]; exact Ar1.1) (State.isArrayOf_alike hZ.alike Ar1.2.1) (g := (mkF m 1 #[sR b] [(.ref b)])) rfl rfl (hb hby d58_1) _ (by rw [ln1]; exact (XS.iconst X0.here hx rfl (hb hby d58_2) (XS.ishr X0.here hx rfl (hb hby d58_3) rfl k)))) ?_
 refine Goes.ret X0 (v := (some (.int ((Int32.ofNat (2 * cap)) >>> ((1 : Int32) &&& 31))))) (fun h => by rw [hret] at h; cases h) hlk (by decide) (by decide) e0 (fun fs hr => retI X0 hx hret (hb hby d58_4) hr) ?_
 exact ⟨congrArg (fun z => some (Value.int z)) (own_shr1 cap (by omega)), N0, rfl⟩
theorem ef_rm_uIdxC (m : MethodId) (x0 : Int32) (x1 : Addr) : entryFrame m #[(.int x0), (.ref x1)] 2 = mkF m 0 #[sI x0, sR x1] [] := by first | (simp [entryFrame, mkF, argsToLocals, Value.category]; done) | rfl
def Q_rm_uIdxC (Z : State) (b : Addr) (kb : ClassId) (cap : Nat) (i : Nat) (vs : List Value) (sf : Value) (h0 : Heap) (n0 : Nat) (v : Option Value) (h : Heap) (L : List Loc) : Prop := v = none ∧ Fr n0 L ∧ h = h0
set_option maxRecDepth 65536 in
set_option maxHeartbeats 40000000 in
theorem rm_uIdxC (l : Launch) (Z : State) (a0 : Array Value) (hw : ∀ d ∈ tables_1, d.before a0 Z = true) (ws : List Jvm.Cond) (b : Addr) (kb : ClassId) (cap : Nat) (i : Nat) (vs : List Value) (sf : Value) (h0 : Heap) (n0 : Nat) (Z0 : n0 ≤ h0.size) (V_b : Arv Z h0 b kb .byte (Int32.ofNat (2 * cap)) vs (.int (0 : Int32))) (sF : OSF Z sf) (hc2 : cap ≤ 48) (hi2 : i < cap) (hsf : sf.isRef = true) (O : Old Z n0 h0) :
  Met l Z M57 jdk_52_method_91_code 2 none ws (Rm 2 0 0 27) #[(.int (Int32.ofNat i)), (.ref b)] h0 (Q_rm_uIdxC Z b kb cap i vs sf h0 n0) := by
 refine met_of (plainFor_of_name pn_java_lang_StringUTF16) (own := "java/lang/StringUTF16") rfl (fun m => ef_rm_uIdxC m (Int32.ofNat i) b) ?_
 intro p e s m below meth c s₁ hx hby hml hown hnm hZ X0 e0 hret hlk
 have N0 := Fr.nil n0
 show Goes p e below s _ _ _ (s₁.setTop (mkF m 0 #[sI (Int32.ofNat i), sR b] []))
 have h1 := (own_ix i cap hi2 (by omega)).1
 have h2 := (own_ix i cap hi2 (by omega)).2
 refine Goes.pre (U' := s₁.setTop (mkF m 2 #[sI (Int32.ofNat i), sR b] [(.ref b), (.int (Int32.ofNat i))])) (fun t k => XS.iloadN X0.here hx rfl (hb hby d57_0) rfl (XS.aloadN X0.here hx rfl (hb hby d57_1) rfl rfl k)) ?_
 obtain ⟨_, _, ⟨T1, L1, k1, n1⟩, -, X1, ⟨Lc1, hQ1, l1, y1, z1⟩, st1⟩ := Jvm.LawKit.callS X0 hx (y := M58) hown (mvT hZ (wq hw 286 rfl)) (mvT hZ (wq hw 287 rfl)) (mvT hZ (wq hw 163 rfl)) (mvT hZ (wq hw 288 rfl)) (by decide) (backOf (W := 1) (rm_ulenC l Z a0 hw [] b kb cap vs h0 n0 Z0 V_b hc2) hZ (wq hw 288 rfl) (wq hw 163 rfl) (by decide) (by decide)) (g := (mkF m 2 #[sI (Int32.ofNat i), sR b] [(.ref b), (.int (Int32.ofNat i))])) rfl (by rw [hml]; rfl) (argsL := [(.ref b)]) (rest := [(.int (Int32.ofNat i))]) (lenOf pd__28_5bB_29I rfl) rfl (by show 2 * 0 + _ ≤ _; exact Nat.le_of_eq rfl) (hb hby d57_2) (fun _ _ => ⟨rfl, e0, (by decide : 0 + 0 ≤ _), (by decide : 0 + 0 ≤ _)⟩)
 dsimp only [Pt.U, Pt.locs, Pt.cells, Pt.slots] at X1 l1 y1 z1 st1 hQ1
 subst l1 y1 z1
 obtain ⟨rfl, N1q, HQ1⟩ := hQ1
 have N1 := Fr.app N0 N1q
 refine Goes.pre (U' := T1.setTop (mkF m 5 #[sI (Int32.ofNat i), sR b] [(.int (Int32.ofNat cap)), (.int (Int32.ofNat i))])) (fun t k => st1 t k) ?_
 obtain ⟨_, _, ⟨T2, L2, k2, n2⟩, -, X2, ⟨Lc2, hQ2, l2, y2, z2⟩, st2⟩ := Jvm.LawKit.callS X1 hx (y := M27) hown (mvT hZ (wq hw 289 rfl)) (mvT hZ (wq hw 154 rfl)) (mvT hZ (wq hw 8 rfl)) (mvT hZ (wq hw 155 rfl)) (by decide) (backOf (W := 0) (rm_sIdx l Z a0 hw [] (Int32.ofNat i) (Int32.ofNat cap) sf h0 n0 Z0 sF h1 h2 hsf O) hZ (wq hw 155 rfl) (wq hw 8 rfl) (by decide) (by decide)) (g := (mkF m 5 #[sI (Int32.ofNat i), sR b] [(.int (Int32.ofNat cap)), (.int (Int32.ofNat i))])) rfl (by rw [hml]; rfl) (argsL := [(.int (Int32.ofNat i)), (.int (Int32.ofNat cap))]) (rest := []) (lenOf pd__28II_29V rfl) rfl (by show 2 * 0 + _ ≤ _; exact Nat.le_of_eq rfl) (hb hby d57_5) (fun _ _ => ⟨rfl, HQ1, (by decide : 0 + 0 ≤ _), (by decide : 0 + 0 ≤ _)⟩)
 dsimp only [Pt.U, Pt.locs, Pt.cells, Pt.slots] at X2 l2 y2 z2 st2 hQ2
 subst l2 y2 z2
 obtain ⟨rfl, N2q, HQ2⟩ := hQ2
 have N2 := Fr.app N1 N2q
 refine Goes.pre (U' := T2.setTop (mkF m 8 #[sI (Int32.ofNat i), sR b] [])) (fun t k => st2 t k) ?_
 refine Goes.ret X2 (v := none) (fun _ => rfl) hlk (by decide) (by decide) HQ2 (fun fs hr => X2.returnOut hx hret (hb hby d57_8) hr) ?_
 exact ⟨rfl, N2, rfl⟩
theorem ef_rm_pcsb (m : MethodId) (x0 : Addr) (x1 : Int32) (x2 : Int32) : entryFrame m #[(.ref x0), (.int x1), (.int x2)] 3 = mkF m 0 #[sR x0, sI x1, sI x2] [] := by first | (simp [entryFrame, mkF, argsToLocals, Value.category]; done) | rfl
abbrev M65 : MethodName := ⟨"java/lang/StringUTF16", "putCharSB", "([BII)V"⟩
theorem d65_0 : decode B65 0 = .ok (.iload_n 1, 1) := by decide +kernel
theorem d65_1 : decode B65 1 = .ok (.aload_n 0, 1) := by decide +kernel
theorem d65_2 : decode B65 2 = .ok (.invokestatic 67, 3) := by decide +kernel
theorem d65_5 : decode B65 5 = .ok (.aload_n 0, 1) := by decide +kernel
theorem d65_6 : decode B65 6 = .ok (.iload_n 1, 1) := by decide +kernel
theorem d65_7 : decode B65 7 = .ok (.iload_n 2, 1) := by decide +kernel
theorem d65_8 : decode B65 8 = .ok (.invokestatic 111, 3) := by decide +kernel
theorem d65_11 : decode B65 11 = .ok (.return_, 1) := by decide +kernel
def Q_rm_pcsb (Z : State) (b : Addr) (kb : ClassId) (cap : Nat) (i : Nat) (vs : List Value) (q : Int32) (sf : Value) (h0 : Heap) (n0 : Nat) (v : Option Value) (h : Heap) (L : List Loc) : Prop := v = none ∧ Fr n0 L ∧ Keep h0 h [b] ∧ Arv Z h b kb .byte (Int32.ofNat (2 * cap)) ((vs ++ [.int (q >>> ((0 : Int32) &&& 31)).toInt8.toInt32]) ++ [.int (q >>> ((8 : Int32) &&& 31)).toInt8.toInt32]) (.int (0 : Int32))
set_option maxRecDepth 65536 in
set_option maxHeartbeats 40000000 in
theorem rm_pcsb (l : Launch) (Z : State) (a0 : Array Value) (hw : ∀ d ∈ tables_1, d.before a0 Z = true) (ws : List Jvm.Cond) (b : Addr) (kb : ClassId) (cap : Nat) (i : Nat) (vs : List Value) (q : Int32) (sf : Value) (h0 : Heap) (n0 : Nat) (Z0 : n0 ≤ h0.size) (V_b : Arv Z h0 b kb .byte (Int32.ofNat (2 * cap)) vs (.int (0 : Int32))) (sA : OAD Z (.int (1 : Int32))) (sH : OHI Z (.int (0 : Int32))) (sL : OLO Z (.int (8 : Int32))) (sF : OSF Z sf) (hc2 : cap ≤ 48) (hi2 : i < cap) (hv : vs.length = 2 * i) (hsf : sf.isRef = true) (g_b : n0 ≤ b) (O : Old Z n0 h0) :
  Met l Z M65 jdk_52_method_71_code 3 none ws (Rm 3 0 0 40) #[(.ref b), (.int (Int32.ofNat i)), (.int q)] h0 (Q_rm_pcsb Z b kb cap i vs q sf h0 n0) := by
 refine met_of (plainFor_of_name pn_java_lang_StringUTF16) (own := "java/lang/StringUTF16") rfl (fun m => ef_rm_pcsb m b (Int32.ofNat i) q) ?_
 intro p e s m below meth c s₁ hx hby hml hown hnm hZ X0 e0 hret hlk
 have N0 := Fr.nil n0
 have K0 := Keep.refl h0 [b]
 show Goes p e below s _ _ _ (s₁.setTop (mkF m 0 #[sR b, sI (Int32.ofNat i), sI q] []))
 refine Goes.pre (U' := s₁.setTop (mkF m 2 #[sR b, sI (Int32.ofNat i), sI q] [(.ref b), (.int (Int32.ofNat i))])) (fun t k => XS.iloadN X0.here hx rfl (hb hby d65_0) rfl (XS.aloadN X0.here hx rfl (hb hby d65_1) rfl rfl k)) ?_
 obtain ⟨_, _, ⟨T1, L1, k1, n1⟩, -, X1, ⟨Lc1, hQ1, l1, y1, z1⟩, st1⟩ := Jvm.LawKit.callS X0 hx (y := M57) hown (mvT hZ (wq hw 283 rfl)) (mvT hZ (wq hw 284 rfl)) (mvT hZ (wq hw 163 rfl)) (mvT hZ (wq hw 285 rfl)) (by decide) (backOf (W := 0) (rm_uIdxC l Z a0 hw [] b kb cap i vs sf h0 n0 Z0 V_b sF hc2 hi2 hsf O) hZ (wq hw 285 rfl) (wq hw 163 rfl) (by decide) (by decide)) (g := (mkF m 2 #[sR b, sI (Int32.ofNat i), sI q] [(.ref b), (.int (Int32.ofNat i))])) rfl (by rw [hml]; rfl) (argsL := [(.int (Int32.ofNat i)), (.ref b)]) (rest := []) (lenOf pd__28I_5bB_29V rfl) rfl (by show 2 * 0 + _ ≤ _; exact Nat.le_of_eq rfl) (hb hby d65_2) (fun _ _ => ⟨rfl, e0, (by decide : 0 + 0 ≤ _), (by decide : 0 + 0 ≤ _)⟩)
 dsimp only [Pt.U, Pt.locs, Pt.cells, Pt.slots] at X1 l1 y1 z1 st1 hQ1
 subst l1 y1 z1
 obtain ⟨rfl, N1q, HQ1⟩ := hQ1
 have N1 := Fr.app N0 N1q
 refine Goes.pre (U' := T1.setTop (mkF m 8 #[sR b, sI (Int32.ofNat i), sI q] [(.int q), (.int (Int32.ofNat i)), (.ref b)])) (fun t k => st1 t (XS.aloadN X1.here hx rfl (hb hby d65_5) rfl rfl (XS.iloadN X1.here hx rfl (hb hby d65_6) rfl (XS.iloadN X1.here hx rfl (hb hby d65_7) rfl k)))) ?_
 obtain ⟨_, _, ⟨T2, L2, k2, n2⟩, -, X2, ⟨Lc2, hQ2, l2, y2, z2⟩, st2⟩ := Jvm.LawKit.callS X1 hx (y := M54) hown (mvT hZ (wq hw 271 rfl)) (mvT hZ (wq hw 272 rfl)) (mvT hZ (wq hw 163 rfl)) (mvT hZ (wq hw 273 rfl)) (by decide) (backOf (W := 0) (rm_putG l Z a0 hw [] b kb vs (2 * cap) q i h0 n0 Z0 V_b sA sH sL hv (by omega) (by omega) g_b O) hZ (wq hw 273 rfl) (wq hw 163 rfl) (by decide) (by decide)) (g := (mkF m 8 #[sR b, sI (Int32.ofNat i), sI q] [(.int q), (.int (Int32.ofNat i)), (.ref b)])) rfl (by rw [hml]; rfl) (argsL := [(.ref b), (.int (Int32.ofNat i)), (.int q)]) (rest := []) (lenOf pd__28_5bBII_29V rfl) rfl (by show 2 * 0 + _ ≤ _; exact Nat.le_of_eq rfl) (hb hby d65_8) (fun _ _ => ⟨rfl, HQ1, (by decide : 0 + 0 ≤ _), (by decide : 0 + 0 ≤ _)⟩)
 dsimp only [Pt.U, Pt.locs, Pt.cells, Pt.slots] at X2 l2 y2 z2 st2 hQ2
 subst l2 y2 z2
 obtain ⟨rfl, N2q, KQ2, fo0_2⟩ := hQ2
 have N2 := Fr.app N1 N2q
 have Z3 : n0 ≤ T2.heap.size := Nat.le_trans Z0 KQ2.1
 have O := O.keep KQ2 (allS (P := fun x => n0 ≤ x) g_b all0)
 have K3 := K0.trans KQ2 (allS (P := fun x => x ∈ [b] ∨ h0.size ≤ x) (Or.inl (List.mem_of_getElem? (i := 0) rfl)) all0)
 have V_b := fo0_2
 refine Goes.pre (U' := T2.setTop (mkF m 11 #[sR b, sI (Int32.ofNat i), sI q] [])) (fun t k => st2 t k) ?_
 refine Goes.ret X2 (v := none) (fun _ => rfl) hlk (by decide) (by decide) rfl (fun fs hr => X2.returnOut hx hret (hb hby d65_11) hr) ?_
 exact ⟨rfl, N2, K3, V_b⟩
theorem ef_rm_nblC (m : MethodId) (x0 : Int32) : entryFrame m #[(.int x0)] 1 = mkF m 0 #[sI x0] [] := by first | (simp [entryFrame, mkF, argsToLocals, Value.category]; done) | rfl
def Q_rm_nblC (Z : State) (cap : Nat) (h0 : Heap) (n0 : Nat) (v : Option Value) (h : Heap) (L : List Loc) : Prop := v = some (.int (Int32.ofNat (2 * cap))) ∧ Fr n0 L ∧ h = h0
set_option maxRecDepth 65536 in
set_option maxHeartbeats 40000000 in
theorem rm_nblC (l : Launch) (Z : State) (a0 : Array Value) (hw : ∀ d ∈ tables_1, d.before a0 Z = true) (ws : List Jvm.Cond) (cap : Nat) (h0 : Heap) (n0 : Nat) (Z0 : n0 ≤ h0.size)  (hc2 : cap ≤ 48) :
  Met l Z M53 jdk_52_method_3_code 1 (some .int) ws (Rm 0 0 0 0) #[(.int (Int32.ofNat cap))] h0 (Q_rm_nblC Z cap h0 n0) := by
 refine met_of (plainFor_of_name pn_java_lang_StringUTF16) (own := "java/lang/StringUTF16") rfl (fun m => ef_rm_nblC m (Int32.ofNat cap)) ?_
 intro p e s m below meth c s₁ hx hby hml hown hnm hZ X0 e0 hret hlk
 have N0 := Fr.nil n0
 show Goes p e below s _ _ _ (s₁.setTop (mkF m 0 #[sI (Int32.ofNat cap)] []))
 refine Goes.pre (U' := s₁.setTop (mkF m 1 #[sI (Int32.ofNat cap)] [(.int (Int32.ofNat cap))])) (fun t k => XS.iloadN X0.here hx rfl (hb hby d53_0) rfl k) ?_
 have hc1 : ¬ ((Int32.ofNat cap) < (0 : Int32)) := own_neg _ (by omega)
 refine Goes.pre (U' := s₁.setTop (mkF m 15 #[sI (Int32.ofNat cap)] [(.int (1073741823 : Int32)), (.int (Int32.ofNat cap))])) (fun t k => XS.ifYes X0.here hx rfl (pc0 := 1) (pc' := 12) rfl (hb hby d53_1) rfl ((if0 _ _).trans (flt hc1).2.1) (by decide) (by decide) (XS.iloadN X0.here hx rfl (hb hby d53_12) rfl (X0.ldcInt hx hown (mvT hZ (wq hw 270 rfl)) (g := (mkF m 13 #[sI (Int32.ofNat cap)] [(.int (Int32.ofNat cap))])) rfl (hb hby d53_13) _ k))) ?_
 have hc15 : (Int32.ofNat cap) < (1073741823 : Int32) := own_lt30 _ (by omega)
 refine Goes.pre (U' := s₁.setTop (mkF m 58 #[sI (Int32.ofNat cap)] [(.int ((Int32.ofNat cap) <<< ((1 : Int32) &&& 31)))])) (fun t k => XS.icmpYes X0.here hx rfl (pc0 := 15) (pc' := 55) rfl (hb hby d53_15) rfl (tlt hc15).1 (by decide) (by decide) (XS.iloadN X0.here hx rfl (hb hby d53_55) rfl (XS.iconst X0.here hx rfl (hb hby d53_56) (XS.ishl X0.here hx rfl (hb hby d53_57) rfl k)))) ?_
 refine Goes.ret X0 (v := (some (.int ((Int32.ofNat cap) <<< ((1 : Int32) &&& 31))))) (fun h => by rw [hret] at h; cases h) hlk (by decide) (by decide) e0 (fun fs hr => retI X0 hx hret (hb hby d53_58) hr) ?_
 exact ⟨congrArg (fun z => some (Value.int z)) (own_shl cap (by omega)).symm, N0, rfl⟩
theorem ef_rm_nbfC (m : MethodId) (x0 : Int32) : entryFrame m #[(.int x0)] 1 = mkF m 0 #[sI x0] [] := by first | (simp [entryFrame, mkF, argsToLocals, Value.category]; done) | rfl
def Q_rm_nbfC (Z : State) (cap : Nat) (h0 : Heap) (n0 : Nat) (v : Option Value) (h : Heap) (L : List Loc) : Prop := ∃ (r : Addr) (kr : ClassId), v = some (.ref r) ∧ Fr n0 L ∧ Keep h0 h [] ∧ Exa Z h r "[B" ∧ Arv Z h r kr .byte (Int32.ofNat (2 * cap)) [] (.int (0 : Int32)) ∧ n0 ≤ r ∧ h0.size ≤ r
set_option maxRecDepth 65536 in
set_option maxHeartbeats 40000000 in
theorem rm_nbfC (l : Launch) (Z : State) (a0 : Array Value) (hw : ∀ d ∈ tables_1, d.before a0 Z = true) (ws : List Jvm.Cond) (cap : Nat) (h0 : Heap) (n0 : Nat) (Z0 : n0 ≤ h0.size)  (hc2 : cap ≤ 48) :
  Met l Z M52 jdk_52_method_2_code 1 (some (.array .byte)) ws (Rm 1 1 96 12) #[(.int (Int32.ofNat cap))] h0 (Q_rm_nbfC Z cap h0 n0) := by
 refine met_of (plainFor_of_name pn_java_lang_StringUTF16) (own := "java/lang/StringUTF16") rfl (fun m => ef_rm_nbfC m (Int32.ofNat cap)) ?_
 intro p e s m below meth c s₁ hx hby hml hown hnm hZ X0 e0 hret hlk
 have N0 := Fr.nil n0
 have K0 := Keep.refl h0 []
 show Goes p e below s _ _ _ (s₁.setTop (mkF m 0 #[sI (Int32.ofNat cap)] []))
 refine Goes.pre (U' := s₁.setTop (mkF m 1 #[sI (Int32.ofNat cap)] [(.int (Int32.ofNat cap))])) (fun t k => XS.iloadN X0.here hx rfl (hb hby d52_0) rfl k) ?_
 obtain ⟨_, _, ⟨T1, L1, k1, n1⟩, -, X1, ⟨Lc1, hQ1, l1, y1, z1⟩, st1⟩ := Jvm.LawKit.callS X0 hx (y := M53) hown (mvT hZ (wq hw 267 rfl)) (mvT hZ (wq hw 268 rfl)) (mvT hZ (wq hw 163 rfl)) (mvT hZ (wq hw 269 rfl)) (by decide) (backOf (W := 0) (rm_nblC l Z a0 hw [] cap h0 n0 Z0  hc2) hZ (wq hw 269 rfl) (wq hw 163 rfl) (by decide) (by decide)) (g := (mkF m 1 #[sI (Int32.ofNat cap)] [(.int (Int32.ofNat cap))])) rfl (by rw [hml]; rfl) (argsL := [(.int (Int32.ofNat cap))]) (rest := []) (lenOf pd__28I_29I rfl) rfl (by show 2 * 0 + _ ≤ _; exact Nat.le_of_eq rfl) (hb hby d52_1) (fun _ _ => ⟨rfl, e0, (by decide : 0 + 0 ≤ _), (by decide : 0 + 0 ≤ _)⟩)
 dsimp only [Pt.U, Pt.locs, Pt.cells, Pt.slots] at X1 l1 y1 z1 st1 hQ1
 subst l1 y1 z1
 obtain ⟨rfl, N1q, HQ1⟩ := hQ1
 have N1 := Fr.app N0 N1q
 refine Goes.pre (U' := T1.setTop (mkF m 4 #[sI (Int32.ofNat cap)] [(.int (Int32.ofNat (2 * cap)))])) (fun t k => st1 t k) ?_
 obtain ⟨T2, h2, k2, X2, e2, E2, A2, B2, st2⟩ := newPE X1 hx hZ (wq hw 21 rfl) HQ1 (g := (mkF m 4 #[sI (Int32.ofNat cap)] [(.int (Int32.ofNat (2 * cap)))])) rfl (hb hby d52_4) rfl (own_neg _ (by omega)) (cap := 96) (own_cap _ _ (by omega) (by omega)) (by decide) (by decide) (by decide) (ad := "[B") (by decide)
 obtain ⟨nb2, g2⟩ : ∃ z, z = h0.size := ⟨_, rfl⟩
 rw [← g2] at A2 B2 st2
 have g_nb2 : n0 ≤ nb2 := Nat.le_trans Z0 (Nat.le_of_eq g2.symm)
 have sz_nb2 : h0.size ≤ nb2 := Nat.le_trans K0.1 (Nat.le_of_eq g2.symm)
 have Z2 : n0 ≤ h2.size := Nat.le_trans Z0 E2.1
 have K2 := K0.ext E2
 have E_nb2 := B2
 have V_nb2 : Arv Z h2 nb2 k2 .byte (Int32.ofNat (2 * cap)) [] (.int (0 : Int32)) := Arv.new A2 (own_neg _ (by omega))
 refine Goes.pre (U' := T2.setTop (mkF m 6 #[sI (Int32.ofNat cap)] [(.ref nb2)])) (fun t k => st2 t k) ?_
 refine Goes.ret X2 (v := (some (.ref nb2))) (fun h => by rw [hret] at h; cases h) hlk (by decide) (by decide) e2 (fun fs hr => retOut X2 hx hret rfl (Or.inr (Or.inr (Or.inr (Or.inr ⟨rfl, rfl, rfl⟩)))) (hb hby d52_6) hr) ?_
 exact ⟨nb2, k2, rfl, N1, K2, E_nb2, V_nb2, g_nb2, sz_nb2⟩
theorem own_or0 (x y : Int32) (h1 : ¬ (x < (0 : Int32))) (h2 : ¬ (y < (0 : Int32))) : ¬ ((x ||| y) < (0 : Int32)) := by
  rw [Int32.lt_iff_toInt_lt, show (0 : Int32).toInt = 0 from by decide] at *
  have q := (c_orS x y).1 (by omega) (by omega)
  omega
theorem own_szs (o_ n_ l_ : Nat) (h : o_ + n_ ≤ l_) (hl : l_ ≤ 8192) : ¬ (Int32.ofNat l_ - Int32.ofNat o_ < Int32.ofNat n_) := by
  rw [own_sub o_ l_ (by omega), Int32.lt_iff_toInt_lt, own_ofn _ (by omega), own_ofn _ (by omega)]
  omega
theorem ef_rm_cfis (m : MethodId) (x0 : Int32) (x1 : Int32) (x2 : Int32) (x3 : Value) (hx3 : x3.isRef = true) : entryFrame m #[(.int x0), (.int x1), (.int x2), x3] 4 = mkF m 0 #[sI x0, sI x1, sI x2, .val x3] [] := by rcases ref_cases hx3 with rfl | ⟨_, rfl⟩ <;> first | (simp [entryFrame, mkF, argsToLocals, Value.category]; done) | rfl
abbrev M64 : MethodName := ⟨"jdk/internal/util/Preconditions", "checkFromIndexSize", "(IIILjava/util/function/BiFunction;)I"⟩
theorem d64_0 : decode B64 0 = .ok (.iload_n 2, 1) := by decide +kernel
theorem d64_1 : decode B64 1 = .ok (.iload_n 0, 1) := by decide +kernel
theorem d64_2 : decode B64 2 = .ok (.ior, 1) := by decide +kernel
theorem d64_3 : decode B64 3 = .ok (.iload_n 1, 1) := by decide +kernel
theorem d64_4 : decode B64 4 = .ok (.ior, 1) := by decide +kernel
theorem d64_5 : decode B64 5 = .ok (.ifCond .lt 10, 3) := by decide +kernel
theorem d64_8 : decode B64 8 = .ok (.iload_n 1, 1) := by decide +kernel
theorem d64_9 : decode B64 9 = .ok (.iload_n 2, 1) := by decide +kernel
theorem d64_10 : decode B64 10 = .ok (.iload_n 0, 1) := by decide +kernel
theorem d64_11 : decode B64 11 = .ok (.isub, 1) := by decide +kernel
theorem d64_12 : decode B64 12 = .ok (.if_icmp .le 11, 3) := by decide +kernel
theorem d64_23 : decode B64 23 = .ok (.iload_n 0, 1) := by decide +kernel
theorem d64_24 : decode B64 24 = .ok (.ireturn, 1) := by decide +kernel
def Q_rm_cfis (Z : State) (fo : Nat) (fn : Nat) (fl : Nat) (sf : Value) (h0 : Heap) (n0 : Nat) (v : Option Value) (h : Heap) (L : List Loc) : Prop := v = some (.int (Int32.ofNat fo)) ∧ Fr n0 L ∧ h = h0
set_option maxRecDepth 65536 in
set_option maxHeartbeats 40000000 in
theorem rm_cfis (l : Launch) (Z : State) (a0 : Array Value) (hw : ∀ d ∈ tables_1, d.before a0 Z = true) (ws : List Jvm.Cond) (fo : Nat) (fn : Nat) (fl : Nat) (sf : Value) (h0 : Heap) (n0 : Nat) (Z0 : n0 ≤ h0.size)  (hfs : fo + fn ≤ fl) (hfl : fl ≤ 8192) (hsf : sf.isRef = true) :
  Met l Z M64 jdk_41_method_13_code 4 (some .int) ws (Rm 0 0 0 0) #[(.int (Int32.ofNat fo)), (.int (Int32.ofNat fn)), (.int (Int32.ofNat fl)), sf] h0 (Q_rm_cfis Z fo fn fl sf h0 n0) := by
 refine met_of (plainFor_of_name pn_jdk_internal_util_Preconditions) (own := "jdk/internal/util/Preconditions") rfl (fun m => ef_rm_cfis m (Int32.ofNat fo) (Int32.ofNat fn) (Int32.ofNat fl) sf hsf) ?_
 intro p e s m below meth c s₁ hx hby hml hown hnm hZ X0 e0 hret hlk
 have N0 := Fr.nil n0
 show Goes p e below s _ _ _ (s₁.setTop (mkF m 0 #[sI (Int32.ofNat fo), sI (Int32.ofNat fn), sI (Int32.ofNat fl), .val sf] []))
 refine Goes.pre (U' := s₁.setTop (mkF m 5 #[sI (Int32.ofNat fo), sI (Int32.ofNat fn), sI (Int32.ofNat fl), .val sf] [(.int (((Int32.ofNat fl) ||| (Int32.ofNat fo)) ||| (Int32.ofNat fn)))])) (fun t k => XS.iloadN X0.here hx rfl (hb hby d64_0) rfl (XS.iloadN X0.here hx rfl (hb hby d64_1) rfl (XS.ior X0.here hx rfl (hb hby d64_2) rfl (XS.iloadN X0.here hx rfl (hb hby d64_3) rfl (XS.ior X0.here hx rfl (hb hby d64_4) rfl k))))) ?_
 have hc5 : ¬ ((((Int32.ofNat fl) ||| (Int32.ofNat fo)) ||| (Int32.ofNat fn)) < (0 : Int32)) := (own_or0 _ _ (own_or0 _ _ (own_neg _ (by omega)) (own_neg _ (by omega))) (own_neg _ (by omega)))
 refine Goes.pre (U' := s₁.setTop (mkF m 12 #[sI (Int32.ofNat fo), sI (Int32.ofNat fn), sI (Int32.ofNat fl), .val sf] [(.int ((Int32.ofNat fl) - (Int32.ofNat fo))), (.int (Int32.ofNat fn))])) (fun t k => XS.ifNo X0.here hx rfl (hb hby d64_5) rfl ((if0 _ _).trans (flt hc5).1) (XS.iloadN X0.here hx rfl (hb hby d64_8) rfl (XS.iloadN X0.here hx rfl (hb hby d64_9) rfl (XS.iloadN X0.here hx rfl (hb hby d64_10) rfl (XS.isub X0.here hx rfl (hb hby d64_11) rfl k))))) ?_
 have hc12 : ¬ (((Int32.ofNat fl) - (Int32.ofNat fo)) < (Int32.ofNat fn)) := (own_szs _ _ _ hfs hfl)
 refine Goes.pre (U' := s₁.setTop (mkF m 24 #[sI (Int32.ofNat fo), sI (Int32.ofNat fn), sI (Int32.ofNat fl), .val sf] [(.int (Int32.ofNat fo))])) (fun t k => XS.icmpYes X0.here hx rfl (pc0 := 12) (pc' := 23) rfl (hb hby d64_12) rfl (flt hc12).2.2.2 (by decide) (by decide) (XS.iloadN X0.here hx rfl (hb hby d64_23) rfl k)) ?_
 refine Goes.ret X0 (v := (some (.int (Int32.ofNat fo)))) (fun h => by rw [hret] at h; cases h) hlk (by decide) (by decide) e0 (fun fs hr => retI X0 hx hret (hb hby d64_24) hr) ?_
 exact ⟨rfl, N0, rfl⟩
theorem ef_rm_cboc (m : MethodId) (x0 : Int32) (x1 : Int32) (x2 : Int32) : entryFrame m #[(.int x0), (.int x1), (.int x2)] 3 = mkF m 0 #[sI x0, sI x1, sI x2] [] := by first | (simp [entryFrame, mkF, argsToLocals, Value.category]; done) | rfl
abbrev M63 : MethodName := ⟨"java/lang/String", "checkBoundsOffCount", "(III)I"⟩
theorem d63_0 : decode B63 0 = .ok (.iload_n 0, 1) := by decide +kernel
theorem d63_1 : decode B63 1 = .ok (.iload_n 1, 1) := by decide +kernel
theorem d63_2 : decode B63 2 = .ok (.iload_n 2, 1) := by decide +kernel
theorem d63_3 : decode B63 3 = .ok (.getstatic 1053, 3) := by decide +kernel
theorem d63_6 : decode B63 6 = .ok (.invokestatic 1065, 3) := by decide +kernel
theorem pd__28IIILjava_2futil_2ffunction_2fBiFunction_3b_29I : parseMethodDescriptor "(IIILjava/util/function/BiFunction;)I" = some ⟨[.int, .int, .int, (.object "java/util/function/BiFunction")], some .int⟩ := by decide +kernel
theorem d63_9 : decode B63 9 = .ok (.ireturn, 1) := by decide +kernel
def Q_rm_cboc (Z : State) (fo : Nat) (fn : Nat) (fl : Nat) (sf : Value) (h0 : Heap) (n0 : Nat) (v : Option Value) (h : Heap) (L : List Loc) : Prop := v = some (.int (Int32.ofNat fo)) ∧ Fr n0 L ∧ h = h0
set_option maxRecDepth 65536 in
set_option maxHeartbeats 40000000 in
theorem rm_cboc (l : Launch) (Z : State) (a0 : Array Value) (hw : ∀ d ∈ tables_1, d.before a0 Z = true) (ws : List Jvm.Cond) (fo : Nat) (fn : Nat) (fl : Nat) (sf : Value) (h0 : Heap) (n0 : Nat) (Z0 : n0 ≤ h0.size) (sF : OSF Z sf) (hfs : fo + fn ≤ fl) (hfl : fl ≤ 8192) (hsf : sf.isRef = true) (O : Old Z n0 h0) :
  Met l Z M63 jdk_42_method_157_code 3 (some .int) ws (Rm 1 0 0 15) #[(.int (Int32.ofNat fo)), (.int (Int32.ofNat fn)), (.int (Int32.ofNat fl))] h0 (Q_rm_cboc Z fo fn fl sf h0 n0) := by
 refine met_of (plainFor_of_name pn_java_lang_String) (own := "java/lang/String") rfl (fun m => ef_rm_cboc m (Int32.ofNat fo) (Int32.ofNat fn) (Int32.ofNat fl)) ?_
 intro p e s m below meth c s₁ hx hby hml hown hnm hZ X0 e0 hret hlk
 have N0 := Fr.nil n0
 show Goes p e below s _ _ _ (s₁.setTop (mkF m 0 #[sI (Int32.ofNat fo), sI (Int32.ofNat fn), sI (Int32.ofNat fl)] []))
 refine Goes.pre (U' := s₁.setTop (mkF m 3 #[sI (Int32.ofNat fo), sI (Int32.ofNat fn), sI (Int32.ofNat fl)] [(.int (Int32.ofNat fl)), (.int (Int32.ofNat fn)), (.int (Int32.ofNat fo))])) (fun t k => XS.iloadN X0.here hx rfl (hb hby d63_0) rfl (XS.iloadN X0.here hx rfl (hb hby d63_1) rfl (XS.iloadN X0.here hx rfl (hb hby d63_2) rfl k))) ?_
 obtain ⟨T1, X1, e1, st1⟩ := getS2 X0 hx hZ hown (host := "") (Or.inl (wq hw 156 rfl)) Via.refl e0 (sF.ext O.2) (g := (mkF m 3 #[sI (Int32.ofNat fo), sI (Int32.ofNat fn), sI (Int32.ofNat fl)] [(.int (Int32.ofNat fl)), (.int (Int32.ofNat fn)), (.int (Int32.ofNat fo))])) rfl (hb hby d63_3)
 refine Goes.pre (U' := T1.setTop (mkF m 6 #[sI (Int32.ofNat fo), sI (Int32.ofNat fn), sI (Int32.ofNat fl)] [sf, (.int (Int32.ofNat fl)), (.int (Int32.ofNat fn)), (.int (Int32.ofNat fo))])) (fun t k => st1 t k) ?_
 obtain ⟨_, _, ⟨T2, L2, k2, n2⟩, -, X2, ⟨Lc2, hQ2, l2, y2, z2⟩, st2⟩ := Jvm.LawKit.callS X1 hx (y := M64) hown (mvT hZ (wq hw 308 rfl)) (mvT hZ (wq hw 309 rfl)) (mvT hZ (wq hw 157 rfl)) (mvT hZ (wq hw 310 rfl)) (by decide) (backOf (W := 0) (rm_cfis l Z a0 hw [] fo fn fl sf h0 n0 Z0  hfs hfl hsf) hZ (wq hw 310 rfl) (wq hw 157 rfl) (by decide) (by decide)) (g := (mkF m 6 #[sI (Int32.ofNat fo), sI (Int32.ofNat fn), sI (Int32.ofNat fl)] [sf, (.int (Int32.ofNat fl)), (.int (Int32.ofNat fn)), (.int (Int32.ofNat fo))])) rfl (by rw [hml]; rfl) (argsL := [(.int (Int32.ofNat fo)), (.int (Int32.ofNat fn)), (.int (Int32.ofNat fl)), sf]) (rest := []) (lenOf pd__28IIILjava_2futil_2ffunction_2fBiFunction_3b_29I rfl) rfl (by show 2 * 0 + _ ≤ _; exact Nat.le_of_eq rfl) (hb hby d63_6) (fun _ _ => ⟨rfl, e1, (by decide : 0 + 0 ≤ _), (by decide : 0 + 0 ≤ _)⟩)
 dsimp only [Pt.U, Pt.locs, Pt.cells, Pt.slots] at X2 l2 y2 z2 st2 hQ2
 subst l2 y2 z2
 obtain ⟨rfl, N2q, HQ2⟩ := hQ2
 have N2 := Fr.app N0 N2q
 refine Goes.pre (U' := T2.setTop (mkF m 9 #[sI (Int32.ofNat fo), sI (Int32.ofNat fn), sI (Int32.ofNat fl)] [(.int (Int32.ofNat fo))])) (fun t k => st2 t k) ?_
 refine Goes.ret X2 (v := (some (.int (Int32.ofNat fo)))) (fun h => by rw [hret] at h; cases h) hlk (by decide) (by decide) HQ2 (fun fs hr => retI X2 hx hret (hb hby d63_9) hr) ?_
 exact ⟨rfl, N2, rfl⟩
theorem ef_rm_ucboc (m : MethodId) (x0 : Int32) (x1 : Int32) (x2 : Addr) : entryFrame m #[(.int x0), (.int x1), (.ref x2)] 3 = mkF m 0 #[sI x0, sI x1, sR x2] [] := by first | (simp [entryFrame, mkF, argsToLocals, Value.category]; done) | rfl
abbrev M62 : MethodName := ⟨"java/lang/StringUTF16", "checkBoundsOffCount", "(II[B)V"⟩
theorem d62_0 : decode B62 0 = .ok (.iload_n 0, 1) := by decide +kernel
theorem d62_1 : decode B62 1 = .ok (.iload_n 1, 1) := by decide +kernel
theorem d62_2 : decode B62 2 = .ok (.aload_n 2, 1) := by decide +kernel
theorem d62_3 : decode B62 3 = .ok (.invokestatic 48, 3) := by decide +kernel
theorem d62_6 : decode B62 6 = .ok (.invokestatic 419, 3) := by decide +kernel
theorem pd__28III_29I : parseMethodDescriptor "(III)I" = some ⟨[.int, .int, .int], some .int⟩ := by decide +kernel
theorem d62_9 : decode B62 9 = .ok (.pop, 1) := by decide +kernel
theorem d62_10 : decode B62 10 = .ok (.return_, 1) := by decide +kernel
def Q_rm_ucboc (Z : State) (b : Addr) (kb : ClassId) (cap : Nat) (fo : Nat) (fn : Nat) (vs : List Value) (sf : Value) (h0 : Heap) (n0 : Nat) (v : Option Value) (h : Heap) (L : List Loc) : Prop := v = none ∧ Fr n0 L ∧ h = h0
set_option maxRecDepth 65536 in
set_option maxHeartbeats 40000000 in
theorem rm_ucboc (l : Launch) (Z : State) (a0 : Array Value) (hw : ∀ d ∈ tables_1, d.before a0 Z = true) (ws : List Jvm.Cond) (b : Addr) (kb : ClassId) (cap : Nat) (fo : Nat) (fn : Nat) (vs : List Value) (sf : Value) (h0 : Heap) (n0 : Nat) (Z0 : n0 ≤ h0.size) (V_b : Arv Z h0 b kb .byte (Int32.ofNat (2 * cap)) vs (.int (0 : Int32))) (sF : OSF Z sf) (hc2 : cap ≤ 48) (hfs : fo + fn ≤ cap) (hsf : sf.isRef = true) (O : Old Z n0 h0) :
  Met l Z M62 jdk_52_method_94_code 3 none ws (Rm 2 0 0 29) #[(.int (Int32.ofNat fo)), (.int (Int32.ofNat fn)), (.ref b)] h0 (Q_rm_ucboc Z b kb cap fo fn vs sf h0 n0) := by
 refine met_of (plainFor_of_name pn_java_lang_StringUTF16) (own := "java/lang/StringUTF16") rfl (fun m => ef_rm_ucboc m (Int32.ofNat fo) (Int32.ofNat fn) b) ?_
 intro p e s m below meth c s₁ hx hby hml hown hnm hZ X0 e0 hret hlk
 have N0 := Fr.nil n0
 show Goes p e below s _ _ _ (s₁.setTop (mkF m 0 #[sI (Int32.ofNat fo), sI (Int32.ofNat fn), sR b] []))
 refine Goes.pre (U' := s₁.setTop (mkF m 3 #[sI (Int32.ofNat fo), sI (Int32.ofNat fn), sR b] [(.ref b), (.int (Int32.ofNat fn)), (.int (Int32.ofNat fo))])) (fun t k => XS.iloadN X0.here hx rfl (hb hby d62_0) rfl (XS.iloadN X0.here hx rfl (hb hby d62_1) rfl (XS.aloadN X0.here hx rfl (hb hby d62_2) rfl rfl k))) ?_
 obtain ⟨_, _, ⟨T1, L1, k1, n1⟩, -, X1, ⟨Lc1, hQ1, l1, y1, z1⟩, st1⟩ := Jvm.LawKit.callS X0 hx (y := M58) hown (mvT hZ (wq hw 286 rfl)) (mvT hZ (wq hw 287 rfl)) (mvT hZ (wq hw 163 rfl)) (mvT hZ (wq hw 288 rfl)) (by decide) (backOf (W := 2) (rm_ulenC l Z a0 hw [] b kb cap vs h0 n0 Z0 V_b hc2) hZ (wq hw 288 rfl) (wq hw 163 rfl) (by decide) (by decide)) (g := (mkF m 3 #[sI (Int32.ofNat fo), sI (Int32.ofNat fn), sR b] [(.ref b), (.int (Int32.ofNat fn)), (.int (Int32.ofNat fo))])) rfl (by rw [hml]; rfl) (argsL := [(.ref b)]) (rest := [(.int (Int32.ofNat fn)), (.int (Int32.ofNat fo))]) (lenOf pd__28_5bB_29I rfl) rfl (by show 2 * 0 + _ ≤ _; exact Nat.le_of_eq rfl) (hb hby d62_3) (fun _ _ => ⟨rfl, e0, (by decide : 0 + 0 ≤ _), (by decide : 0 + 0 ≤ _)⟩)
 dsimp only [Pt.U, Pt.locs, Pt.cells, Pt.slots] at X1 l1 y1 z1 st1 hQ1
 subst l1 y1 z1
 obtain ⟨rfl, N1q, HQ1⟩ := hQ1
 have N1 := Fr.app N0 N1q
 refine Goes.pre (U' := T1.setTop (mkF m 6 #[sI (Int32.ofNat fo), sI (Int32.ofNat fn), sR b] [(.int (Int32.ofNat cap)), (.int (Int32.ofNat fn)), (.int (Int32.ofNat fo))])) (fun t k => st1 t k) ?_
 obtain ⟨_, _, ⟨T2, L2, k2, n2⟩, -, X2, ⟨Lc2, hQ2, l2, y2, z2⟩, st2⟩ := Jvm.LawKit.callS X1 hx (y := M63) hown (mvT hZ (wq hw 305 rfl)) (mvT hZ (wq hw 306 rfl)) (mvT hZ (wq hw 8 rfl)) (mvT hZ (wq hw 307 rfl)) (by decide) (backOf (W := 0) (rm_cboc l Z a0 hw [] fo fn cap sf h0 n0 Z0 sF hfs (by omega) hsf O) hZ (wq hw 307 rfl) (wq hw 8 rfl) (by decide) (by decide)) (g := (mkF m 6 #[sI (Int32.ofNat fo), sI (Int32.ofNat fn), sR b] [(.int (Int32.ofNat cap)), (.int (Int32.ofNat fn)), (.int (Int32.ofNat fo))])) rfl (by rw [hml]; rfl) (argsL := [(.int (Int32.ofNat fo)), (.int (Int32.ofNat fn)), (.int (Int32.ofNat cap))]) (rest := []) (lenOf pd__28III_29I rfl) rfl (by show 2 * 0 + _ ≤ _; exact Nat.le_of_eq rfl) (hb hby d62_6) (fun _ _ => ⟨rfl, HQ1, (by decide : 0 + 0 ≤ _), (by decide : 0 + 0 ≤ _)⟩)
 dsimp only [Pt.U, Pt.locs, Pt.cells, Pt.slots] at X2 l2 y2 z2 st2 hQ2
 subst l2 y2 z2
 obtain ⟨rfl, N2q, HQ2⟩ := hQ2
 have N2 := Fr.app N1 N2q
 refine Goes.pre (U' := T2.setTop (mkF m 10 #[sI (Int32.ofNat fo), sI (Int32.ofNat fn), sR b] [])) (fun t k => st2 t (XS.pop X2.here hx rfl (hb hby d62_9) rfl rfl k)) ?_
 refine Goes.ret X2 (v := none) (fun _ => rfl) hlk (by decide) (by decide) HQ2 (fun fs hr => X2.returnOut hx hret (hb hby d62_10) hr) ?_
 exact ⟨rfl, N2, rfl⟩
theorem ef_rm_uinf (m : MethodId) (x0 : Addr) (x1 : Int32) (x2 : Addr) (x3 : Int32) (x4 : Int32) : entryFrame m #[(.ref x0), (.int x1), (.ref x2), (.int x3), (.int x4)] 6 = mkF m 0 #[sR x0, sI x1, sR x2, sI x3, sI x4, .unset] [] := by first | (simp [entryFrame, mkF, argsToLocals, Value.category]; done) | rfl
abbrev M61 : MethodName := ⟨"java/lang/StringUTF16", "inflate", "([BI[BII)V"⟩
theorem d61_0 : decode B61 0 = .ok (.iload_n 3, 1) := by decide +kernel
theorem d61_1 : decode B61 1 = .ok (.iload 4, 2) := by decide +kernel
theorem d61_3 : decode B61 3 = .ok (.aload_n 2, 1) := by decide +kernel
theorem d61_4 : decode B61 4 = .ok (.invokestatic 173, 3) := by decide +kernel
theorem pd__28II_5bB_29V : parseMethodDescriptor "(II[B)V" = some ⟨[.int, .int, (.array .byte)], none⟩ := by decide +kernel
theorem d61_7 : decode B61 7 = .ok (.iconst 0, 1) := by decide +kernel
theorem d61_8 : decode B61 8 = .ok (.istore 5, 2) := by decide +kernel
theorem d61_10 : decode B61 10 = .ok (.iload 5, 2) := by decide +kernel
theorem d61_12 : decode B61 12 = .ok (.iload 4, 2) := by decide +kernel
theorem d61_14 : decode B61 14 = .ok (.if_icmp .ge 27, 3) := by decide +kernel
theorem d61_17 : decode B61 17 = .ok (.aload_n 2, 1) := by decide +kernel
theorem d61_18 : decode B61 18 = .ok (.iload_n 3, 1) := by decide +kernel
theorem d61_19 : decode B61 19 = .ok (.iinc 3 1, 3) := by decide +kernel
theorem d61_22 : decode B61 22 = .ok (.aload_n 0, 1) := by decide +kernel
theorem d61_23 : decode B61 23 = .ok (.iload_n 1, 1) := by decide +kernel
theorem d61_24 : decode B61 24 = .ok (.iinc 1 1, 3) := by decide +kernel
theorem d61_27 : decode B61 27 = .ok (.baload, 1) := by decide +kernel
theorem d61_28 : decode B61 28 = .ok (.sipush 255, 3) := by decide +kernel
theorem d61_31 : decode B61 31 = .ok (.iand, 1) := by decide +kernel
theorem d61_32 : decode B61 32 = .ok (.invokestatic 111, 3) := by decide +kernel
theorem d61_35 : decode B61 35 = .ok (.iinc 5 1, 3) := by decide +kernel
theorem d61_38 : decode B61 38 = .ok (.goto (-28), 3) := by decide +kernel
theorem d61_41 : decode B61 41 = .ok (.return_, 1) := by decide +kernel
def Q_rm_uinf (Z : State) (src : Addr) (ks : ClassId) (ns : Nat) (sl : List Int32) (dst : Addr) (kd : ClassId) (cap : Nat) (cl : List Int32) (sf : Value) (h0 : Heap) (n0 : Nat) (v : Option Value) (h : Heap) (L : List Loc) : Prop := v = none ∧ Fr n0 L ∧ Keep h0 h [dst] ∧ Arv Z h dst kd .byte (Int32.ofNat (2 * cap)) ((cl ++ sl).flatMap fun c => [.int (c >>> ((0 : Int32) &&& 31)).toInt8.toInt32, .int (c >>> ((8 : Int32) &&& 31)).toInt8.toInt32]) (.int (0 : Int32))
set_option maxRecDepth 65536 in
set_option maxHeartbeats 40000000 in
theorem rm_uinf (l : Launch) (Z : State) (a0 : Array Value) (hw : ∀ d ∈ tables_1, d.before a0 Z = true) (ws : List Jvm.Cond) (src : Addr) (ks : ClassId) (ns : Nat) (sl : List Int32) (dst : Addr) (kd : ClassId) (cap : Nat) (cl : List Int32) (sf : Value) (h0 : Heap) (n0 : Nat) (Z0 : n0 ≤ h0.size) (V_src : Arv Z h0 src ks .byte (Int32.ofNat ns) (sl.map fun c => .int c.toInt8.toInt32) (.int (0 : Int32))) (V_dst : Arv Z h0 dst kd .byte (Int32.ofNat (2 * cap)) (cl.flatMap fun c => [.int (c >>> ((0 : Int32) &&& 31)).toInt8.toInt32, .int (c >>> ((8 : Int32) &&& 31)).toInt8.toInt32]) (.int (0 : Int32))) (sA : OAD Z (.int (1 : Int32))) (sH : OHI Z (.int (0 : Int32))) (sL : OLO Z (.int (8 : Int32))) (sF : OSF Z sf) (hns : sl.length ≤ ns) (hns2 : ns ≤ 96) (hc2 : cap ≤ 48) (hsz : cl.length + sl.length ≤ cap) (hcS : ∀ c ∈ sl, OwnCh c) (hleS : ∀ c ∈ sl, ¬ ((255 : Int32) < c)) (hsf : sf.isRef = true) (ne_src_dst : src ≠ dst) (g_dst : n0 ≤ dst) (O : Old Z n0 h0) :
  Met l Z M61 jdk_52_method_86_code 6 none ws (Rm 3 0 0 43) #[(.ref src), (.int (0 : Int32)), (.ref dst), (.int (Int32.ofNat cl.length)), (.int (Int32.ofNat sl.length))] h0 (Q_rm_uinf Z src ks ns sl dst kd cap cl sf h0 n0) := by
 refine met_of (plainFor_of_name pn_java_lang_StringUTF16) (own := "java/lang/StringUTF16") rfl (fun m => ef_rm_uinf m src (0 : Int32) dst (Int32.ofNat cl.length) (Int32.ofNat sl.length)) ?_
 intro p e s m below meth c s₁ hx hby hml hown hnm hZ X0 e0 hret hlk
 have N0 := Fr.nil n0
 have K0 := Keep.refl h0 [dst]
 show Goes p e below s _ _ _ (s₁.setTop (mkF m 0 #[sR src, sI (0 : Int32), sR dst, sI (Int32.ofNat cl.length), sI (Int32.ofNat sl.length), .unset] []))
 refine Goes.pre (U' := s₁.setTop (mkF m 4 #[sR src, sI (0 : Int32), sR dst, sI (Int32.ofNat cl.length), sI (Int32.ofNat sl.length), .unset] [(.ref dst), (.int (Int32.ofNat sl.length)), (.int (Int32.ofNat cl.length))])) (fun t k => XS.iloadN X0.here hx rfl (hb hby d61_0) rfl (XS.iload X0.here hx rfl (hb hby d61_1) rfl (XS.aloadN X0.here hx rfl (hb hby d61_3) rfl rfl k))) ?_
 obtain ⟨_, _, ⟨T1, L1, k1, n1⟩, -, X1, ⟨Lc1, hQ1, l1, y1, z1⟩, st1⟩ := Jvm.LawKit.callS X0 hx (y := M62) hown (mvT hZ (wq hw 302 rfl)) (mvT hZ (wq hw 303 rfl)) (mvT hZ (wq hw 163 rfl)) (mvT hZ (wq hw 304 rfl)) (by decide) (backOf (W := 0) (rm_ucboc l Z a0 hw [] dst kd cap cl.length sl.length (cl.flatMap fun c => [.int (c >>> ((0 : Int32) &&& 31)).toInt8.toInt32, .int (c >>> ((8 : Int32) &&& 31)).toInt8.toInt32]) sf h0 n0 Z0 V_dst sF hc2 hsz hsf O) hZ (wq hw 304 rfl) (wq hw 163 rfl) (by decide) (by decide)) (g := (mkF m 4 #[sR src, sI (0 : Int32), sR dst, sI (Int32.ofNat cl.length), sI (Int32.ofNat sl.length), .unset] [(.ref dst), (.int (Int32.ofNat sl.length)), (.int (Int32.ofNat cl.length))])) rfl (by rw [hml]; rfl) (argsL := [(.int (Int32.ofNat cl.length)), (.int (Int32.ofNat sl.length)), (.ref dst)]) (rest := []) (lenOf pd__28II_5bB_29V rfl) rfl (by show 2 * 0 + _ ≤ _; exact Nat.le_of_eq rfl) (hb hby d61_4) (fun _ _ => ⟨rfl, e0, (by decide : 0 + 0 ≤ _), (by decide : 0 + 0 ≤ _)⟩)
 dsimp only [Pt.U, Pt.locs, Pt.cells, Pt.slots] at X1 l1 y1 z1 st1 hQ1
 subst l1 y1 z1
 obtain ⟨rfl, N1q, HQ1⟩ := hQ1
 have N1 := Fr.app N0 N1q
 refine Goes.pre (U' := T1.setTop (mkF m 10 #[sR src, sI (0 : Int32), sR dst, sI (Int32.ofNat cl.length), sI (Int32.ofNat sl.length), sI (0 : Int32)] [])) (fun t k => st1 t (XS.iconst X1.here hx rfl (hb hby d61_7) (XS.istore X1.here hx rfl (hb hby d61_8) rfl (l' := #[sR src, sI (0 : Int32), sR dst, sI (Int32.ofNat cl.length), sI (Int32.ofNat sl.length), sI (0 : Int32)]) rfl k))) ?_
 have V_dst : Arv Z h0 dst kd .byte (Int32.ofNat (2 * cap)) ((cl ++ sl.take 0).flatMap fun c => [.int (c >>> ((0 : Int32) &&& 31)).toInt8.toInt32, .int (c >>> ((8 : Int32) &&& 31)).toInt8.toInt32]) (.int (0 : Int32)) := by rw [List.take_zero, List.append_nil]; exact V_dst
 have J10_2 : ∀ (kk : Nat) (i : Nat) (hi : i ≤ sl.length) (hm : sl.length - i = kk) (T2 : State) (h2 : Heap) (lc2 : List Loc), Stand p l e (Rm 3 0 0 43) s m #[(.ref src), (.int (0 : Int32)), (.ref dst), (.int (Int32.ofNat cl.length)), (.int (Int32.ofNat sl.length))] below meth c T2 lc2 0 0 → T2.heap = h2 → Fr n0 lc2 → n0 ≤ h2.size → Keep h0 h2 [dst] → Old Z n0 h2 → Arv Z h2 src ks .byte (Int32.ofNat ns) (sl.map fun c => .int c.toInt8.toInt32) (.int (0 : Int32)) → Arv Z h2 dst kd .byte (Int32.ofNat (2 * cap)) ((cl ++ sl.take i).flatMap fun c => [.int (c >>> ((0 : Int32) &&& 31)).toInt8.toInt32, .int (c >>> ((8 : Int32) &&& 31)).toInt8.toInt32]) (.int (0 : Int32)) → Goes p e below s (Q_rm_uinf Z src ks ns sl dst kd cap cl sf h0 n0) (Rm 3 0 0 43).cells (Rm 3 0 0 43).slots (T2.setTop (mkF m 10 #[sR src, sI (Int32.ofNat i), sR dst, .val (.int (Int32.ofNat (cl.length + i))), sI (Int32.ofNat sl.length), sI (Int32.ofNat i)] [])) := by
  intro kk
  induction kk using Nat.strongRecOn with
  | ind kk ih =>
   intro i hi hm T2 h2 lc2 X2 e2 N2 Z2 K2 O V_src V_dst
   refine Goes.pre (U' := T2.setTop (mkF m 14 #[sR src, sI (Int32.ofNat i), sR dst, .val (.int (Int32.ofNat (cl.length + i))), sI (Int32.ofNat sl.length), sI (Int32.ofNat i)] [(.int (Int32.ofNat sl.length)), (.int (Int32.ofNat i))])) (fun t k => XS.iload X2.here hx rfl (hb hby d61_10) rfl (XS.iload X2.here hx rfl (hb hby d61_12) rfl k)) ?_
   by_cases hc14 : (Int32.ofNat i) < (Int32.ofNat sl.length)
   ·
    refine Goes.pre (U' := T2.setTop (mkF m 27 #[sR src, .val (.int ((Int32.ofNat i) + (1 : Int32))), sR dst, .val (.int ((Int32.ofNat (cl.length + i)) + (1 : Int32))), sI (Int32.ofNat sl.length), sI (Int32.ofNat i)] [(.int (Int32.ofNat i)), (.ref src), (.int (Int32.ofNat (cl.length + i))), (.ref dst)])) (fun t k => XS.icmpNo X2.here hx rfl (hb hby d61_14) rfl (tlt hc14).2.1 (XS.aloadN X2.here hx rfl (hb hby d61_17) rfl rfl (XS.iloadN X2.here hx rfl (hb hby d61_18) rfl (XT.iincV X2.here hx rfl (1 : Int32) (hb hby d61_19) (by decide) rfl (l' := #[sR src, sI (Int32.ofNat i), sR dst, .val (.int ((Int32.ofNat (cl.length + i)) + (1 : Int32))), sI (Int32.ofNat sl.length), sI (Int32.ofNat i)]) rfl (XS.aloadN X2.here hx rfl (hb hby d61_22) rfl rfl (XS.iloadN X2.here hx rfl (hb hby d61_23) rfl (XT.iincV X2.here hx rfl (1 : Int32) (hb hby d61_24) (by decide) rfl (l' := #[sR src, .val (.int ((Int32.ofNat i) + (1 : Int32))), sR dst, .val (.int ((Int32.ofNat (cl.length + i)) + (1 : Int32))), sI (Int32.ofNat sl.length), sI (Int32.ofNat i)]) rfl k))))))) ?_
    obtain ⟨cl3, Ar3, q3, Sz3, Ng3, Hs3, Ft3⟩ := id V_src
    have hin3 := inb_of (j := (Int32.ofNat i)) Sz3 (own_ix i ns (Nat.lt_of_lt_of_le (own_lti _ _ hc14 hi (by omega)) hns) (by omega))
    refine Goes.pre (U' := T2.setTop (mkF m 32 #[sR src, .val (.int ((Int32.ofNat i) + (1 : Int32))), sR dst, .val (.int ((Int32.ofNat (cl.length + i)) + (1 : Int32))), sI (Int32.ofNat sl.length), sI (Int32.ofNat i)] [(.int ((sl.getD i 0).toInt8.toInt32 &&& (255 : Int32))), (.int (Int32.ofNat (cl.length + i))), (.ref dst)])) (fun t k => X2.baloadBytes hx (j := (Int32.ofNat i)) (v := (.int (sl.getD i 0).toInt8.toInt32)) (by rw [e2]; exact Ar3.1) (State.isArrayOf_alike hZ.alike Ar3.2.1) Ar3.2.2 hin3 (Has.at Hs3 hin3 (own_atL2 sl i (own_lti _ _ hc14 hi (by omega)) (by omega))) (g := (mkF m 27 #[sR src, .val (.int ((Int32.ofNat i) + (1 : Int32))), sR dst, .val (.int ((Int32.ofNat (cl.length + i)) + (1 : Int32))), sI (Int32.ofNat sl.length), sI (Int32.ofNat i)] [(.int (Int32.ofNat i)), (.ref src), (.int (Int32.ofNat (cl.length + i))), (.ref dst)])) rfl rfl (hb hby d61_27) _ (XS.sipush X2.here hx rfl (hb hby d61_28) (XS.iand X2.here hx rfl (hb hby d61_31) rfl k))) ?_
    rw [own_l255 _ (hcS _ (own_gmem sl i (own_lti _ _ hc14 hi (by omega)))) (hleS _ (own_gmem sl i (own_lti _ _ hc14 hi (by omega))))]
    obtain ⟨_, _, ⟨T4, L4, k4, n4⟩, -, X4, ⟨Lc4, hQ4, l4, y4, z4⟩, st4⟩ := Jvm.LawKit.callS X2 hx (y := M54) hown (mvT hZ (wq hw 271 rfl)) (mvT hZ (wq hw 272 rfl)) (mvT hZ (wq hw 163 rfl)) (mvT hZ (wq hw 273 rfl)) (by decide) (backOf (W := 0) (rm_putG l Z a0 hw [] dst kd ((cl ++ sl.take i).flatMap fun c => [.int (c >>> ((0 : Int32) &&& 31)).toInt8.toInt32, .int (c >>> ((8 : Int32) &&& 31)).toInt8.toInt32]) (2 * cap) (sl.getD i 0) (cl.length + i) h2 n0 Z2 V_dst sA sH sL (by rw [own_fm2, List.length_append, List.length_take, Nat.min_eq_left hi]) (by have := (own_lti _ _ hc14 hi (by omega)); omega) (by omega) g_dst O) hZ (wq hw 273 rfl) (wq hw 163 rfl) (by decide) (by decide)) (g := (mkF m 32 #[sR src, .val (.int ((Int32.ofNat i) + (1 : Int32))), sR dst, .val (.int ((Int32.ofNat (cl.length + i)) + (1 : Int32))), sI (Int32.ofNat sl.length), sI (Int32.ofNat i)] [(.int (sl.getD i 0)), (.int (Int32.ofNat (cl.length + i))), (.ref dst)])) rfl (by rw [hml]; rfl) (argsL := [(.ref dst), (.int (Int32.ofNat (cl.length + i))), (.int (sl.getD i 0))]) (rest := []) (lenOf pd__28_5bBII_29V rfl) rfl (by show 2 * 0 + _ ≤ _; exact Nat.le_of_eq rfl) (hb hby d61_32) (fun _ _ => ⟨rfl, e2, (by decide : 0 + 0 ≤ _), (by decide : 0 + 0 ≤ _)⟩)
    dsimp only [Pt.U, Pt.locs, Pt.cells, Pt.slots] at X4 l4 y4 z4 st4 hQ4
    subst l4 y4 z4
    obtain ⟨rfl, N4q, KQ4, fo0_4⟩ := hQ4
    have N4 := Fr.app N2 N4q
    have V_src := V_src.keep KQ4 (ninS ne_src_dst nin0)
    have Z5 : n0 ≤ T4.heap.size := Nat.le_trans Z2 KQ4.1
    have O := O.keep KQ4 (allS (P := fun x => n0 ≤ x) g_dst all0)
    have K5 := K2.trans KQ4 (allS (P := fun x => x ∈ [dst] ∨ h0.size ≤ x) (Or.inl (List.mem_of_getElem? (i := 0) rfl)) all0)
    have V_dst := fo0_4
    refine Goes.pre (U' := T4.setTop (mkF m 38 #[sR src, .val (.int ((Int32.ofNat i) + (1 : Int32))), sR dst, .val (.int ((Int32.ofNat (cl.length + i)) + (1 : Int32))), sI (Int32.ofNat sl.length), .val (.int ((Int32.ofNat i) + (1 : Int32)))] [])) (fun t k => st4 t (XT.iincV X4.here hx rfl (1 : Int32) (hb hby d61_35) (by decide) rfl (l' := #[sR src, .val (.int ((Int32.ofNat i) + (1 : Int32))), sR dst, .val (.int ((Int32.ofNat (cl.length + i)) + (1 : Int32))), sI (Int32.ofNat sl.length), .val (.int ((Int32.ofNat i) + (1 : Int32)))]) rfl k)) ?_
    rw [own_inc, own_inc]
    have V_dst : Arv Z T4.heap dst kd .byte (Int32.ofNat (2 * cap)) ((cl ++ sl.take (i + 1)).flatMap fun c => [.int (c >>> ((0 : Int32) &&& 31)).toInt8.toInt32, .int (c >>> ((8 : Int32) &&& 31)).toInt8.toInt32]) (.int (0 : Int32)) := by rw [← own_tks sl i (own_lti _ _ hc14 hi (by omega)), ← List.append_assoc, List.flatMap_append]; simpa using V_dst
    refine Goes.pre (U' := T4.setTop (mkF m 10 #[sR src, .val (.int (Int32.ofNat (i + 1))), sR dst, .val (.int (Int32.ofNat (cl.length + i + 1))), sI (Int32.ofNat sl.length), .val (.int (Int32.ofNat (i + 1)))] [])) (fun t k => XS.goto X4.here hx rfl (pc0 := 38) (pc' := 10) rfl (hb hby d61_38) (by decide) (by decide) k) ?_
    exact ih _ (by have := (own_lti _ _ hc14 hi (by omega)); omega) (i + 1) (own_lti _ _ hc14 hi (by omega)) rfl _ _ _ X4 rfl N4 Z5 K5 O V_src V_dst
   ·
    refine Goes.pre (U' := T2.setTop (mkF m 41 #[sR src, sI (Int32.ofNat i), sR dst, .val (.int (Int32.ofNat (cl.length + i))), sI (Int32.ofNat sl.length), sI (Int32.ofNat i)] [])) (fun t k => XS.icmpYes X2.here hx rfl (pc0 := 14) (pc' := 41) rfl (hb hby d61_14) rfl (flt hc14).2.1 (by decide) (by decide) k) ?_
    refine Goes.ret X2 (v := none) (fun _ => rfl) hlk (by decide) (by decide) e2 (fun fs hr => X2.returnOut hx hret (hb hby d61_41) hr) ?_
    obtain rfl := own_nlti _ _ hc14 hi (by omega)
    rw [List.take_length] at V_dst
    exact ⟨rfl, N2, K2, V_dst⟩
 exact J10_2 _ 0 (Nat.zero_le _) rfl _ _ _ X1 HQ1 N1 Z0 K0 O V_src V_dst
theorem ef_rm_linf (m : MethodId) (x0 : Addr) (x1 : Int32) (x2 : Addr) (x3 : Int32) (x4 : Int32) : entryFrame m #[(.ref x0), (.int x1), (.ref x2), (.int x3), (.int x4)] 5 = mkF m 0 #[sR x0, sI x1, sR x2, sI x3, sI x4] [] := by first | (simp [entryFrame, mkF, argsToLocals, Value.category]; done) | rfl
abbrev M60 : MethodName := ⟨"java/lang/StringLatin1", "inflate", "([BI[BII)V"⟩
theorem d60_0 : decode B60 0 = .ok (.aload_n 0, 1) := by decide +kernel
theorem d60_1 : decode B60 1 = .ok (.iload_n 1, 1) := by decide +kernel
theorem d60_2 : decode B60 2 = .ok (.aload_n 2, 1) := by decide +kernel
theorem d60_3 : decode B60 3 = .ok (.iload_n 3, 1) := by decide +kernel
theorem d60_4 : decode B60 4 = .ok (.iload 4, 2) := by decide +kernel
theorem d60_6 : decode B60 6 = .ok (.invokestatic 240, 3) := by decide +kernel
theorem pd__28_5bBI_5bBII_29V : parseMethodDescriptor "([BI[BII)V" = some ⟨[(.array .byte), .int, (.array .byte), .int, .int], none⟩ := by decide +kernel
theorem d60_9 : decode B60 9 = .ok (.return_, 1) := by decide +kernel
def Q_rm_linf (Z : State) (src : Addr) (ks : ClassId) (ns : Nat) (sl : List Int32) (dst : Addr) (kd : ClassId) (cap : Nat) (cl : List Int32) (sf : Value) (h0 : Heap) (n0 : Nat) (v : Option Value) (h : Heap) (L : List Loc) : Prop := v = none ∧ Fr n0 L ∧ Keep h0 h [dst] ∧ Arv Z h dst kd .byte (Int32.ofNat (2 * cap)) ((cl ++ sl).flatMap fun c => [.int (c >>> ((0 : Int32) &&& 31)).toInt8.toInt32, .int (c >>> ((8 : Int32) &&& 31)).toInt8.toInt32]) (.int (0 : Int32))
set_option maxRecDepth 65536 in
set_option maxHeartbeats 40000000 in
theorem rm_linf (l : Launch) (Z : State) (a0 : Array Value) (hw : ∀ d ∈ tables_1, d.before a0 Z = true) (ws : List Jvm.Cond) (src : Addr) (ks : ClassId) (ns : Nat) (sl : List Int32) (dst : Addr) (kd : ClassId) (cap : Nat) (cl : List Int32) (sf : Value) (h0 : Heap) (n0 : Nat) (Z0 : n0 ≤ h0.size) (V_src : Arv Z h0 src ks .byte (Int32.ofNat ns) (sl.map fun c => .int c.toInt8.toInt32) (.int (0 : Int32))) (V_dst : Arv Z h0 dst kd .byte (Int32.ofNat (2 * cap)) (cl.flatMap fun c => [.int (c >>> ((0 : Int32) &&& 31)).toInt8.toInt32, .int (c >>> ((8 : Int32) &&& 31)).toInt8.toInt32]) (.int (0 : Int32))) (sA : OAD Z (.int (1 : Int32))) (sH : OHI Z (.int (0 : Int32))) (sL : OLO Z (.int (8 : Int32))) (sF : OSF Z sf) (hns : sl.length ≤ ns) (hns2 : ns ≤ 96) (hc2 : cap ≤ 48) (hsz : cl.length + sl.length ≤ cap) (hcS : ∀ c ∈ sl, OwnCh c) (hleS : ∀ c ∈ sl, ¬ ((255 : Int32) < c)) (hsf : sf.isRef = true) (ne_src_dst : src ≠ dst) (g_dst : n0 ≤ dst) (O : Old Z n0 h0) :
  Met l Z M60 jdk_43_method_50_code 5 none ws (Rm 4 0 0 60) #[(.ref src), (.int (0 : Int32)), (.ref dst), (.int (Int32.ofNat cl.length)), (.int (Int32.ofNat sl.length))] h0 (Q_rm_linf Z src ks ns sl dst kd cap cl sf h0 n0) := by
 refine met_of (plainFor_of_name pn_java_lang_StringLatin1) (own := "java/lang/StringLatin1") rfl (fun m => ef_rm_linf m src (0 : Int32) dst (Int32.ofNat cl.length) (Int32.ofNat sl.length)) ?_
 intro p e s m below meth c s₁ hx hby hml hown hnm hZ X0 e0 hret hlk
 have N0 := Fr.nil n0
 have K0 := Keep.refl h0 [dst]
 show Goes p e below s _ _ _ (s₁.setTop (mkF m 0 #[sR src, sI (0 : Int32), sR dst, sI (Int32.ofNat cl.length), sI (Int32.ofNat sl.length)] []))
 refine Goes.pre (U' := s₁.setTop (mkF m 6 #[sR src, sI (0 : Int32), sR dst, sI (Int32.ofNat cl.length), sI (Int32.ofNat sl.length)] [(.int (Int32.ofNat sl.length)), (.int (Int32.ofNat cl.length)), (.ref dst), (.int (0 : Int32)), (.ref src)])) (fun t k => XS.aloadN X0.here hx rfl (hb hby d60_0) rfl rfl (XS.iloadN X0.here hx rfl (hb hby d60_1) rfl (XS.aloadN X0.here hx rfl (hb hby d60_2) rfl rfl (XS.iloadN X0.here hx rfl (hb hby d60_3) rfl (XS.iload X0.here hx rfl (hb hby d60_4) rfl k))))) ?_
 obtain ⟨_, _, ⟨T1, L1, k1, n1⟩, -, X1, ⟨Lc1, hQ1, l1, y1, z1⟩, st1⟩ := Jvm.LawKit.callS X0 hx (y := M61) hown (mvT hZ (wq hw 299 rfl)) (mvT hZ (wq hw 300 rfl)) (mvT hZ (wq hw 163 rfl)) (mvT hZ (wq hw 301 rfl)) (by decide) (backOf (W := 0) (rm_uinf l Z a0 hw [] src ks ns sl dst kd cap cl sf h0 n0 Z0 V_src V_dst sA sH sL sF hns hns2 hc2 hsz hcS hleS hsf ne_src_dst g_dst O) hZ (wq hw 301 rfl) (wq hw 163 rfl) (by decide) (by decide)) (g := (mkF m 6 #[sR src, sI (0 : Int32), sR dst, sI (Int32.ofNat cl.length), sI (Int32.ofNat sl.length)] [(.int (Int32.ofNat sl.length)), (.int (Int32.ofNat cl.length)), (.ref dst), (.int (0 : Int32)), (.ref src)])) rfl (by rw [hml]; rfl) (argsL := [(.ref src), (.int (0 : Int32)), (.ref dst), (.int (Int32.ofNat cl.length)), (.int (Int32.ofNat sl.length))]) (rest := []) (lenOf pd__28_5bBI_5bBII_29V rfl) rfl (by show 2 * 0 + _ ≤ _; exact Nat.le_of_eq rfl) (hb hby d60_6) (fun _ _ => ⟨rfl, e0, (by decide : 0 + 0 ≤ _), (by decide : 0 + 0 ≤ _)⟩)
 dsimp only [Pt.U, Pt.locs, Pt.cells, Pt.slots] at X1 l1 y1 z1 st1 hQ1
 subst l1 y1 z1
 obtain ⟨rfl, N1q, KQ1, fo0_1⟩ := hQ1
 have N1 := Fr.app N0 N1q
 have V_src := V_src.keep KQ1 (ninS ne_src_dst nin0)
 have Z2 : n0 ≤ T1.heap.size := Nat.le_trans Z0 KQ1.1
 have O := O.keep KQ1 (allS (P := fun x => n0 ≤ x) g_dst all0)
 have K2 := K0.trans KQ1 (allS (P := fun x => x ∈ [dst] ∨ h0.size ≤ x) (Or.inl (List.mem_of_getElem? (i := 0) rfl)) all0)
 have V_dst := fo0_1
 refine Goes.pre (U' := T1.setTop (mkF m 9 #[sR src, sI (0 : Int32), sR dst, sI (Int32.ofNat cl.length), sI (Int32.ofNat sl.length)] [])) (fun t k => st1 t k) ?_
 refine Goes.ret X1 (v := none) (fun _ => rfl) hlk (by decide) (by decide) rfl (fun fs hr => X1.returnOut hx hret (hb hby d60_9) hr) ?_
 exact ⟨rfl, N1, K2, V_dst⟩
theorem ef_rm_aL0 (m : MethodId) (x0 : Addr) : entryFrame m #[(.ref x0)] 1 = mkF m 0 #[sR x0] [] := by first | (simp [entryFrame, mkF, argsToLocals, Value.category]; done) | rfl
theorem pn_java_lang_AbstractStringBuilder : plainName "java/lang/AbstractStringBuilder" = true := by first | (simp [plainName, overriddenIn]; done) | decide +kernel
abbrev M13 : MethodName := ⟨"java/lang/AbstractStringBuilder", "isLatin1", "()Z"⟩
theorem d13_0 : decode B13 0 = .ok (.getstatic 18, 3) := by decide +kernel
theorem d13_3 : decode B13 3 = .ok (.ifCond .eq 14, 3) := by decide +kernel
theorem d13_6 : decode B13 6 = .ok (.aload_n 0, 1) := by decide +kernel
theorem d13_7 : decode B13 7 = .ok (.getfield 22, 3) := by decide +kernel
theorem d13_10 : decode B13 10 = .ok (.ifCond .ne 7, 3) := by decide +kernel
theorem d13_13 : decode B13 13 = .ok (.iconst 1, 1) := by decide +kernel
theorem d13_14 : decode B13 14 = .ok (.goto 4, 3) := by decide +kernel
theorem d13_18 : decode B13 18 = .ok (.ireturn, 1) := by decide +kernel
def Q_rm_aL0 (Z : State) (a : Addr) (cs : Int32) (h0 : Heap) (n0 : Nat) (v : Option Value) (h : Heap) (L : List Loc) : Prop := v = some (.int (1 : Int32)) ∧ Fr n0 L ∧ h = h0
set_option maxRecDepth 65536 in
set_option maxHeartbeats 40000000 in
theorem rm_aL0 (l : Launch) (Z : State) (a0 : Array Value) (hw : ∀ d ∈ tables_1, d.before a0 Z = true) (ws : List Jvm.Cond) (a : Addr) (cs : Int32) (h0 : Heap) (n0 : Nat) (Z0 : n0 ≤ h0.size) (sC : OCS Z (.int cs)) (Fc_a : Fld Z h0 a "java/lang/AbstractStringBuilder" "coder" "B" (.int (0 : Int32))) (hcs : ¬ (cs = (0 : Int32))) (O : Old Z n0 h0) :
  Met l Z M13 jdk_68_method_68_code 1 (some .boolean) ws (Rm 0 0 0 0) #[(.ref a)] h0 (Q_rm_aL0 Z a cs h0 n0) := by
 refine met_of (plainFor_of_name pn_java_lang_AbstractStringBuilder) (own := "java/lang/AbstractStringBuilder") rfl (fun m => ef_rm_aL0 m a) ?_
 intro p e s m below meth c s₁ hx hby hml hown hnm hZ X0 e0 hret hlk
 have N0 := Fr.nil n0
 show Goes p e below s _ _ _ (s₁.setTop (mkF m 0 #[sR a] []))
 obtain ⟨T1, X1, e1, st1⟩ := getS2 X0 hx hZ hown (host := "") (Or.inl (wq hw 56 rfl)) Via.refl e0 (sC.ext O.2) (g := (mkF m 0 #[sR a] [])) rfl (hb hby d13_0)
 refine Goes.pre (U' := T1.setTop (mkF m 3 #[sR a] [(.int cs)])) (fun t k => st1 t k) ?_
 have hc3 : ¬ (cs = (0 : Int32)) := hcs
 refine Goes.pre (U' := T1.setTop (mkF m 7 #[sR a] [(.ref a)])) (fun t k => XS.ifNo X1.here hx rfl (hb hby d13_3) rfl ((if0 _ _).trans (feq hc3).1) (XS.aloadN X1.here hx rfl (hb hby d13_6) rfl rfl k)) ?_
 obtain ⟨T2, X2, e2, st2⟩ := getF X1 hx hZ hown (host := "") (Or.inl (wq hw 59 rfl)) Via.refl e1 Fc_a (g := (mkF m 7 #[sR a] [(.ref a)])) rfl rfl (hb hby d13_7)
 refine Goes.pre (U' := T2.setTop (mkF m 10 #[sR a] [(.int (0 : Int32))])) (fun t k => st2 t k) ?_
 have hc10 : (0 : Int32) = (0 : Int32) := rfl
 refine Goes.pre (U' := T2.setTop (mkF m 18 #[sR a] [(.int (1 : Int32))])) (fun t k => XS.ifNo X2.here hx rfl (hb hby d13_10) rfl ((if0 _ _).trans (teq hc10).2) (XS.iconst X2.here hx rfl (hb hby d13_13) (XS.goto X2.here hx rfl (pc0 := 14) (pc' := 18) rfl (hb hby d13_14) (by decide) (by decide) k))) ?_
 refine Goes.ret X2 (v := (some (.int (1 : Int32)))) (fun h => by rw [hret] at h; cases h) hlk (by decide) (by decide) e2 (fun fs hr => retN X2 hx (t := .boolean) hret (by simp) (hb hby d13_18) hr) ?_
 exact ⟨rfl, N0, rfl⟩
theorem ef_rm_nc0 (m : MethodId) (x0 : Addr) (x1 : Int32) : entryFrame m #[(.ref x0), (.int x1)] 6 = mkF m 0 #[sR x0, sI x1, .unset, .unset, .unset, .unset] [] := by first | (simp [entryFrame, mkF, argsToLocals, Value.category]; done) | rfl
abbrev M44 : MethodName := ⟨"java/lang/AbstractStringBuilder", "newCapacity", "(I)I"⟩
theorem d44_0 : decode B44 0 = .ok (.aload_n 0, 1) := by decide +kernel
theorem d44_1 : decode B44 1 = .ok (.getfield 15, 3) := by decide +kernel
theorem d44_4 : decode B44 4 = .ok (.arraylength, 1) := by decide +kernel
theorem d44_5 : decode B44 5 = .ok (.istore_n 2, 1) := by decide +kernel
theorem d44_6 : decode B44 6 = .ok (.iload_n 1, 1) := by decide +kernel
theorem d44_7 : decode B44 7 = .ok (.aload_n 0, 1) := by decide +kernel
theorem d44_8 : decode B44 8 = .ok (.getfield 22, 3) := by decide +kernel
theorem d44_11 : decode B44 11 = .ok (.ishl, 1) := by decide +kernel
theorem d44_12 : decode B44 12 = .ok (.istore_n 3, 1) := by decide +kernel
theorem d44_13 : decode B44 13 = .ok (.iload_n 3, 1) := by decide +kernel
theorem d44_14 : decode B44 14 = .ok (.iload_n 2, 1) := by decide +kernel
theorem d44_15 : decode B44 15 = .ok (.isub, 1) := by decide +kernel
theorem d44_16 : decode B44 16 = .ok (.istore 4, 2) := by decide +kernel
theorem d44_18 : decode B44 18 = .ok (.iload_n 2, 1) := by decide +kernel
theorem d44_19 : decode B44 19 = .ok (.iload 4, 2) := by decide +kernel
theorem d44_21 : decode B44 21 = .ok (.iload_n 2, 1) := by decide +kernel
theorem d44_22 : decode B44 22 = .ok (.iconst 2, 1) := by decide +kernel
theorem d44_23 : decode B44 23 = .ok (.aload_n 0, 1) := by decide +kernel
theorem d44_24 : decode B44 24 = .ok (.getfield 22, 3) := by decide +kernel
theorem d44_27 : decode B44 27 = .ok (.ishl, 1) := by decide +kernel
theorem d44_28 : decode B44 28 = .ok (.iadd, 1) := by decide +kernel
theorem d44_29 : decode B44 29 = .ok (.invokestatic 114, 3) := by decide +kernel
theorem d44_32 : decode B44 32 = .ok (.istore 5, 2) := by decide +kernel
theorem d44_34 : decode B44 34 = .ok (.iload 5, 2) := by decide +kernel
theorem d44_36 : decode B44 36 = .ok (.ldc 39, 2) := by decide +kernel
theorem d44_38 : decode B44 38 = .ok (.if_icmp .ne 13, 3) := by decide +kernel
theorem d44_51 : decode B44 51 = .ok (.iload 5, 2) := by decide +kernel
theorem d44_53 : decode B44 53 = .ok (.aload_n 0, 1) := by decide +kernel
theorem d44_54 : decode B44 54 = .ok (.getfield 22, 3) := by decide +kernel
theorem d44_57 : decode B44 57 = .ok (.ishr, 1) := by decide +kernel
theorem d44_58 : decode B44 58 = .ok (.ireturn, 1) := by decide +kernel
def Q_rm_nc0 (Z : State) (a : Addr) (b : Addr) (kb : ClassId) (cap : Nat) (kk : Nat) (vs : List Value) (h0 : Heap) (n0 : Nat) (v : Option Value) (h : Heap) (L : List Loc) : Prop := v = some (.int (Int32.ofNat (own_nc cap kk))) ∧ Fr n0 L ∧ h = h0
set_option maxRecDepth 65536 in
set_option maxHeartbeats 40000000 in
theorem rm_nc0 (l : Launch) (Z : State) (a0 : Array Value) (hw : ∀ d ∈ tables_1, d.before a0 Z = true) (ws : List Jvm.Cond) (a : Addr) (b : Addr) (kb : ClassId) (cap : Nat) (kk : Nat) (vs : List Value) (h0 : Heap) (n0 : Nat) (Z0 : n0 ≤ h0.size) (Fv_a : Fld Z h0 a "java/lang/AbstractStringBuilder" "value" "[B" (.ref b)) (Fc_a : Fld Z h0 a "java/lang/AbstractStringBuilder" "coder" "B" (.int (0 : Int32))) (V_b : Arv Z h0 b kb .byte (Int32.ofNat cap) vs (.int (0 : Int32))) (hc2 : cap ≤ 48) (hk2 : kk ≤ 24) (hlt : cap < kk) :
  Met l Z M44 jdk_68_method_10_code 6 (some .int) ws (Rm 2 0 0 29) #[(.ref a), (.int (Int32.ofNat kk))] h0 (Q_rm_nc0 Z a b kb cap kk vs h0 n0) := by
 refine met_of (plainFor_of_name pn_java_lang_AbstractStringBuilder) (own := "java/lang/AbstractStringBuilder") rfl (fun m => ef_rm_nc0 m a (Int32.ofNat kk)) ?_
 intro p e s m below meth c s₁ hx hby hml hown hnm hZ X0 e0 hret hlk
 have N0 := Fr.nil n0
 show Goes p e below s _ _ _ (s₁.setTop (mkF m 0 #[sR a, sI (Int32.ofNat kk), .unset, .unset, .unset, .unset] []))
 refine Goes.pre (U' := s₁.setTop (mkF m 1 #[sR a, sI (Int32.ofNat kk), .unset, .unset, .unset, .unset] [(.ref a)])) (fun t k => XS.aloadN X0.here hx rfl (hb hby d44_0) rfl rfl k) ?_
 obtain ⟨T1, X1, e1, st1⟩ := getF X0 hx hZ hown (host := "") (Or.inl (wq hw 57 rfl)) Via.refl e0 Fv_a (g := (mkF m 1 #[sR a, sI (Int32.ofNat kk), .unset, .unset, .unset, .unset] [(.ref a)])) rfl rfl (hb hby d44_1)
 refine Goes.pre (U' := T1.setTop (mkF m 4 #[sR a, sI (Int32.ofNat kk), .unset, .unset, .unset, .unset] [(.ref b)])) (fun t k => st1 t k) ?_
 obtain ⟨cl2, Ar2, q2, Sz2, Ng2, -, -⟩ := id V_b
 have ln2 := len_of Sz2 Ng2
 refine Goes.pre (U' := T1.setTop (mkF m 8 #[sR a, sI (Int32.ofNat kk), sI (Int32.ofNat cap), .unset, .unset, .unset] [(.ref a), (.int (Int32.ofNat kk))])) (fun t k => X1.arraylength hx (by rw [e1]; exact Ar2.1) (State.isArrayOf_alike hZ.alike Ar2.2.1) (g := (mkF m 4 #[sR a, sI (Int32.ofNat kk), .unset, .unset, .unset, .unset] [(.ref b)])) rfl rfl (hb hby d44_4) _ (by rw [ln2]; exact (XS.istoreN X1.here hx rfl (hb hby d44_5) rfl (l' := #[sR a, sI (Int32.ofNat kk), sI (Int32.ofNat cap), .unset, .unset, .unset]) rfl (XS.iloadN X1.here hx rfl (hb hby d44_6) rfl (XS.aloadN X1.here hx rfl (hb hby d44_7) rfl rfl k))))) ?_
 obtain ⟨T3, X3, e3, st3⟩ := getF X1 hx hZ hown (host := "") (Or.inl (wq hw 59 rfl)) Via.refl e1 Fc_a (g := (mkF m 8 #[sR a, sI (Int32.ofNat kk), sI (Int32.ofNat cap), .unset, .unset, .unset] [(.ref a), (.int (Int32.ofNat kk))])) rfl rfl (hb hby d44_8)
 refine Goes.pre (U' := T3.setTop (mkF m 24 #[sR a, sI (Int32.ofNat kk), sI (Int32.ofNat cap), .val (.int ((Int32.ofNat kk) <<< ((0 : Int32) &&& 31))), .val (.int (((Int32.ofNat kk) <<< ((0 : Int32) &&& 31)) - (Int32.ofNat cap))), .unset] [(.ref a), (.int (2 : Int32)), (.int (Int32.ofNat cap)), (.int (((Int32.ofNat kk) <<< ((0 : Int32) &&& 31)) - (Int32.ofNat cap))), (.int (Int32.ofNat cap))])) (fun t k => st3 t (XS.ishl X3.here hx rfl (hb hby d44_11) rfl (XS.istoreN X3.here hx rfl (hb hby d44_12) rfl (l' := #[sR a, sI (Int32.ofNat kk), sI (Int32.ofNat cap), .val (.int ((Int32.ofNat kk) <<< ((0 : Int32) &&& 31))), .unset, .unset]) rfl (XS.iloadN X3.here hx rfl (hb hby d44_13) rfl (XS.iloadN X3.here hx rfl (hb hby d44_14) rfl (XS.isub X3.here hx rfl (hb hby d44_15) rfl (XS.istore X3.here hx rfl (hb hby d44_16) rfl (l' := #[sR a, sI (Int32.ofNat kk), sI (Int32.ofNat cap), .val (.int ((Int32.ofNat kk) <<< ((0 : Int32) &&& 31))), .val (.int (((Int32.ofNat kk) <<< ((0 : Int32) &&& 31)) - (Int32.ofNat cap))), .unset]) rfl (XS.iloadN X3.here hx rfl (hb hby d44_18) rfl (XS.iload X3.here hx rfl (hb hby d44_19) rfl (XS.iloadN X3.here hx rfl (hb hby d44_21) rfl (XS.iconst X3.here hx rfl (hb hby d44_22) (XS.aloadN X3.here hx rfl (hb hby d44_23) rfl rfl k)))))))))))) ?_
 obtain ⟨T4, X4, e4, st4⟩ := getF X3 hx hZ hown (host := "") (Or.inl (wq hw 59 rfl)) Via.refl e3 Fc_a (g := (mkF m 24 #[sR a, sI (Int32.ofNat kk), sI (Int32.ofNat cap), .val (.int ((Int32.ofNat kk) <<< ((0 : Int32) &&& 31))), .val (.int (((Int32.ofNat kk) <<< ((0 : Int32) &&& 31)) - (Int32.ofNat cap))), .unset] [(.ref a), (.int (2 : Int32)), (.int (Int32.ofNat cap)), (.int (((Int32.ofNat kk) <<< ((0 : Int32) &&& 31)) - (Int32.ofNat cap))), (.int (Int32.ofNat cap))])) rfl rfl (hb hby d44_24)
 refine Goes.pre (U' := T4.setTop (mkF m 28 #[sR a, sI (Int32.ofNat kk), sI (Int32.ofNat cap), .val (.int ((Int32.ofNat kk) <<< ((0 : Int32) &&& 31))), .val (.int (((Int32.ofNat kk) <<< ((0 : Int32) &&& 31)) - (Int32.ofNat cap))), .unset] [(.int ((2 : Int32) <<< ((0 : Int32) &&& 31))), (.int (Int32.ofNat cap)), (.int (((Int32.ofNat kk) <<< ((0 : Int32) &&& 31)) - (Int32.ofNat cap))), (.int (Int32.ofNat cap))])) (fun t k => st4 t (XS.ishl X4.here hx rfl (hb hby d44_27) rfl k)) ?_
 rw [(by decide : ((2 : Int32) <<< ((0 : Int32) &&& 31)) = (2 : Int32))]
 refine Goes.pre (U' := T4.setTop (mkF m 29 #[sR a, sI (Int32.ofNat kk), sI (Int32.ofNat cap), .val (.int ((Int32.ofNat kk) <<< ((0 : Int32) &&& 31))), .val (.int (((Int32.ofNat kk) <<< ((0 : Int32) &&& 31)) - (Int32.ofNat cap))), .unset] [(.int ((Int32.ofNat cap) + (2 : Int32))), (.int (((Int32.ofNat kk) <<< ((0 : Int32) &&& 31)) - (Int32.ofNat cap))), (.int (Int32.ofNat cap))])) (fun t k => XS.iadd X4.here hx rfl (hb hby d44_28) rfl k) ?_
 rw [own_shl0 kk (by omega), own_sub cap kk (by omega), show Int32.ofNat cap + (2 : Int32) = Int32.ofNat (cap + 2) from own_addk _ _]
 obtain ⟨_, _, ⟨T5, L5, k5, n5⟩, -, X5, ⟨Lc5, hQ5, l5, y5, z5⟩, st5⟩ := Jvm.LawKit.callS X4 hx (y := M45) hown (mvT hZ (wq hw 225 rfl)) (mvT hZ (wq hw 226 rfl)) (mvT hZ (wq hw 227 rfl)) (mvT hZ (wq hw 228 rfl)) (by decide) (backOf (W := 0) (rm_nl l Z a0 hw [] cap (kk - cap) (cap + 2) h0 n0 Z0  (by omega) (by omega) (by omega) (by omega)) hZ (wq hw 228 rfl) (wq hw 227 rfl) (by decide) (by decide)) (g := (mkF m 29 #[sR a, sI (Int32.ofNat kk), sI (Int32.ofNat cap), sI (Int32.ofNat kk), .val (.int (Int32.ofNat (kk - cap))), .unset] [(.int (Int32.ofNat (cap + 2))), (.int (Int32.ofNat (kk - cap))), (.int (Int32.ofNat cap))])) rfl (by rw [hml]; rfl) (argsL := [(.int (Int32.ofNat cap)), (.int (Int32.ofNat (kk - cap))), (.int (Int32.ofNat (cap + 2)))]) (rest := []) (lenOf pd__28III_29I rfl) rfl (by show 2 * 0 + _ ≤ _; exact Nat.le_of_eq rfl) (hb hby d44_29) (fun _ _ => ⟨rfl, e4, (by decide : 0 + 0 ≤ _), (by decide : 0 + 0 ≤ _)⟩)
 dsimp only [Pt.U, Pt.locs, Pt.cells, Pt.slots] at X5 l5 y5 z5 st5 hQ5
 subst l5 y5 z5
 obtain ⟨rfl, N5q, HQ5⟩ := hQ5
 have N5 := Fr.app N0 N5q
 refine Goes.pre (U' := T5.setTop (mkF m 38 #[sR a, sI (Int32.ofNat kk), sI (Int32.ofNat cap), sI (Int32.ofNat kk), .val (.int (Int32.ofNat (kk - cap))), .val (.int (Int32.ofNat (cap + max (kk - cap) (cap + 2))))] [(.int (2147483647 : Int32)), (.int (Int32.ofNat (cap + max (kk - cap) (cap + 2))))])) (fun t k => st5 t (XS.istore X5.here hx rfl (hb hby d44_32) rfl (l' := #[sR a, sI (Int32.ofNat kk), sI (Int32.ofNat cap), sI (Int32.ofNat kk), .val (.int (Int32.ofNat (kk - cap))), .val (.int (Int32.ofNat (cap + max (kk - cap) (cap + 2))))]) rfl (XS.iload X5.here hx rfl (hb hby d44_34) rfl (X5.ldcInt hx hown (mvT hZ (wq hw 231 rfl)) (g := (mkF m 36 #[sR a, sI (Int32.ofNat kk), sI (Int32.ofNat cap), sI (Int32.ofNat kk), .val (.int (Int32.ofNat (kk - cap))), .val (.int (Int32.ofNat (cap + max (kk - cap) (cap + 2))))] [(.int (Int32.ofNat (cap + max (kk - cap) (cap + 2))))])) rfl (hb hby d44_36) _ k)))) ?_
 have hc38 : ¬ ((Int32.ofNat (cap + max (kk - cap) (cap + 2))) = (2147483647 : Int32)) := (own_nl3 _ (by omega))
 refine Goes.pre (U' := T5.setTop (mkF m 54 #[sR a, sI (Int32.ofNat kk), sI (Int32.ofNat cap), sI (Int32.ofNat kk), .val (.int (Int32.ofNat (kk - cap))), .val (.int (Int32.ofNat (cap + max (kk - cap) (cap + 2))))] [(.ref a), (.int (Int32.ofNat (cap + max (kk - cap) (cap + 2))))])) (fun t k => XS.icmpYes X5.here hx rfl (pc0 := 38) (pc' := 51) rfl (hb hby d44_38) rfl (feq hc38).2 (by decide) (by decide) (XS.iload X5.here hx rfl (hb hby d44_51) rfl (XS.aloadN X5.here hx rfl (hb hby d44_53) rfl rfl k))) ?_
 obtain ⟨T6, X6, e6, st6⟩ := getF X5 hx hZ hown (host := "") (Or.inl (wq hw 59 rfl)) Via.refl HQ5 Fc_a (g := (mkF m 54 #[sR a, sI (Int32.ofNat kk), sI (Int32.ofNat cap), sI (Int32.ofNat kk), .val (.int (Int32.ofNat (kk - cap))), .val (.int (Int32.ofNat (cap + max (kk - cap) (cap + 2))))] [(.ref a), (.int (Int32.ofNat (cap + max (kk - cap) (cap + 2))))])) rfl rfl (hb hby d44_54)
 refine Goes.pre (U' := T6.setTop (mkF m 58 #[sR a, sI (Int32.ofNat kk), sI (Int32.ofNat cap), sI (Int32.ofNat kk), .val (.int (Int32.ofNat (kk - cap))), .val (.int (Int32.ofNat (cap + max (kk - cap) (cap + 2))))] [(.int ((Int32.ofNat (cap + max (kk - cap) (cap + 2))) >>> ((0 : Int32) &&& 31)))])) (fun t k => st6 t (XS.ishr X6.here hx rfl (hb hby d44_57) rfl k)) ?_
 refine Goes.ret X6 (v := (some (.int ((Int32.ofNat (cap + max (kk - cap) (cap + 2))) >>> ((0 : Int32) &&& 31))))) (fun h => by rw [hret] at h; cases h) hlk (by decide) (by decide) e6 (fun fs hr => retI X6 hx hret (hb hby d44_58) hr) ?_
 exact ⟨congrArg (fun z => some (Value.int z)) (show ((Int32.ofNat (cap + max (kk - cap) (cap + 2))) >>> ((0 : Int32) &&& 31)) = Int32.ofNat (own_nc cap kk) from (by rw [own_shr0 _ (by omega)]; congr 1; unfold own_nc; omega)), N5, rfl⟩
theorem ef_rm_ens0 (m : MethodId) (x0 : Addr) (x1 : Int32) : entryFrame m #[(.ref x0), (.int x1)] 3 = mkF m 0 #[sR x0, sI x1, .unset] [] := by first | (simp [entryFrame, mkF, argsToLocals, Value.category]; done) | rfl
abbrev M12 : MethodName := ⟨"java/lang/AbstractStringBuilder", "ensureCapacityInternal", "(I)V"⟩
theorem d12_0 : decode B12 0 = .ok (.aload_n 0, 1) := by decide +kernel
theorem d12_1 : decode B12 1 = .ok (.getfield 15, 3) := by decide +kernel
theorem d12_4 : decode B12 4 = .ok (.arraylength, 1) := by decide +kernel
theorem d12_5 : decode B12 5 = .ok (.aload_n 0, 1) := by decide +kernel
theorem d12_6 : decode B12 6 = .ok (.getfield 22, 3) := by decide +kernel
theorem d12_9 : decode B12 9 = .ok (.ishr, 1) := by decide +kernel
theorem d12_10 : decode B12 10 = .ok (.istore_n 2, 1) := by decide +kernel
theorem d12_11 : decode B12 11 = .ok (.iload_n 1, 1) := by decide +kernel
theorem d12_12 : decode B12 12 = .ok (.iload_n 2, 1) := by decide +kernel
theorem d12_13 : decode B12 13 = .ok (.isub, 1) := by decide +kernel
theorem d12_14 : decode B12 14 = .ok (.ifCond .le 24, 3) := by decide +kernel
theorem d12_17 : decode B12 17 = .ok (.aload_n 0, 1) := by decide +kernel
theorem d12_18 : decode B12 18 = .ok (.aload_n 0, 1) := by decide +kernel
theorem d12_19 : decode B12 19 = .ok (.getfield 15, 3) := by decide +kernel
theorem d12_22 : decode B12 22 = .ok (.aload_n 0, 1) := by decide +kernel
theorem d12_23 : decode B12 23 = .ok (.iload_n 1, 1) := by decide +kernel
theorem d12_24 : decode B12 24 = .ok (.invokevirtual 104, 3) := by decide +kernel
theorem d12_27 : decode B12 27 = .ok (.aload_n 0, 1) := by decide +kernel
theorem d12_28 : decode B12 28 = .ok (.getfield 22, 3) := by decide +kernel
theorem d12_31 : decode B12 31 = .ok (.ishl, 1) := by decide +kernel
theorem d12_32 : decode B12 32 = .ok (.invokestatic 108, 3) := by decide +kernel
theorem pd__28_5bBI_29_5bB : parseMethodDescriptor "([BI)[B" = some ⟨[(.array .byte), .int], some (.array .byte)⟩ := by decide +kernel
theorem d12_35 : decode B12 35 = .ok (.putfield 15, 3) := by decide +kernel
theorem d12_38 : decode B12 38 = .ok (.return_, 1) := by decide +kernel
def Q_rm_ens0 (Z : State) (a : Addr) (b : Addr) (kb : ClassId) (cap : Nat) (kk : Nat) (vs : List Value) (ct : Int32) (h0 : Heap) (n0 : Nat) (v : Option Value) (h : Heap) (L : List Loc) : Prop := ∃ (bx : Addr) (kx : ClassId) (cx : Nat), v = none ∧ Fr n0 L ∧ Keep h0 h [a] ∧ Exa Z h bx "[B" ∧ Fld Z h a "java/lang/AbstractStringBuilder" "value" "[B" (.ref bx) ∧ Fld Z h a "java/lang/AbstractStringBuilder" "coder" "B" (.int (0 : Int32)) ∧ Fld Z h a "java/lang/AbstractStringBuilder" "count" "I" (.int ct) ∧ Fld Z h a "java/lang/AbstractStringBuilder" "maybeLatin1" "Z" (.int (0 : Int32)) ∧ Arv Z h bx kx .byte (Int32.ofNat cx) vs (.int (0 : Int32)) ∧ n0 ≤ bx ∧ (bx = b ∨ h0.size ≤ bx) ∧ kk ≤ cx ∧ cx ≤ 48 ∧ vs.length ≤ cx
set_option maxRecDepth 65536 in
set_option maxHeartbeats 40000000 in
theorem rm_ens0 (l : Launch) (Z : State) (a0 : Array Value) (hw : ∀ d ∈ tables_1, d.before a0 Z = true) (ws : List Jvm.Cond) (a : Addr) (b : Addr) (kb : ClassId) (cap : Nat) (kk : Nat) (vs : List Value) (ct : Int32) (h0 : Heap) (n0 : Nat) (Z0 : n0 ≤ h0.size) (E_a : Exa Z h0 a "java/lang/StringBuilder") (E_b : Exa Z h0 b "[B") (Fv_a : Fld Z h0 a "java/lang/AbstractStringBuilder" "value" "[B" (.ref b)) (Fc_a : Fld Z h0 a "java/lang/AbstractStringBuilder" "coder" "B" (.int (0 : Int32))) (Fn_a : Fld Z h0 a "java/lang/AbstractStringBuilder" "count" "I" (.int ct)) (Fm_a : Fld Z h0 a "java/lang/AbstractStringBuilder" "maybeLatin1" "Z" (.int (0 : Int32))) (V_b : Arv Z h0 b kb .byte (Int32.ofNat cap) vs (.int (0 : Int32))) (hc2 : cap ≤ 48) (hk2 : kk ≤ 24) (hvl : vs.length ≤ cap) (g_b : n0 ≤ b) (ne_b_a : b ≠ a) (g_a : n0 ≤ a) :
  Met l Z M12 jdk_68_method_9_code 3 none ws (Rm 3 1 96 48) #[(.ref a), (.int (Int32.ofNat kk))] h0 (Q_rm_ens0 Z a b kb cap kk vs ct h0 n0) := by
 refine met_of (plainFor_of_name pn_java_lang_AbstractStringBuilder) (own := "java/lang/AbstractStringBuilder") rfl (fun m => ef_rm_ens0 m a (Int32.ofNat kk)) ?_
 intro p e s m below meth c s₁ hx hby hml hown hnm hZ X0 e0 hret hlk
 have N0 := Fr.nil n0
 have K0 := Keep.refl h0 [a]
 show Goes p e below s _ _ _ (s₁.setTop (mkF m 0 #[sR a, sI (Int32.ofNat kk), .unset] []))
 refine Goes.pre (U' := s₁.setTop (mkF m 1 #[sR a, sI (Int32.ofNat kk), .unset] [(.ref a)])) (fun t k => XS.aloadN X0.here hx rfl (hb hby d12_0) rfl rfl k) ?_
 obtain ⟨T1, X1, e1, st1⟩ := getF X0 hx hZ hown (host := "") (Or.inl (wq hw 57 rfl)) Via.refl e0 Fv_a (g := (mkF m 1 #[sR a, sI (Int32.ofNat kk), .unset] [(.ref a)])) rfl rfl (hb hby d12_1)
 refine Goes.pre (U' := T1.setTop (mkF m 4 #[sR a, sI (Int32.ofNat kk), .unset] [(.ref b)])) (fun t k => st1 t k) ?_
 obtain ⟨cl2, Ar2, q2, Sz2, Ng2, -, -⟩ := id V_b
 have ln2 := len_of Sz2 Ng2
 refine Goes.pre (U' := T1.setTop (mkF m 6 #[sR a, sI (Int32.ofNat kk), .unset] [(.ref a), (.int (Int32.ofNat cap))])) (fun t k => X1.arraylength hx (by rw [e1]; exact Ar2.1) (State.isArrayOf_alike hZ.alike Ar2.2.1) (g := (mkF m 4 #[sR a, sI (Int32.ofNat kk), .unset] [(.ref b)])) rfl rfl (hb hby d12_4) _ (by rw [ln2]; exact (XS.aloadN X1.here hx rfl (hb hby d12_5) rfl rfl k))) ?_
 obtain ⟨T3, X3, e3, st3⟩ := getF X1 hx hZ hown (host := "") (Or.inl (wq hw 59 rfl)) Via.refl e1 Fc_a (g := (mkF m 6 #[sR a, sI (Int32.ofNat kk), .unset] [(.ref a), (.int (Int32.ofNat cap))])) rfl rfl (hb hby d12_6)
 refine Goes.pre (U' := T3.setTop (mkF m 11 #[sR a, sI (Int32.ofNat kk), .val (.int ((Int32.ofNat cap) >>> ((0 : Int32) &&& 31)))] [])) (fun t k => st3 t (XS.ishr X3.here hx rfl (hb hby d12_9) rfl (XS.istoreN X3.here hx rfl (hb hby d12_10) rfl (l' := #[sR a, sI (Int32.ofNat kk), .val (.int ((Int32.ofNat cap) >>> ((0 : Int32) &&& 31)))]) rfl k))) ?_
 by_cases hcp : cap < kk
 ·
  refine Goes.pre (U' := T3.setTop (mkF m 14 #[sR a, sI (Int32.ofNat kk), .val (.int ((Int32.ofNat cap) >>> ((0 : Int32) &&& 31)))] [(.int ((Int32.ofNat kk) - ((Int32.ofNat cap) >>> ((0 : Int32) &&& 31))))])) (fun t k => XS.iloadN X3.here hx rfl (hb hby d12_11) rfl (XS.iloadN X3.here hx rfl (hb hby d12_12) rfl (XS.isub X3.here hx rfl (hb hby d12_13) rfl k))) ?_
  have hc14 : (0 : Int32) < ((Int32.ofNat kk) - ((Int32.ofNat cap) >>> ((0 : Int32) &&& 31))) := (by rw [(own_shr0 cap (by omega))]; exact own_pos _ _ hcp (by omega))
  refine Goes.pre (U' := T3.setTop (mkF m 19 #[sR a, sI (Int32.ofNat kk), .val (.int ((Int32.ofNat cap) >>> ((0 : Int32) &&& 31)))] [(.ref a), (.ref a)])) (fun t k => XS.ifNo X3.here hx rfl (hb hby d12_14) rfl ((if0 _ _).trans (tlt hc14).2.2.2) (XS.aloadN X3.here hx rfl (hb hby d12_17) rfl rfl (XS.aloadN X3.here hx rfl (hb hby d12_18) rfl rfl k))) ?_
  obtain ⟨T4, X4, e4, st4⟩ := getF X3 hx hZ hown (host := "") (Or.inl (wq hw 57 rfl)) Via.refl e3 Fv_a (g := (mkF m 19 #[sR a, sI (Int32.ofNat kk), .val (.int ((Int32.ofNat cap) >>> ((0 : Int32) &&& 31)))] [(.ref a), (.ref a)])) rfl rfl (hb hby d12_19)
  refine Goes.pre (U' := T4.setTop (mkF m 24 #[sR a, sI (Int32.ofNat kk), .val (.int ((Int32.ofNat cap) >>> ((0 : Int32) &&& 31)))] [(.int (Int32.ofNat kk)), (.ref a), (.ref b), (.ref a)])) (fun t k => st4 t (XS.aloadN X4.here hx rfl (hb hby d12_22) rfl rfl (XS.iloadN X4.here hx rfl (hb hby d12_23) rfl k))) ?_
  obtain ⟨cq5, q5, q5'⟩ := E_a.cell
  obtain ⟨_, _, ⟨T5, L5, k5, n5⟩, -, X5, ⟨Lc5, hQ5, l5, y5, z5⟩, st5⟩ := X4.privateBack hx (y := M44) hown (mvT hZ (wq hw 220 rfl)) (mvT hZ (wq hw 221 rfl)) (mvT hZ (own_selfp (wq hw 223 rfl) (wq hw 221 rfl) (wq hw 222 rfl) (by decide) (by decide))) (Cond.privateMethod_at (mvP hZ (wq hw 222 rfl) (args := #[]))) (mvT hZ (wq hw 224 rfl)) (by decide) (backOf (W := 2) (rm_nc0 l Z a0 hw [] a b kb cap kk vs h0 n0 Z0 Fv_a Fc_a V_b hc2 hk2 hcp) hZ (wq hw 224 rfl) (wq hw 53 rfl) (by decide) (by decide)) (g := (mkF m 24 #[sR a, sI (Int32.ofNat kk), .val (.int ((Int32.ofNat cap) >>> ((0 : Int32) &&& 31)))] [(.int (Int32.ofNat kk)), (.ref a), (.ref b), (.ref a)])) rfl (by rw [hml]; rfl) (Steps.refl _) (a := a) (by rw [e4]; exact q5) q5' (argsL := [(.int (Int32.ofNat kk))]) (rest := [(.ref b), (.ref a)]) (lenOf pd__28I_29I rfl) rfl (by show 2 * 0 + _ ≤ _; exact Nat.le_of_eq rfl) (hb hby d12_24) (fun _ _ => ⟨rfl, e4, (by decide : 0 + 0 ≤ _), (by decide : 0 + 0 ≤ _)⟩)
  dsimp only [Pt.U, Pt.locs, Pt.cells, Pt.slots] at X5 l5 y5 z5 st5 hQ5
  subst l5 y5 z5
  obtain ⟨rfl, N5q, HQ5⟩ := hQ5
  have N5 := Fr.app N0 N5q
  refine Goes.pre (U' := T5.setTop (mkF m 28 #[sR a, sI (Int32.ofNat kk), .val (.int ((Int32.ofNat cap) >>> ((0 : Int32) &&& 31)))] [(.ref a), (.int (Int32.ofNat (own_nc cap kk))), (.ref b), (.ref a)])) (fun t k => st5.trans (XS.aloadN X5.here hx rfl (hb hby d12_27) rfl rfl k)) ?_
  obtain ⟨T6, X6, e6, st6⟩ := getF X5 hx hZ hown (host := "") (Or.inl (wq hw 59 rfl)) Via.refl HQ5 Fc_a (g := (mkF m 28 #[sR a, sI (Int32.ofNat kk), .val (.int ((Int32.ofNat cap) >>> ((0 : Int32) &&& 31)))] [(.ref a), (.int (Int32.ofNat (own_nc cap kk))), (.ref b), (.ref a)])) rfl rfl (hb hby d12_28)
  refine Goes.pre (U' := T6.setTop (mkF m 32 #[sR a, sI (Int32.ofNat kk), .val (.int ((Int32.ofNat cap) >>> ((0 : Int32) &&& 31)))] [(.int ((Int32.ofNat (own_nc cap kk)) <<< ((0 : Int32) &&& 31))), (.ref b), (.ref a)])) (fun t k => st6 t (XS.ishl X6.here hx rfl (hb hby d12_31) rfl k)) ?_
  have hnc : own_nc cap kk ≤ 48 := by unfold own_nc; omega
  have hnc2 : cap < own_nc cap kk := by unfold own_nc; omega
  have hnc3 : kk ≤ own_nc cap kk := by unfold own_nc; omega
  rw [own_shl0 _ (by omega)]
  have lt_a := E_a.lt
  have lt_b := E_b.lt
  obtain ⟨_, _, ⟨T7, L7, k7, n7⟩, -, X7, ⟨Lc7, hQ7, l7, y7, z7⟩, st7⟩ := Jvm.LawKit.callS X6 hx (y := M46) hown (mvT hZ (wq hw 232 rfl)) (mvT hZ (wq hw 233 rfl)) (mvT hZ (wq hw 117 rfl)) (mvT hZ (wq hw 234 rfl)) (by decide) (backOf (W := 1) (rm_aco l Z a0 hw [] b kb cap (own_nc cap kk) vs h0 n0 Z0 V_b (by omega) (by omega) hvl) hZ (wq hw 234 rfl) (wq hw 117 rfl) (by decide) (by decide)) (g := (mkF m 32 #[sR a, sI (Int32.ofNat kk), .val (.int ((Int32.ofNat cap) >>> ((0 : Int32) &&& 31)))] [(.int (Int32.ofNat (own_nc cap kk))), (.ref b), (.ref a)])) rfl (by rw [hml]; rfl) (argsL := [(.ref b), (.int (Int32.ofNat (own_nc cap kk)))]) (rest := [(.ref a)]) (lenOf pd__28_5bBI_29_5bB rfl) rfl (by show 2 * 0 + _ ≤ _; exact Nat.le_of_eq rfl) (hb hby d12_32) (fun _ _ => ⟨rfl, e6, (by decide : 0 + 1 ≤ _), (by decide : 0 + 96 ≤ _)⟩)
  dsimp only [Pt.U, Pt.locs, Pt.cells, Pt.slots] at X7 l7 y7 z7 st7 hQ7
  subst l7 y7 z7
  obtain ⟨r7, kr7, rfl, N7q, KQ7, fo0_7, fo1_7, g_r7, sl_r7⟩ := hQ7
  have N7 := Fr.app N5 N7q
  have E_a := E_a.keep KQ7
  have E_b := E_b.keep KQ7
  have Fv_a := Fv_a.keep KQ7 nin0
  have Fc_a := Fc_a.keep KQ7 nin0
  have Fn_a := Fn_a.keep KQ7 nin0
  have Fm_a := Fm_a.keep KQ7 nin0
  have V_b := V_b.keep KQ7 nin0
  have Z8 : n0 ≤ T7.heap.size := Nat.le_trans Z0 KQ7.1
  have K8 := K0.trans KQ7 all0
  have ne_a_r7 : a ≠ r7 := Nat.ne_of_lt (Nat.lt_of_lt_of_le lt_a sl_r7)
  have ne_r7_a := ne_a_r7.symm
  have ne_b_r7 : b ≠ r7 := Nat.ne_of_lt (Nat.lt_of_lt_of_le lt_b sl_r7)
  have ne_r7_b := ne_b_r7.symm
  have sz_r7 : h0.size ≤ r7 := Nat.le_trans K0.1 sl_r7
  have E_r7 := fo0_7
  have V_r7 := fo1_7
  refine Goes.pre (U' := T7.setTop (mkF m 35 #[sR a, sI (Int32.ofNat kk), .val (.int ((Int32.ofNat cap) >>> ((0 : Int32) &&& 31)))] [(.ref r7), (.ref a)])) (fun t k => st7 t k) ?_
  obtain ⟨T9, h9, X9, e9, W9, st9⟩ := putF X7 hx hZ hown (host := "") (Or.inl (wq hw 57 rfl)) Via.refl rfl Fv_a E_a (Or.inl (wq hw 58 rfl)) (wq hw 33 rfl) (ty := (.array .byte)) (by decide) rfl rfl (g := (mkF m 35 #[sR a, sI (Int32.ofNat kk), .val (.int ((Int32.ofNat cap) >>> ((0 : Int32) &&& 31)))] [(.ref r7), (.ref a)])) rfl rfl (hb hby d12_35)
  have E_a := E_a.wr W9
  have E_b := E_b.wr W9
  have Fc_a := Fc_a.other W9 (Or.inr (slot_ne (Or.inl (wq hw 60 rfl)) (Or.inl (wq hw 58 rfl)) (by decide) (t := .byte) (t' := (.array .byte)) (by decide) (by decide)))
  have Fn_a := Fn_a.other W9 (Or.inr (slot_ne (Or.inl (wq hw 72 rfl)) (Or.inl (wq hw 58 rfl)) (by decide) (t := .int) (t' := (.array .byte)) (by decide) (by decide)))
  have Fm_a := Fm_a.other W9 (Or.inr (slot_ne (Or.inl (wq hw 315 rfl)) (Or.inl (wq hw 58 rfl)) (by decide) (t := .boolean) (t' := (.array .byte)) (by decide) (by decide)))
  have V_b := V_b.other W9 ne_b_a
  have E_r7 := E_r7.wr W9
  have V_r7 := V_r7.other W9 ne_r7_a
  have Z9 : n0 ≤ h9.size := Nat.le_trans Z8 (Keep.of_wr W9).1
  have Fv_a := Fv_a.same W9
  have K9 := K8.wr W9 (Or.inl (List.mem_of_getElem? (i := 0) rfl))
  have N9 := Fr.snoc X9 N7 g_a
  refine Goes.pre (U' := T9.setTop (mkF m 38 #[sR a, sI (Int32.ofNat kk), .val (.int ((Int32.ofNat cap) >>> ((0 : Int32) &&& 31)))] [])) (fun t k => st9 t k) ?_
  refine Goes.ret X9 (v := none) (fun _ => rfl) hlk (by decide) (by decide) e9 (fun fs hr => X9.returnOut hx hret (hb hby d12_38) hr) ?_
  exact ⟨r7, kr7, own_nc cap kk, rfl, N9, K9, E_r7, Fv_a, Fc_a, Fn_a, Fm_a, V_r7, g_r7, Or.inr sz_r7, ⟨hnc3, hnc, by omega⟩⟩
 ·
  refine Goes.pre (U' := T3.setTop (mkF m 14 #[sR a, sI (Int32.ofNat kk), .val (.int ((Int32.ofNat cap) >>> ((0 : Int32) &&& 31)))] [(.int ((Int32.ofNat kk) - ((Int32.ofNat cap) >>> ((0 : Int32) &&& 31))))])) (fun t k => XS.iloadN X3.here hx rfl (hb hby d12_11) rfl (XS.iloadN X3.here hx rfl (hb hby d12_12) rfl (XS.isub X3.here hx rfl (hb hby d12_13) rfl k))) ?_
  have hc14 : ¬ ((0 : Int32) < ((Int32.ofNat kk) - ((Int32.ofNat cap) >>> ((0 : Int32) &&& 31)))) := (by rw [(own_shr0 cap (by omega))]; exact own_npos _ _ (by omega) (by omega))
  refine Goes.pre (U' := T3.setTop (mkF m 38 #[sR a, sI (Int32.ofNat kk), .val (.int ((Int32.ofNat cap) >>> ((0 : Int32) &&& 31)))] [])) (fun t k => XS.ifYes X3.here hx rfl (pc0 := 14) (pc' := 38) rfl (hb hby d12_14) rfl ((if0 _ _).trans (flt hc14).2.2.2) (by decide) (by decide) k) ?_
  refine Goes.ret X3 (v := none) (fun _ => rfl) hlk (by decide) (by decide) e3 (fun fs hr => X3.returnOut hx hret (hb hby d12_38) hr) ?_
  exact ⟨b, kb, cap, rfl, N0, K0, E_b, Fv_a, Fc_a, Fn_a, Fm_a, V_b, g_b, Or.inl rfl, ⟨by omega, hc2, hvl⟩⟩
theorem ef_rm_aL1 (m : MethodId) (x0 : Addr) : entryFrame m #[(.ref x0)] 1 = mkF m 0 #[sR x0] [] := by first | (simp [entryFrame, mkF, argsToLocals, Value.category]; done) | rfl
theorem d13_17 : decode B13 17 = .ok (.iconst 0, 1) := by decide +kernel
def Q_rm_aL1 (Z : State) (a : Addr) (cs : Int32) (h0 : Heap) (n0 : Nat) (v : Option Value) (h : Heap) (L : List Loc) : Prop := v = some (.int (0 : Int32)) ∧ Fr n0 L ∧ h = h0
set_option maxRecDepth 65536 in
set_option maxHeartbeats 40000000 in
theorem rm_aL1 (l : Launch) (Z : State) (a0 : Array Value) (hw : ∀ d ∈ tables_1, d.before a0 Z = true) (ws : List Jvm.Cond) (a : Addr) (cs : Int32) (h0 : Heap) (n0 : Nat) (Z0 : n0 ≤ h0.size) (sC : OCS Z (.int cs)) (Fc_a : Fld Z h0 a "java/lang/AbstractStringBuilder" "coder" "B" (.int (1 : Int32))) (hcs : ¬ (cs = (0 : Int32))) (O : Old Z n0 h0) :
  Met l Z M13 jdk_68_method_68_code 1 (some .boolean) ws (Rm 0 0 0 0) #[(.ref a)] h0 (Q_rm_aL1 Z a cs h0 n0) := by
 refine met_of (plainFor_of_name pn_java_lang_AbstractStringBuilder) (own := "java/lang/AbstractStringBuilder") rfl (fun m => ef_rm_aL1 m a) ?_
 intro p e s m below meth c s₁ hx hby hml hown hnm hZ X0 e0 hret hlk
 have N0 := Fr.nil n0
 show Goes p e below s _ _ _ (s₁.setTop (mkF m 0 #[sR a] []))
 obtain ⟨T1, X1, e1, st1⟩ := getS2 X0 hx hZ hown (host := "") (Or.inl (wq hw 56 rfl)) Via.refl e0 (sC.ext O.2) (g := (mkF m 0 #[sR a] [])) rfl (hb hby d13_0)
 refine Goes.pre (U' := T1.setTop (mkF m 3 #[sR a] [(.int cs)])) (fun t k => st1 t k) ?_
 have hc3 : ¬ (cs = (0 : Int32)) := hcs
 refine Goes.pre (U' := T1.setTop (mkF m 7 #[sR a] [(.ref a)])) (fun t k => XS.ifNo X1.here hx rfl (hb hby d13_3) rfl ((if0 _ _).trans (feq hc3).1) (XS.aloadN X1.here hx rfl (hb hby d13_6) rfl rfl k)) ?_
 obtain ⟨T2, X2, e2, st2⟩ := getF X1 hx hZ hown (host := "") (Or.inl (wq hw 59 rfl)) Via.refl e1 Fc_a (g := (mkF m 7 #[sR a] [(.ref a)])) rfl rfl (hb hby d13_7)
 refine Goes.pre (U' := T2.setTop (mkF m 10 #[sR a] [(.int (1 : Int32))])) (fun t k => st2 t k) ?_
 have hc10 : ¬ ((1 : Int32) = (0 : Int32)) := by decide
 refine Goes.pre (U' := T2.setTop (mkF m 18 #[sR a] [(.int (0 : Int32))])) (fun t k => XS.ifYes X2.here hx rfl (pc0 := 10) (pc' := 17) rfl (hb hby d13_10) rfl ((if0 _ _).trans (feq hc10).2) (by decide) (by decide) (XS.iconst X2.here hx rfl (hb hby d13_17) k)) ?_
 refine Goes.ret X2 (v := (some (.int (0 : Int32)))) (fun h => by rw [hret] at h; cases h) hlk (by decide) (by decide) e2 (fun fs hr => retN X2 hx (t := .boolean) hret (by simp) (hb hby d13_18) hr) ?_
 exact ⟨rfl, N0, rfl⟩
theorem ef_rm_nc1 (m : MethodId) (x0 : Addr) (x1 : Int32) : entryFrame m #[(.ref x0), (.int x1)] 6 = mkF m 0 #[sR x0, sI x1, .unset, .unset, .unset, .unset] [] := by first | (simp [entryFrame, mkF, argsToLocals, Value.category]; done) | rfl
def Q_rm_nc1 (Z : State) (a : Addr) (b : Addr) (kb : ClassId) (cap : Nat) (kk : Nat) (vs : List Value) (h0 : Heap) (n0 : Nat) (v : Option Value) (h : Heap) (L : List Loc) : Prop := v = some (.int (Int32.ofNat (own_nc cap kk))) ∧ Fr n0 L ∧ h = h0
set_option maxRecDepth 65536 in
set_option maxHeartbeats 40000000 in
theorem rm_nc1 (l : Launch) (Z : State) (a0 : Array Value) (hw : ∀ d ∈ tables_1, d.before a0 Z = true) (ws : List Jvm.Cond) (a : Addr) (b : Addr) (kb : ClassId) (cap : Nat) (kk : Nat) (vs : List Value) (h0 : Heap) (n0 : Nat) (Z0 : n0 ≤ h0.size) (Fv_a : Fld Z h0 a "java/lang/AbstractStringBuilder" "value" "[B" (.ref b)) (Fc_a : Fld Z h0 a "java/lang/AbstractStringBuilder" "coder" "B" (.int (1 : Int32))) (V_b : Arv Z h0 b kb .byte (Int32.ofNat (2 * cap)) vs (.int (0 : Int32))) (hc2 : cap ≤ 48) (hk2 : kk ≤ 24) (hlt : cap < kk) :
  Met l Z M44 jdk_68_method_10_code 6 (some .int) ws (Rm 2 0 0 29) #[(.ref a), (.int (Int32.ofNat kk))] h0 (Q_rm_nc1 Z a b kb cap kk vs h0 n0) := by
 refine met_of (plainFor_of_name pn_java_lang_AbstractStringBuilder) (own := "java/lang/AbstractStringBuilder") rfl (fun m => ef_rm_nc1 m a (Int32.ofNat kk)) ?_
 intro p e s m below meth c s₁ hx hby hml hown hnm hZ X0 e0 hret hlk
 have N0 := Fr.nil n0
 show Goes p e below s _ _ _ (s₁.setTop (mkF m 0 #[sR a, sI (Int32.ofNat kk), .unset, .unset, .unset, .unset] []))
 refine Goes.pre (U' := s₁.setTop (mkF m 1 #[sR a, sI (Int32.ofNat kk), .unset, .unset, .unset, .unset] [(.ref a)])) (fun t k => XS.aloadN X0.here hx rfl (hb hby d44_0) rfl rfl k) ?_
 obtain ⟨T1, X1, e1, st1⟩ := getF X0 hx hZ hown (host := "") (Or.inl (wq hw 57 rfl)) Via.refl e0 Fv_a (g := (mkF m 1 #[sR a, sI (Int32.ofNat kk), .unset, .unset, .unset, .unset] [(.ref a)])) rfl rfl (hb hby d44_1)
 refine Goes.pre (U' := T1.setTop (mkF m 4 #[sR a, sI (Int32.ofNat kk), .unset, .unset, .unset, .unset] [(.ref b)])) (fun t k => st1 t k) ?_
 obtain ⟨cl2, Ar2, q2, Sz2, Ng2, -, -⟩ := id V_b
 have ln2 := len_of Sz2 Ng2
 refine Goes.pre (U' := T1.setTop (mkF m 8 #[sR a, sI (Int32.ofNat kk), .val (.int (Int32.ofNat (2 * cap))), .unset, .unset, .unset] [(.ref a), (.int (Int32.ofNat kk))])) (fun t k => X1.arraylength hx (by rw [e1]; exact Ar2.1) (State.isArrayOf_alike hZ.alike Ar2.2.1) (g := (mkF m 4 #[sR a, sI (Int32.ofNat kk), .unset, .unset, .unset, .unset] [(.ref b)])) rfl rfl (hb hby d44_4) _ (by rw [ln2]; exact (XS.istoreN X1.here hx rfl (hb hby d44_5) rfl (l' := #[sR a, sI (Int32.ofNat kk), .val (.int (Int32.ofNat (2 * cap))), .unset, .unset, .unset]) rfl (XS.iloadN X1.here hx rfl (hb hby d44_6) rfl (XS.aloadN X1.here hx rfl (hb hby d44_7) rfl rfl k))))) ?_
 obtain ⟨T3, X3, e3, st3⟩ := getF X1 hx hZ hown (host := "") (Or.inl (wq hw 59 rfl)) Via.refl e1 Fc_a (g := (mkF m 8 #[sR a, sI (Int32.ofNat kk), .val (.int (Int32.ofNat (2 * cap))), .unset, .unset, .unset] [(.ref a), (.int (Int32.ofNat kk))])) rfl rfl (hb hby d44_8)
 refine Goes.pre (U' := T3.setTop (mkF m 24 #[sR a, sI (Int32.ofNat kk), .val (.int (Int32.ofNat (2 * cap))), .val (.int ((Int32.ofNat kk) <<< ((1 : Int32) &&& 31))), .val (.int (((Int32.ofNat kk) <<< ((1 : Int32) &&& 31)) - (Int32.ofNat (2 * cap)))), .unset] [(.ref a), (.int (2 : Int32)), (.int (Int32.ofNat (2 * cap))), (.int (((Int32.ofNat kk) <<< ((1 : Int32) &&& 31)) - (Int32.ofNat (2 * cap)))), (.int (Int32.ofNat (2 * cap)))])) (fun t k => st3 t (XS.ishl X3.here hx rfl (hb hby d44_11) rfl (XS.istoreN X3.here hx rfl (hb hby d44_12) rfl (l' := #[sR a, sI (Int32.ofNat kk), .val (.int (Int32.ofNat (2 * cap))), .val (.int ((Int32.ofNat kk) <<< ((1 : Int32) &&& 31))), .unset, .unset]) rfl (XS.iloadN X3.here hx rfl (hb hby d44_13) rfl (XS.iloadN X3.here hx rfl (hb hby d44_14) rfl (XS.isub X3.here hx rfl (hb hby d44_15) rfl (XS.istore X3.here hx rfl (hb hby d44_16) rfl (l' := #[sR a, sI (Int32.ofNat kk), .val (.int (Int32.ofNat (2 * cap))), .val (.int ((Int32.ofNat kk) <<< ((1 : Int32) &&& 31))), .val (.int (((Int32.ofNat kk) <<< ((1 : Int32) &&& 31)) - (Int32.ofNat (2 * cap)))), .unset]) rfl (XS.iloadN X3.here hx rfl (hb hby d44_18) rfl (XS.iload X3.here hx rfl (hb hby d44_19) rfl (XS.iloadN X3.here hx rfl (hb hby d44_21) rfl (XS.iconst X3.here hx rfl (hb hby d44_22) (XS.aloadN X3.here hx rfl (hb hby d44_23) rfl rfl k)))))))))))) ?_
 obtain ⟨T4, X4, e4, st4⟩ := getF X3 hx hZ hown (host := "") (Or.inl (wq hw 59 rfl)) Via.refl e3 Fc_a (g := (mkF m 24 #[sR a, sI (Int32.ofNat kk), .val (.int (Int32.ofNat (2 * cap))), .val (.int ((Int32.ofNat kk) <<< ((1 : Int32) &&& 31))), .val (.int (((Int32.ofNat kk) <<< ((1 : Int32) &&& 31)) - (Int32.ofNat (2 * cap)))), .unset] [(.ref a), (.int (2 : Int32)), (.int (Int32.ofNat (2 * cap))), (.int (((Int32.ofNat kk) <<< ((1 : Int32) &&& 31)) - (Int32.ofNat (2 * cap)))), (.int (Int32.ofNat (2 * cap)))])) rfl rfl (hb hby d44_24)
 refine Goes.pre (U' := T4.setTop (mkF m 28 #[sR a, sI (Int32.ofNat kk), .val (.int (Int32.ofNat (2 * cap))), .val (.int ((Int32.ofNat kk) <<< ((1 : Int32) &&& 31))), .val (.int (((Int32.ofNat kk) <<< ((1 : Int32) &&& 31)) - (Int32.ofNat (2 * cap)))), .unset] [(.int ((2 : Int32) <<< ((1 : Int32) &&& 31))), (.int (Int32.ofNat (2 * cap))), (.int (((Int32.ofNat kk) <<< ((1 : Int32) &&& 31)) - (Int32.ofNat (2 * cap)))), (.int (Int32.ofNat (2 * cap)))])) (fun t k => st4 t (XS.ishl X4.here hx rfl (hb hby d44_27) rfl k)) ?_
 rw [(by decide : ((2 : Int32) <<< ((1 : Int32) &&& 31)) = (4 : Int32))]
 refine Goes.pre (U' := T4.setTop (mkF m 29 #[sR a, sI (Int32.ofNat kk), .val (.int (Int32.ofNat (2 * cap))), .val (.int ((Int32.ofNat kk) <<< ((1 : Int32) &&& 31))), .val (.int (((Int32.ofNat kk) <<< ((1 : Int32) &&& 31)) - (Int32.ofNat (2 * cap)))), .unset] [(.int ((Int32.ofNat (2 * cap)) + (4 : Int32))), (.int (((Int32.ofNat kk) <<< ((1 : Int32) &&& 31)) - (Int32.ofNat (2 * cap)))), (.int (Int32.ofNat (2 * cap)))])) (fun t k => XS.iadd X4.here hx rfl (hb hby d44_28) rfl k) ?_
 rw [← own_shl kk (by omega), own_sub (2 * cap) (2 * kk) (by omega), show Int32.ofNat (2 * cap) + (4 : Int32) = Int32.ofNat ((2 * cap) + 4) from own_addk _ _]
 obtain ⟨_, _, ⟨T5, L5, k5, n5⟩, -, X5, ⟨Lc5, hQ5, l5, y5, z5⟩, st5⟩ := Jvm.LawKit.callS X4 hx (y := M45) hown (mvT hZ (wq hw 225 rfl)) (mvT hZ (wq hw 226 rfl)) (mvT hZ (wq hw 227 rfl)) (mvT hZ (wq hw 228 rfl)) (by decide) (backOf (W := 0) (rm_nl l Z a0 hw [] (2 * cap) ((2 * kk) - (2 * cap)) ((2 * cap) + 4) h0 n0 Z0  (by omega) (by omega) (by omega) (by omega)) hZ (wq hw 228 rfl) (wq hw 227 rfl) (by decide) (by decide)) (g := (mkF m 29 #[sR a, sI (Int32.ofNat kk), .val (.int (Int32.ofNat (2 * cap))), .val (.int (Int32.ofNat (2 * kk))), .val (.int (Int32.ofNat ((2 * kk) - (2 * cap)))), .unset] [(.int (Int32.ofNat ((2 * cap) + 4))), (.int (Int32.ofNat ((2 * kk) - (2 * cap)))), (.int (Int32.ofNat (2 * cap)))])) rfl (by rw [hml]; rfl) (argsL := [(.int (Int32.ofNat (2 * cap))), (.int (Int32.ofNat ((2 * kk) - (2 * cap)))), (.int (Int32.ofNat ((2 * cap) + 4)))]) (rest := []) (lenOf pd__28III_29I rfl) rfl (by show 2 * 0 + _ ≤ _; exact Nat.le_of_eq rfl) (hb hby d44_29) (fun _ _ => ⟨rfl, e4, (by decide : 0 + 0 ≤ _), (by decide : 0 + 0 ≤ _)⟩)
 dsimp only [Pt.U, Pt.locs, Pt.cells, Pt.slots] at X5 l5 y5 z5 st5 hQ5
 subst l5 y5 z5
 obtain ⟨rfl, N5q, HQ5⟩ := hQ5
 have N5 := Fr.app N0 N5q
 refine Goes.pre (U' := T5.setTop (mkF m 38 #[sR a, sI (Int32.ofNat kk), .val (.int (Int32.ofNat (2 * cap))), .val (.int (Int32.ofNat (2 * kk))), .val (.int (Int32.ofNat ((2 * kk) - (2 * cap)))), .val (.int (Int32.ofNat ((2 * cap) + max ((2 * kk) - (2 * cap)) ((2 * cap) + 4))))] [(.int (2147483647 : Int32)), (.int (Int32.ofNat ((2 * cap) + max ((2 * kk) - (2 * cap)) ((2 * cap) + 4))))])) (fun t k => st5 t (XS.istore X5.here hx rfl (hb hby d44_32) rfl (l' := #[sR a, sI (Int32.ofNat kk), .val (.int (Int32.ofNat (2 * cap))), .val (.int (Int32.ofNat (2 * kk))), .val (.int (Int32.ofNat ((2 * kk) - (2 * cap)))), .val (.int (Int32.ofNat ((2 * cap) + max ((2 * kk) - (2 * cap)) ((2 * cap) + 4))))]) rfl (XS.iload X5.here hx rfl (hb hby d44_34) rfl (X5.ldcInt hx hown (mvT hZ (wq hw 231 rfl)) (g := (mkF m 36 #[sR a, sI (Int32.ofNat kk), .val (.int (Int32.ofNat (2 * cap))), .val (.int (Int32.ofNat (2 * kk))), .val (.int (Int32.ofNat ((2 * kk) - (2 * cap)))), .val (.int (Int32.ofNat ((2 * cap) + max ((2 * kk) - (2 * cap)) ((2 * cap) + 4))))] [(.int (Int32.ofNat ((2 * cap) + max ((2 * kk) - (2 * cap)) ((2 * cap) + 4))))])) rfl (hb hby d44_36) _ k)))) ?_
 have hc38 : ¬ ((Int32.ofNat ((2 * cap) + max ((2 * kk) - (2 * cap)) ((2 * cap) + 4))) = (2147483647 : Int32)) := (own_nl3 _ (by omega))
 refine Goes.pre (U' := T5.setTop (mkF m 54 #[sR a, sI (Int32.ofNat kk), .val (.int (Int32.ofNat (2 * cap))), .val (.int (Int32.ofNat (2 * kk))), .val (.int (Int32.ofNat ((2 * kk) - (2 * cap)))), .val (.int (Int32.ofNat ((2 * cap) + max ((2 * kk) - (2 * cap)) ((2 * cap) + 4))))] [(.ref a), (.int (Int32.ofNat ((2 * cap) + max ((2 * kk) - (2 * cap)) ((2 * cap) + 4))))])) (fun t k => XS.icmpYes X5.here hx rfl (pc0 := 38) (pc' := 51) rfl (hb hby d44_38) rfl (feq hc38).2 (by decide) (by decide) (XS.iload X5.here hx rfl (hb hby d44_51) rfl (XS.aloadN X5.here hx rfl (hb hby d44_53) rfl rfl k))) ?_
 obtain ⟨T6, X6, e6, st6⟩ := getF X5 hx hZ hown (host := "") (Or.inl (wq hw 59 rfl)) Via.refl HQ5 Fc_a (g := (mkF m 54 #[sR a, sI (Int32.ofNat kk), .val (.int (Int32.ofNat (2 * cap))), .val (.int (Int32.ofNat (2 * kk))), .val (.int (Int32.ofNat ((2 * kk) - (2 * cap)))), .val (.int (Int32.ofNat ((2 * cap) + max ((2 * kk) - (2 * cap)) ((2 * cap) + 4))))] [(.ref a), (.int (Int32.ofNat ((2 * cap) + max ((2 * kk) - (2 * cap)) ((2 * cap) + 4))))])) rfl rfl (hb hby d44_54)
 refine Goes.pre (U' := T6.setTop (mkF m 58 #[sR a, sI (Int32.ofNat kk), .val (.int (Int32.ofNat (2 * cap))), .val (.int (Int32.ofNat (2 * kk))), .val (.int (Int32.ofNat ((2 * kk) - (2 * cap)))), .val (.int (Int32.ofNat ((2 * cap) + max ((2 * kk) - (2 * cap)) ((2 * cap) + 4))))] [(.int ((Int32.ofNat ((2 * cap) + max ((2 * kk) - (2 * cap)) ((2 * cap) + 4))) >>> ((1 : Int32) &&& 31)))])) (fun t k => st6 t (XS.ishr X6.here hx rfl (hb hby d44_57) rfl k)) ?_
 refine Goes.ret X6 (v := (some (.int ((Int32.ofNat ((2 * cap) + max ((2 * kk) - (2 * cap)) ((2 * cap) + 4))) >>> ((1 : Int32) &&& 31))))) (fun h => by rw [hret] at h; cases h) hlk (by decide) (by decide) e6 (fun fs hr => retI X6 hx hret (hb hby d44_58) hr) ?_
 exact ⟨congrArg (fun z => some (Value.int z)) (show ((Int32.ofNat ((2 * cap) + max ((2 * kk) - (2 * cap)) ((2 * cap) + 4))) >>> ((1 : Int32) &&& 31)) = Int32.ofNat (own_nc cap kk) from (by rw [show 2 * cap + max (2 * kk - 2 * cap) (2 * cap + 4) = 2 * own_nc cap kk from by unfold own_nc; omega]; exact own_shr1 _ (by unfold own_nc; omega))), N5, rfl⟩
theorem ef_rm_ens1 (m : MethodId) (x0 : Addr) (x1 : Int32) : entryFrame m #[(.ref x0), (.int x1)] 3 = mkF m 0 #[sR x0, sI x1, .unset] [] := by first | (simp [entryFrame, mkF, argsToLocals, Value.category]; done) | rfl
def Q_rm_ens1 (Z : State) (a : Addr) (b : Addr) (kb : ClassId) (cap : Nat) (kk : Nat) (vs : List Value) (ct : Int32) (h0 : Heap) (n0 : Nat) (v : Option Value) (h : Heap) (L : List Loc) : Prop := ∃ (bx : Addr) (kx : ClassId) (cx : Nat), v = none ∧ Fr n0 L ∧ Keep h0 h [a] ∧ Exa Z h bx "[B" ∧ Fld Z h a "java/lang/AbstractStringBuilder" "value" "[B" (.ref bx) ∧ Fld Z h a "java/lang/AbstractStringBuilder" "coder" "B" (.int (1 : Int32)) ∧ Fld Z h a "java/lang/AbstractStringBuilder" "count" "I" (.int ct) ∧ Fld Z h a "java/lang/AbstractStringBuilder" "maybeLatin1" "Z" (.int (0 : Int32)) ∧ Arv Z h bx kx .byte (Int32.ofNat (2 * cx)) vs (.int (0 : Int32)) ∧ n0 ≤ bx ∧ (bx = b ∨ h0.size ≤ bx) ∧ kk ≤ cx ∧ cx ≤ 48 ∧ vs.length ≤ 2 * cx
set_option maxRecDepth 65536 in
set_option maxHeartbeats 40000000 in
theorem rm_ens1 (l : Launch) (Z : State) (a0 : Array Value) (hw : ∀ d ∈ tables_1, d.before a0 Z = true) (ws : List Jvm.Cond) (a : Addr) (b : Addr) (kb : ClassId) (cap : Nat) (kk : Nat) (vs : List Value) (ct : Int32) (h0 : Heap) (n0 : Nat) (Z0 : n0 ≤ h0.size) (E_a : Exa Z h0 a "java/lang/StringBuilder") (E_b : Exa Z h0 b "[B") (Fv_a : Fld Z h0 a "java/lang/AbstractStringBuilder" "value" "[B" (.ref b)) (Fc_a : Fld Z h0 a "java/lang/AbstractStringBuilder" "coder" "B" (.int (1 : Int32))) (Fn_a : Fld Z h0 a "java/lang/AbstractStringBuilder" "count" "I" (.int ct)) (Fm_a : Fld Z h0 a "java/lang/AbstractStringBuilder" "maybeLatin1" "Z" (.int (0 : Int32))) (V_b : Arv Z h0 b kb .byte (Int32.ofNat (2 * cap)) vs (.int (0 : Int32))) (hc2 : cap ≤ 48) (hk2 : kk ≤ 24) (hvl : vs.length ≤ 2 * cap) (g_b : n0 ≤ b) (ne_b_a : b ≠ a) (g_a : n0 ≤ a) :
  Met l Z M12 jdk_68_method_9_code 3 none ws (Rm 3 1 96 48) #[(.ref a), (.int (Int32.ofNat kk))] h0 (Q_rm_ens1 Z a b kb cap kk vs ct h0 n0) := by
 refine met_of (plainFor_of_name pn_java_lang_AbstractStringBuilder) (own := "java/lang/AbstractStringBuilder") rfl (fun m => ef_rm_ens1 m a (Int32.ofNat kk)) ?_
 intro p e s m below meth c s₁ hx hby hml hown hnm hZ X0 e0 hret hlk
 have N0 := Fr.nil n0
 have K0 := Keep.refl h0 [a]
 show Goes p e below s _ _ _ (s₁.setTop (mkF m 0 #[sR a, sI (Int32.ofNat kk), .unset] []))
 refine Goes.pre (U' := s₁.setTop (mkF m 1 #[sR a, sI (Int32.ofNat kk), .unset] [(.ref a)])) (fun t k => XS.aloadN X0.here hx rfl (hb hby d12_0) rfl rfl k) ?_
 obtain ⟨T1, X1, e1, st1⟩ := getF X0 hx hZ hown (host := "") (Or.inl (wq hw 57 rfl)) Via.refl e0 Fv_a (g := (mkF m 1 #[sR a, sI (Int32.ofNat kk), .unset] [(.ref a)])) rfl rfl (hb hby d12_1)
 refine Goes.pre (U' := T1.setTop (mkF m 4 #[sR a, sI (Int32.ofNat kk), .unset] [(.ref b)])) (fun t k => st1 t k) ?_
 obtain ⟨cl2, Ar2, q2, Sz2, Ng2, -, -⟩ := id V_b
 have ln2 := len_of Sz2 Ng2
 refine Goes.pre (U' := T1.setTop (mkF m 6 #[sR a, sI (Int32.ofNat kk), .unset] [(.ref a), (.int (Int32.ofNat (2 * cap)))])) (fun t k => X1.arraylength hx (by rw [e1]; exact Ar2.1) (State.isArrayOf_alike hZ.alike Ar2.2.1) (g := (mkF m 4 #[sR a, sI (Int32.ofNat kk), .unset] [(.ref b)])) rfl rfl (hb hby d12_4) _ (by rw [ln2]; exact (XS.aloadN X1.here hx rfl (hb hby d12_5) rfl rfl k))) ?_
 obtain ⟨T3, X3, e3, st3⟩ := getF X1 hx hZ hown (host := "") (Or.inl (wq hw 59 rfl)) Via.refl e1 Fc_a (g := (mkF m 6 #[sR a, sI (Int32.ofNat kk), .unset] [(.ref a), (.int (Int32.ofNat (2 * cap)))])) rfl rfl (hb hby d12_6)
 refine Goes.pre (U' := T3.setTop (mkF m 11 #[sR a, sI (Int32.ofNat kk), .val (.int ((Int32.ofNat (2 * cap)) >>> ((1 : Int32) &&& 31)))] [])) (fun t k => st3 t (XS.ishr X3.here hx rfl (hb hby d12_9) rfl (XS.istoreN X3.here hx rfl (hb hby d12_10) rfl (l' := #[sR a, sI (Int32.ofNat kk), .val (.int ((Int32.ofNat (2 * cap)) >>> ((1 : Int32) &&& 31)))]) rfl k))) ?_
 by_cases hcp : cap < kk
 ·
  refine Goes.pre (U' := T3.setTop (mkF m 14 #[sR a, sI (Int32.ofNat kk), .val (.int ((Int32.ofNat (2 * cap)) >>> ((1 : Int32) &&& 31)))] [(.int ((Int32.ofNat kk) - ((Int32.ofNat (2 * cap)) >>> ((1 : Int32) &&& 31))))])) (fun t k => XS.iloadN X3.here hx rfl (hb hby d12_11) rfl (XS.iloadN X3.here hx rfl (hb hby d12_12) rfl (XS.isub X3.here hx rfl (hb hby d12_13) rfl k))) ?_
  have hc14 : (0 : Int32) < ((Int32.ofNat kk) - ((Int32.ofNat (2 * cap)) >>> ((1 : Int32) &&& 31))) := (by rw [(own_shr1 cap (by omega))]; exact own_pos _ _ hcp (by omega))
  refine Goes.pre (U' := T3.setTop (mkF m 19 #[sR a, sI (Int32.ofNat kk), .val (.int ((Int32.ofNat (2 * cap)) >>> ((1 : Int32) &&& 31)))] [(.ref a), (.ref a)])) (fun t k => XS.ifNo X3.here hx rfl (hb hby d12_14) rfl ((if0 _ _).trans (tlt hc14).2.2.2) (XS.aloadN X3.here hx rfl (hb hby d12_17) rfl rfl (XS.aloadN X3.here hx rfl (hb hby d12_18) rfl rfl k))) ?_
  obtain ⟨T4, X4, e4, st4⟩ := getF X3 hx hZ hown (host := "") (Or.inl (wq hw 57 rfl)) Via.refl e3 Fv_a (g := (mkF m 19 #[sR a, sI (Int32.ofNat kk), .val (.int ((Int32.ofNat (2 * cap)) >>> ((1 : Int32) &&& 31)))] [(.ref a), (.ref a)])) rfl rfl (hb hby d12_19)
  refine Goes.pre (U' := T4.setTop (mkF m 24 #[sR a, sI (Int32.ofNat kk), .val (.int ((Int32.ofNat (2 * cap)) >>> ((1 : Int32) &&& 31)))] [(.int (Int32.ofNat kk)), (.ref a), (.ref b), (.ref a)])) (fun t k => st4 t (XS.aloadN X4.here hx rfl (hb hby d12_22) rfl rfl (XS.iloadN X4.here hx rfl (hb hby d12_23) rfl k))) ?_
  obtain ⟨cq5, q5, q5'⟩ := E_a.cell
  obtain ⟨_, _, ⟨T5, L5, k5, n5⟩, -, X5, ⟨Lc5, hQ5, l5, y5, z5⟩, st5⟩ := X4.privateBack hx (y := M44) hown (mvT hZ (wq hw 220 rfl)) (mvT hZ (wq hw 221 rfl)) (mvT hZ (own_selfp (wq hw 223 rfl) (wq hw 221 rfl) (wq hw 222 rfl) (by decide) (by decide))) (Cond.privateMethod_at (mvP hZ (wq hw 222 rfl) (args := #[]))) (mvT hZ (wq hw 224 rfl)) (by decide) (backOf (W := 2) (rm_nc1 l Z a0 hw [] a b kb cap kk vs h0 n0 Z0 Fv_a Fc_a V_b hc2 hk2 hcp) hZ (wq hw 224 rfl) (wq hw 53 rfl) (by decide) (by decide)) (g := (mkF m 24 #[sR a, sI (Int32.ofNat kk), .val (.int ((Int32.ofNat (2 * cap)) >>> ((1 : Int32) &&& 31)))] [(.int (Int32.ofNat kk)), (.ref a), (.ref b), (.ref a)])) rfl (by rw [hml]; rfl) (Steps.refl _) (a := a) (by rw [e4]; exact q5) q5' (argsL := [(.int (Int32.ofNat kk))]) (rest := [(.ref b), (.ref a)]) (lenOf pd__28I_29I rfl) rfl (by show 2 * 0 + _ ≤ _; exact Nat.le_of_eq rfl) (hb hby d12_24) (fun _ _ => ⟨rfl, e4, (by decide : 0 + 0 ≤ _), (by decide : 0 + 0 ≤ _)⟩)
  dsimp only [Pt.U, Pt.locs, Pt.cells, Pt.slots] at X5 l5 y5 z5 st5 hQ5
  subst l5 y5 z5
  obtain ⟨rfl, N5q, HQ5⟩ := hQ5
  have N5 := Fr.app N0 N5q
  refine Goes.pre (U' := T5.setTop (mkF m 28 #[sR a, sI (Int32.ofNat kk), .val (.int ((Int32.ofNat (2 * cap)) >>> ((1 : Int32) &&& 31)))] [(.ref a), (.int (Int32.ofNat (own_nc cap kk))), (.ref b), (.ref a)])) (fun t k => st5.trans (XS.aloadN X5.here hx rfl (hb hby d12_27) rfl rfl k)) ?_
  obtain ⟨T6, X6, e6, st6⟩ := getF X5 hx hZ hown (host := "") (Or.inl (wq hw 59 rfl)) Via.refl HQ5 Fc_a (g := (mkF m 28 #[sR a, sI (Int32.ofNat kk), .val (.int ((Int32.ofNat (2 * cap)) >>> ((1 : Int32) &&& 31)))] [(.ref a), (.int (Int32.ofNat (own_nc cap kk))), (.ref b), (.ref a)])) rfl rfl (hb hby d12_28)
  refine Goes.pre (U' := T6.setTop (mkF m 32 #[sR a, sI (Int32.ofNat kk), .val (.int ((Int32.ofNat (2 * cap)) >>> ((1 : Int32) &&& 31)))] [(.int ((Int32.ofNat (own_nc cap kk)) <<< ((1 : Int32) &&& 31))), (.ref b), (.ref a)])) (fun t k => st6 t (XS.ishl X6.here hx rfl (hb hby d12_31) rfl k)) ?_
  have hnc : own_nc cap kk ≤ 48 := by unfold own_nc; omega
  have hnc2 : cap < own_nc cap kk := by unfold own_nc; omega
  have hnc3 : kk ≤ own_nc cap kk := by unfold own_nc; omega
  rw [← own_shl _ (by omega)]
  have lt_a := E_a.lt
  have lt_b := E_b.lt
  obtain ⟨_, _, ⟨T7, L7, k7, n7⟩, -, X7, ⟨Lc7, hQ7, l7, y7, z7⟩, st7⟩ := Jvm.LawKit.callS X6 hx (y := M46) hown (mvT hZ (wq hw 232 rfl)) (mvT hZ (wq hw 233 rfl)) (mvT hZ (wq hw 117 rfl)) (mvT hZ (wq hw 234 rfl)) (by decide) (backOf (W := 1) (rm_aco l Z a0 hw [] b kb (2 * cap) (2 * own_nc cap kk) vs h0 n0 Z0 V_b (by omega) (by omega) hvl) hZ (wq hw 234 rfl) (wq hw 117 rfl) (by decide) (by decide)) (g := (mkF m 32 #[sR a, sI (Int32.ofNat kk), .val (.int ((Int32.ofNat (2 * cap)) >>> ((1 : Int32) &&& 31)))] [(.int (Int32.ofNat (2 * own_nc cap kk))), (.ref b), (.ref a)])) rfl (by rw [hml]; rfl) (argsL := [(.ref b), (.int (Int32.ofNat (2 * own_nc cap kk)))]) (rest := [(.ref a)]) (lenOf pd__28_5bBI_29_5bB rfl) rfl (by show 2 * 0 + _ ≤ _; exact Nat.le_of_eq rfl) (hb hby d12_32) (fun _ _ => ⟨rfl, e6, (by decide : 0 + 1 ≤ _), (by decide : 0 + 96 ≤ _)⟩)
  dsimp only [Pt.U, Pt.locs, Pt.cells, Pt.slots] at X7 l7 y7 z7 st7 hQ7
  subst l7 y7 z7
  obtain ⟨r7, kr7, rfl, N7q, KQ7, fo0_7, fo1_7, g_r7, sl_r7⟩ := hQ7
  have N7 := Fr.app N5 N7q
  have E_a := E_a.keep KQ7
  have E_b := E_b.keep KQ7
  have Fv_a := Fv_a.keep KQ7 nin0
  have Fc_a := Fc_a.keep KQ7 nin0
  have Fn_a := Fn_a.keep KQ7 nin0
  have Fm_a := Fm_a.keep KQ7 nin0
  have V_b := V_b.keep KQ7 nin0
  have Z8 : n0 ≤ T7.heap.size := Nat.le_trans Z0 KQ7.1
  have K8 := K0.trans KQ7 all0
  have ne_a_r7 : a ≠ r7 := Nat.ne_of_lt (Nat.lt_of_lt_of_le lt_a sl_r7)
  have ne_r7_a := ne_a_r7.symm
  have ne_b_r7 : b ≠ r7 := Nat.ne_of_lt (Nat.lt_of_lt_of_le lt_b sl_r7)
  have ne_r7_b := ne_b_r7.symm
  have sz_r7 : h0.size ≤ r7 := Nat.le_trans K0.1 sl_r7
  have E_r7 := fo0_7
  have V_r7 := fo1_7
  refine Goes.pre (U' := T7.setTop (mkF m 35 #[sR a, sI (Int32.ofNat kk), .val (.int ((Int32.ofNat (2 * cap)) >>> ((1 : Int32) &&& 31)))] [(.ref r7), (.ref a)])) (fun t k => st7 t k) ?_
  obtain ⟨T9, h9, X9, e9, W9, st9⟩ := putF X7 hx hZ hown (host := "") (Or.inl (wq hw 57 rfl)) Via.refl rfl Fv_a E_a (Or.inl (wq hw 58 rfl)) (wq hw 33 rfl) (ty := (.array .byte)) (by decide) rfl rfl (g := (mkF m 35 #[sR a, sI (Int32.ofNat kk), .val (.int ((Int32.ofNat (2 * cap)) >>> ((1 : Int32) &&& 31)))] [(.ref r7), (.ref a)])) rfl rfl (hb hby d12_35)
  have E_a := E_a.wr W9
  have E_b := E_b.wr W9
  have Fc_a := Fc_a.other W9 (Or.inr (slot_ne (Or.inl (wq hw 60 rfl)) (Or.inl (wq hw 58 rfl)) (by decide) (t := .byte) (t' := (.array .byte)) (by decide) (by decide)))
  have Fn_a := Fn_a.other W9 (Or.inr (slot_ne (Or.inl (wq hw 72 rfl)) (Or.inl (wq hw 58 rfl)) (by decide) (t := .int) (t' := (.array .byte)) (by decide) (by decide)))
  have Fm_a := Fm_a.other W9 (Or.inr (slot_ne (Or.inl (wq hw 315 rfl)) (Or.inl (wq hw 58 rfl)) (by decide) (t := .boolean) (t' := (.array .byte)) (by decide) (by decide)))
  have V_b := V_b.other W9 ne_b_a
  have E_r7 := E_r7.wr W9
  have V_r7 := V_r7.other W9 ne_r7_a
  have Z9 : n0 ≤ h9.size := Nat.le_trans Z8 (Keep.of_wr W9).1
  have Fv_a := Fv_a.same W9
  have K9 := K8.wr W9 (Or.inl (List.mem_of_getElem? (i := 0) rfl))
  have N9 := Fr.snoc X9 N7 g_a
  refine Goes.pre (U' := T9.setTop (mkF m 38 #[sR a, sI (Int32.ofNat kk), .val (.int ((Int32.ofNat (2 * cap)) >>> ((1 : Int32) &&& 31)))] [])) (fun t k => st9 t k) ?_
  refine Goes.ret X9 (v := none) (fun _ => rfl) hlk (by decide) (by decide) e9 (fun fs hr => X9.returnOut hx hret (hb hby d12_38) hr) ?_
  exact ⟨r7, kr7, own_nc cap kk, rfl, N9, K9, E_r7, Fv_a, Fc_a, Fn_a, Fm_a, V_r7, g_r7, Or.inr sz_r7, ⟨hnc3, hnc, by omega⟩⟩
 ·
  refine Goes.pre (U' := T3.setTop (mkF m 14 #[sR a, sI (Int32.ofNat kk), .val (.int ((Int32.ofNat (2 * cap)) >>> ((1 : Int32) &&& 31)))] [(.int ((Int32.ofNat kk) - ((Int32.ofNat (2 * cap)) >>> ((1 : Int32) &&& 31))))])) (fun t k => XS.iloadN X3.here hx rfl (hb hby d12_11) rfl (XS.iloadN X3.here hx rfl (hb hby d12_12) rfl (XS.isub X3.here hx rfl (hb hby d12_13) rfl k))) ?_
  have hc14 : ¬ ((0 : Int32) < ((Int32.ofNat kk) - ((Int32.ofNat (2 * cap)) >>> ((1 : Int32) &&& 31)))) := (by rw [(own_shr1 cap (by omega))]; exact own_npos _ _ (by omega) (by omega))
  refine Goes.pre (U' := T3.setTop (mkF m 38 #[sR a, sI (Int32.ofNat kk), .val (.int ((Int32.ofNat (2 * cap)) >>> ((1 : Int32) &&& 31)))] [])) (fun t k => XS.ifYes X3.here hx rfl (pc0 := 14) (pc' := 38) rfl (hb hby d12_14) rfl ((if0 _ _).trans (flt hc14).2.2.2) (by decide) (by decide) k) ?_
  refine Goes.ret X3 (v := none) (fun _ => rfl) hlk (by decide) (by decide) e3 (fun fs hr => X3.returnOut hx hret (hb hby d12_38) hr) ?_
  exact ⟨b, kb, cap, rfl, N0, K0, E_b, Fv_a, Fc_a, Fn_a, Fm_a, V_b, g_b, Or.inl rfl, ⟨by omega, hc2, hvl⟩⟩
theorem ef_rm_inf (m : MethodId) (x0 : Addr) : entryFrame m #[(.ref x0)] 2 = mkF m 0 #[sR x0, .unset] [] := by first | (simp [entryFrame, mkF, argsToLocals, Value.category]; done) | rfl
abbrev M59 : MethodName := ⟨"java/lang/AbstractStringBuilder", "inflate", "()V"⟩
theorem d59_0 : decode B59 0 = .ok (.aload_n 0, 1) := by decide +kernel
theorem d59_1 : decode B59 1 = .ok (.invokevirtual 83, 3) := by decide +kernel
theorem d59_4 : decode B59 4 = .ok (.ifCond .ne 4, 3) := by decide +kernel
theorem d59_8 : decode B59 8 = .ok (.aload_n 0, 1) := by decide +kernel
theorem d59_9 : decode B59 9 = .ok (.getfield 15, 3) := by decide +kernel
theorem d59_12 : decode B59 12 = .ok (.arraylength, 1) := by decide +kernel
theorem d59_13 : decode B59 13 = .ok (.invokestatic 26, 3) := by decide +kernel
theorem d59_16 : decode B59 16 = .ok (.astore_n 1, 1) := by decide +kernel
theorem d59_17 : decode B59 17 = .ok (.aload_n 0, 1) := by decide +kernel
theorem d59_18 : decode B59 18 = .ok (.getfield 15, 3) := by decide +kernel
theorem d59_21 : decode B59 21 = .ok (.iconst 0, 1) := by decide +kernel
theorem d59_22 : decode B59 22 = .ok (.aload_n 1, 1) := by decide +kernel
theorem d59_23 : decode B59 23 = .ok (.iconst 0, 1) := by decide +kernel
theorem d59_24 : decode B59 24 = .ok (.aload_n 0, 1) := by decide +kernel
theorem d59_25 : decode B59 25 = .ok (.getfield 79, 3) := by decide +kernel
theorem d59_28 : decode B59 28 = .ok (.invokestatic 125, 3) := by decide +kernel
theorem d59_31 : decode B59 31 = .ok (.aload_n 0, 1) := by decide +kernel
theorem d59_32 : decode B59 32 = .ok (.aload_n 1, 1) := by decide +kernel
theorem d59_33 : decode B59 33 = .ok (.putfield 15, 3) := by decide +kernel
theorem d59_36 : decode B59 36 = .ok (.aload_n 0, 1) := by decide +kernel
theorem d59_37 : decode B59 37 = .ok (.iconst 1, 1) := by decide +kernel
theorem d59_38 : decode B59 38 = .ok (.putfield 22, 3) := by decide +kernel
theorem d59_41 : decode B59 41 = .ok (.return_, 1) := by decide +kernel
def Q_rm_inf (Z : State) (a : Addr) (b : Addr) (kb : ClassId) (cap : Nat) (cl : List Int32) (cs : Int32) (sf : Value) (h0 : Heap) (n0 : Nat) (v : Option Value) (h : Heap) (L : List Loc) : Prop := ∃ (bx : Addr) (kx : ClassId), v = none ∧ Fr n0 L ∧ Keep h0 h [a] ∧ Exa Z h bx "[B" ∧ Fld Z h a "java/lang/AbstractStringBuilder" "value" "[B" (.ref bx) ∧ Fld Z h a "java/lang/AbstractStringBuilder" "coder" "B" (.int (1 : Int32)) ∧ Fld Z h a "java/lang/AbstractStringBuilder" "count" "I" (.int (Int32.ofNat cl.length)) ∧ Fld Z h a "java/lang/AbstractStringBuilder" "maybeLatin1" "Z" (.int (0 : Int32)) ∧ Arv Z h bx kx .byte (Int32.ofNat (2 * cap)) (cl.flatMap fun c => [.int (c >>> ((0 : Int32) &&& 31)).toInt8.toInt32, .int (c >>> ((8 : Int32) &&& 31)).toInt8.toInt32]) (.int (0 : Int32)) ∧ n0 ≤ bx ∧ h0.size ≤ bx
set_option maxRecDepth 65536 in
set_option maxHeartbeats 40000000 in
theorem rm_inf (l : Launch) (Z : State) (a0 : Array Value) (hw : ∀ d ∈ tables_1, d.before a0 Z = true) (ws : List Jvm.Cond) (a : Addr) (b : Addr) (kb : ClassId) (cap : Nat) (cl : List Int32) (cs : Int32) (sf : Value) (h0 : Heap) (n0 : Nat) (Z0 : n0 ≤ h0.size) (E_a : Exa Z h0 a "java/lang/StringBuilder") (Fv_a : Fld Z h0 a "java/lang/AbstractStringBuilder" "value" "[B" (.ref b)) (Fc_a : Fld Z h0 a "java/lang/AbstractStringBuilder" "coder" "B" (.int (0 : Int32))) (Fn_a : Fld Z h0 a "java/lang/AbstractStringBuilder" "count" "I" (.int (Int32.ofNat cl.length))) (Fm_a : Fld Z h0 a "java/lang/AbstractStringBuilder" "maybeLatin1" "Z" (.int (0 : Int32))) (sC : OCS Z (.int cs)) (sA : OAD Z (.int (1 : Int32))) (sH : OHI Z (.int (0 : Int32))) (sL : OLO Z (.int (8 : Int32))) (sF : OSF Z sf) (V_b : Arv Z h0 b kb .byte (Int32.ofNat cap) (cl.map fun c => .int c.toInt8.toInt32) (.int (0 : Int32))) (hc2 : cap ≤ 48) (hcap : cl.length ≤ cap) (hcA : ∀ c ∈ cl, OwnCh c) (hleA : ∀ c ∈ cl, ¬ ((255 : Int32) < c)) (hcs : ¬ (cs = (0 : Int32))) (hsf : sf.isRef = true) (ne_b_a : b ≠ a) (g_a : n0 ≤ a) (O : Old Z n0 h0) :
  Met l Z M59 jdk_68_method_11_code 2 none ws (Rm 5 1 96 76) #[(.ref a)] h0 (Q_rm_inf Z a b kb cap cl cs sf h0 n0) := by
 refine met_of (plainFor_of_name pn_java_lang_AbstractStringBuilder) (own := "java/lang/AbstractStringBuilder") rfl (fun m => ef_rm_inf m a) ?_
 intro p e s m below meth c s₁ hx hby hml hown hnm hZ X0 e0 hret hlk
 have N0 := Fr.nil n0
 have K0 := Keep.refl h0 [a]
 show Goes p e below s _ _ _ (s₁.setTop (mkF m 0 #[sR a, .unset] []))
 refine Goes.pre (U' := s₁.setTop (mkF m 1 #[sR a, .unset] [(.ref a)])) (fun t k => XS.aloadN X0.here hx rfl (hb hby d59_0) rfl rfl k) ?_
 obtain ⟨cq1, kq1, q1a, q1b, q1c⟩ := isOf hZ e0 E_a
 obtain ⟨_, _, ⟨T1, L1, k1, n1⟩, -, X1, ⟨Lc1, hQ1, l1, y1, z1⟩, st1⟩ := X0.virtualBack hx (y := M13) (z := M13) hown (mvT hZ (wq hw 78 rfl)) (mvT hZ (wq hw 79 rfl)) (notFace_of_selects (args := #[]) (mvT hZ (wq hw 81 rfl))) (mvT hZ (wq hw 81 rfl)) (mvT hZ (wq hw 80 rfl)) (by decide) (backOf (W := 0) (rm_aL0 l Z a0 hw [] a cs h0 n0 Z0 sC Fc_a hcs O) hZ (wq hw 82 rfl) (wq hw 53 rfl) (by decide) (by decide)) q1a q1c (g := (mkF m 1 #[sR a, .unset] [(.ref a)])) rfl (by rw [hml]; rfl) (Steps.refl _) (argsL := []) (rest := []) (lenOf pd__28_29Z rfl) rfl (by show 2 * 0 + _ ≤ _; exact Nat.le_of_eq rfl) (hb hby d59_1) (fun _ _ => ⟨rfl, e0, (by decide : 0 + 0 ≤ _), (by decide : 0 + 0 ≤ _)⟩)
 dsimp only [Pt.U, Pt.locs, Pt.cells, Pt.slots] at X1 l1 y1 z1 st1 hQ1
 subst l1 y1 z1
 obtain ⟨rfl, N1q, HQ1⟩ := hQ1
 have N1 := Fr.app N0 N1q
 refine Goes.pre (U' := T1.setTop (mkF m 4 #[sR a, .unset] [(.int (1 : Int32))])) (fun t k => st1.trans k) ?_
 have hc4 : ¬ ((1 : Int32) = (0 : Int32)) := by decide
 refine Goes.pre (U' := T1.setTop (mkF m 9 #[sR a, .unset] [(.ref a)])) (fun t k => XS.ifYes X1.here hx rfl (pc0 := 4) (pc' := 8) rfl (hb hby d59_4) rfl ((if0 _ _).trans (feq hc4).2) (by decide) (by decide) (XS.aloadN X1.here hx rfl (hb hby d59_8) rfl rfl k)) ?_
 obtain ⟨T2, X2, e2, st2⟩ := getF X1 hx hZ hown (host := "") (Or.inl (wq hw 57 rfl)) Via.refl HQ1 Fv_a (g := (mkF m 9 #[sR a, .unset] [(.ref a)])) rfl rfl (hb hby d59_9)
 refine Goes.pre (U' := T2.setTop (mkF m 12 #[sR a, .unset] [(.ref b)])) (fun t k => st2 t k) ?_
 obtain ⟨cl3, Ar3, q3, Sz3, Ng3, -, -⟩ := id V_b
 have ln3 := len_of Sz3 Ng3
 refine Goes.pre (U' := T2.setTop (mkF m 13 #[sR a, .unset] [(.int (Int32.ofNat cap))])) (fun t k => X2.arraylength hx (by rw [e2]; exact Ar3.1) (State.isArrayOf_alike hZ.alike Ar3.2.1) (g := (mkF m 12 #[sR a, .unset] [(.ref b)])) rfl rfl (hb hby d59_12) _ (by rw [ln3]; exact k)) ?_
 have lt_a := E_a.lt
 have lt_b := V_b.lt
 obtain ⟨_, _, ⟨T4, L4, k4, n4⟩, -, X4, ⟨Lc4, hQ4, l4, y4, z4⟩, st4⟩ := Jvm.LawKit.callS X2 hx (y := M52) hown (mvT hZ (wq hw 295 rfl)) (mvT hZ (wq hw 265 rfl)) (mvT hZ (wq hw 163 rfl)) (mvT hZ (wq hw 266 rfl)) (by decide) (backOf (W := 0) (rm_nbfC l Z a0 hw [] cap h0 n0 Z0  hc2) hZ (wq hw 266 rfl) (wq hw 163 rfl) (by decide) (by decide)) (g := (mkF m 13 #[sR a, .unset] [(.int (Int32.ofNat cap))])) rfl (by rw [hml]; rfl) (argsL := [(.int (Int32.ofNat cap))]) (rest := []) (lenOf pd__28I_29_5bB rfl) rfl (by show 2 * 0 + _ ≤ _; exact Nat.le_of_eq rfl) (hb hby d59_13) (fun _ _ => ⟨rfl, e2, (by decide : 0 + 1 ≤ _), (by decide : 0 + 96 ≤ _)⟩)
 dsimp only [Pt.U, Pt.locs, Pt.cells, Pt.slots] at X4 l4 y4 z4 st4 hQ4
 subst l4 y4 z4
 obtain ⟨r4, kr4, rfl, N4q, KQ4, fo0_4, fo1_4, g_r4, sl_r4⟩ := hQ4
 have N4 := Fr.app N1 N4q
 have E_a := E_a.keep KQ4
 have Fv_a := Fv_a.keep KQ4 nin0
 have Fc_a := Fc_a.keep KQ4 nin0
 have Fn_a := Fn_a.keep KQ4 nin0
 have Fm_a := Fm_a.keep KQ4 nin0
 have V_b := V_b.keep KQ4 nin0
 have Z5 : n0 ≤ T4.heap.size := Nat.le_trans Z0 KQ4.1
 have O := O.keep KQ4 all0
 have K5 := K0.trans KQ4 all0
 have ne_a_r4 : a ≠ r4 := Nat.ne_of_lt (Nat.lt_of_lt_of_le lt_a sl_r4)
 have ne_r4_a := ne_a_r4.symm
 have ne_b_r4 : b ≠ r4 := Nat.ne_of_lt (Nat.lt_of_lt_of_le lt_b sl_r4)
 have ne_r4_b := ne_b_r4.symm
 have sz_r4 : h0.size ≤ r4 := Nat.le_trans K0.1 sl_r4
 have E_r4 := fo0_4
 have V_r4 := fo1_4
 refine Goes.pre (U' := T4.setTop (mkF m 18 #[sR a, sR r4] [(.ref a)])) (fun t k => st4 t (XS.astoreN X4.here hx rfl (hb hby d59_16) rfl rfl (l' := #[sR a, sR r4]) rfl (XS.aloadN X4.here hx rfl (hb hby d59_17) rfl rfl k))) ?_
 obtain ⟨T6, X6, e6, st6⟩ := getF X4 hx hZ hown (host := "") (Or.inl (wq hw 57 rfl)) Via.refl rfl Fv_a (g := (mkF m 18 #[sR a, sR r4] [(.ref a)])) rfl rfl (hb hby d59_18)
 refine Goes.pre (U' := T6.setTop (mkF m 25 #[sR a, sR r4] [(.ref a), (.int (0 : Int32)), (.ref r4), (.int (0 : Int32)), (.ref b)])) (fun t k => st6 t (XS.iconst X6.here hx rfl (hb hby d59_21) (XS.aloadN X6.here hx rfl (hb hby d59_22) rfl rfl (XS.iconst X6.here hx rfl (hb hby d59_23) (XS.aloadN X6.here hx rfl (hb hby d59_24) rfl rfl k))))) ?_
 obtain ⟨T7, X7, e7, st7⟩ := getF X6 hx hZ hown (host := "") (Or.inl (wq hw 71 rfl)) Via.refl e6 Fn_a (g := (mkF m 25 #[sR a, sR r4] [(.ref a), (.int (0 : Int32)), (.ref r4), (.int (0 : Int32)), (.ref b)])) rfl rfl (hb hby d59_25)
 refine Goes.pre (U' := T7.setTop (mkF m 28 #[sR a, sR r4] [(.int (Int32.ofNat cl.length)), (.int (0 : Int32)), (.ref r4), (.int (0 : Int32)), (.ref b)])) (fun t k => st7 t k) ?_
 have V_r4 : Arv Z T4.heap r4 kr4 .byte (Int32.ofNat (2 * cap)) (([] : List Int32).flatMap fun c => [.int (c >>> ((0 : Int32) &&& 31)).toInt8.toInt32, .int (c >>> ((8 : Int32) &&& 31)).toInt8.toInt32]) (.int (0 : Int32)) := V_r4
 show Goes p e below s (Q_rm_inf Z a b kb cap cl cs sf h0 n0) (Rm 5 1 96 76).cells (Rm 5 1 96 76).slots (T7.setTop (mkF m 28 #[sR a, sR r4] [(.int (Int32.ofNat cl.length)), (.int (Int32.ofNat ([] : List Int32).length)), (.ref r4), (.int (0 : Int32)), (.ref b)]))
 obtain ⟨_, _, ⟨T8, L8, k8, n8⟩, -, X8, ⟨Lc8, hQ8, l8, y8, z8⟩, st8⟩ := Jvm.LawKit.callS X7 hx (y := M60) hown (mvT hZ (wq hw 296 rfl)) (mvT hZ (wq hw 297 rfl)) (mvT hZ (wq hw 85 rfl)) (mvT hZ (wq hw 298 rfl)) (by decide) (backOf (W := 0) (rm_linf l Z a0 hw [] b kb cap cl r4 kr4 cap ([] : List Int32) sf T4.heap n0 Z5 V_b V_r4 sA sH sL sF hcap (by omega) hc2 (by simpa using hcap) hcA hleA hsf ne_b_r4 g_r4 O) hZ (wq hw 298 rfl) (wq hw 85 rfl) (by decide) (by decide)) (g := (mkF m 28 #[sR a, sR r4] [(.int (Int32.ofNat cl.length)), (.int (Int32.ofNat ([] : List Int32).length)), (.ref r4), (.int (0 : Int32)), (.ref b)])) rfl (by rw [hml]; rfl) (argsL := [(.ref b), (.int (0 : Int32)), (.ref r4), (.int (Int32.ofNat ([] : List Int32).length)), (.int (Int32.ofNat cl.length))]) (rest := []) (lenOf pd__28_5bBI_5bBII_29V rfl) rfl (by show 2 * 0 + _ ≤ _; exact Nat.le_of_eq rfl) (hb hby d59_28) (fun _ _ => ⟨rfl, e7, (by decide : 1 + 0 ≤ _), (by decide : 96 + 0 ≤ _)⟩)
 dsimp only [Pt.U, Pt.locs, Pt.cells, Pt.slots] at X8 l8 y8 z8 st8 hQ8
 subst l8 y8 z8
 obtain ⟨rfl, N8q, KQ8, fo0_8⟩ := hQ8
 have N8 := Fr.app N4 N8q
 have E_a := E_a.keep KQ8
 have Fv_a := Fv_a.keep KQ8 (ninS ne_a_r4 nin0)
 have Fc_a := Fc_a.keep KQ8 (ninS ne_a_r4 nin0)
 have Fn_a := Fn_a.keep KQ8 (ninS ne_a_r4 nin0)
 have Fm_a := Fm_a.keep KQ8 (ninS ne_a_r4 nin0)
 have V_b := V_b.keep KQ8 (ninS ne_b_r4 nin0)
 have E_r4 := E_r4.keep KQ8
 have Z9 : n0 ≤ T8.heap.size := Nat.le_trans Z5 KQ8.1
 have O := O.keep KQ8 (allS (P := fun x => n0 ≤ x) g_r4 all0)
 have K9 := K5.trans KQ8 (allS (P := fun x => x ∈ [a] ∨ h0.size ≤ x) (Or.inr sz_r4) all0)
 have V_r4 := fo0_8
 refine Goes.pre (U' := T8.setTop (mkF m 33 #[sR a, sR r4] [(.ref r4), (.ref a)])) (fun t k => st8 t (XS.aloadN X8.here hx rfl (hb hby d59_31) rfl rfl (XS.aloadN X8.here hx rfl (hb hby d59_32) rfl rfl k))) ?_
 obtain ⟨T10, h10, X10, e10, W10, st10⟩ := putF X8 hx hZ hown (host := "") (Or.inl (wq hw 57 rfl)) Via.refl rfl Fv_a E_a (Or.inl (wq hw 58 rfl)) (wq hw 33 rfl) (ty := (.array .byte)) (by decide) rfl rfl (g := (mkF m 33 #[sR a, sR r4] [(.ref r4), (.ref a)])) rfl rfl (hb hby d59_33)
 have E_a := E_a.wr W10
 have Fc_a := Fc_a.other W10 (Or.inr (slot_ne (Or.inl (wq hw 60 rfl)) (Or.inl (wq hw 58 rfl)) (by decide) (t := .byte) (t' := (.array .byte)) (by decide) (by decide)))
 have Fn_a := Fn_a.other W10 (Or.inr (slot_ne (Or.inl (wq hw 72 rfl)) (Or.inl (wq hw 58 rfl)) (by decide) (t := .int) (t' := (.array .byte)) (by decide) (by decide)))
 have Fm_a := Fm_a.other W10 (Or.inr (slot_ne (Or.inl (wq hw 315 rfl)) (Or.inl (wq hw 58 rfl)) (by decide) (t := .boolean) (t' := (.array .byte)) (by decide) (by decide)))
 have V_b := V_b.other W10 ne_b_a
 have E_r4 := E_r4.wr W10
 have V_r4 := V_r4.other W10 ne_r4_a
 have Z10 : n0 ≤ h10.size := Nat.le_trans Z9 (Keep.of_wr W10).1
 have O := O.wr W10 g_a
 have Fv_a := Fv_a.same W10
 have K10 := K9.wr W10 (Or.inl (List.mem_of_getElem? (i := 0) rfl))
 have N10 := Fr.snoc X10 N8 g_a
 refine Goes.pre (U' := T10.setTop (mkF m 38 #[sR a, sR r4] [(.int (1 : Int32)), (.ref a)])) (fun t k => st10 t (XS.aloadN X10.here hx rfl (hb hby d59_36) rfl rfl (XS.iconst X10.here hx rfl (hb hby d59_37) k))) ?_
 obtain ⟨T11, h11, X11, e11, W11, st11⟩ := putFN X10 hx hZ hown (wq hw 59 rfl) Via.refl e10 Fc_a E_a (Or.inl (wq hw 60 rfl)) (wq hw 33 rfl) (ty := .byte) (v' := (.int (1 : Int32))) (by decide) rfl (by decide) (g := (mkF m 38 #[sR a, sR r4] [(.int (1 : Int32)), (.ref a)])) rfl rfl (hb hby d59_38)
 have E_a := E_a.wr W11
 have Fv_a := Fv_a.other W11 (Or.inr (slot_ne (Or.inl (wq hw 58 rfl)) (Or.inl (wq hw 60 rfl)) (by decide) (t := (.array .byte)) (t' := .byte) (by decide) (by decide)))
 have Fn_a := Fn_a.other W11 (Or.inr (slot_ne (Or.inl (wq hw 72 rfl)) (Or.inl (wq hw 60 rfl)) (by decide) (t := .int) (t' := .byte) (by decide) (by decide)))
 have Fm_a := Fm_a.other W11 (Or.inr (slot_ne (Or.inl (wq hw 315 rfl)) (Or.inl (wq hw 60 rfl)) (by decide) (t := .boolean) (t' := .byte) (by decide) (by decide)))
 have V_b := V_b.other W11 ne_b_a
 have E_r4 := E_r4.wr W11
 have V_r4 := V_r4.other W11 ne_r4_a
 have Z11 : n0 ≤ h11.size := Nat.le_trans Z10 (Keep.of_wr W11).1
 have O := O.wr W11 g_a
 have Fc_a := Fc_a.same W11
 have K11 := K10.wr W11 (Or.inl (List.mem_of_getElem? (i := 0) rfl))
 have N11 := Fr.snoc X11 N10 g_a
 refine Goes.pre (U' := T11.setTop (mkF m 41 #[sR a, sR r4] [])) (fun t k => st11 t k) ?_
 refine Goes.ret X11 (v := none) (fun _ => rfl) hlk (by decide) (by decide) e11 (fun fs hr => X11.returnOut hx hret (hb hby d59_41) hr) ?_
 have V_r4 : Arv Z h11 r4 kr4 .byte (Int32.ofNat (2 * cap)) (cl.flatMap fun c => [.int (c >>> ((0 : Int32) &&& 31)).toInt8.toInt32, .int (c >>> ((8 : Int32) &&& 31)).toInt8.toInt32]) (.int (0 : Int32)) := V_r4
 exact ⟨r4, kr4, rfl, N11, K11, E_r4, Fv_a, Fc_a, Fn_a, Fm_a, V_r4, g_r4, sz_r4⟩
theorem ef_rm_canC (m : MethodId) (x0 : Int32) : entryFrame m #[(.int x0)] 1 = mkF m 0 #[sI x0] [] := by first | (simp [entryFrame, mkF, argsToLocals, Value.category]; done) | rfl
abbrev M14 : MethodName := ⟨"java/lang/StringLatin1", "canEncode", "(C)Z"⟩
theorem d14_0 : decode B14 0 = .ok (.iload_n 0, 1) := by decide +kernel
theorem d14_1 : decode B14 1 = .ok (.sipush 255, 3) := by decide +kernel
theorem d14_4 : decode B14 4 = .ok (.if_icmp .gt 7, 3) := by decide +kernel
theorem d14_11 : decode B14 11 = .ok (.iconst 0, 1) := by decide +kernel
theorem d14_12 : decode B14 12 = .ok (.ireturn, 1) := by decide +kernel
theorem d14_7 : decode B14 7 = .ok (.iconst 1, 1) := by decide +kernel
theorem d14_8 : decode B14 8 = .ok (.goto 4, 3) := by decide +kernel
def own_canC (qx : Int32) : Int32 := (if (255 : Int32) < qx then (0 : Int32) else (1 : Int32))
def Q_rm_canC (Z : State) (qx : Int32) (h0 : Heap) (n0 : Nat) (v : Option Value) (h : Heap) (L : List Loc) : Prop := v = some (.int (own_canC qx)) ∧ Fr n0 L ∧ h = h0
set_option maxRecDepth 65536 in
set_option maxHeartbeats 40000000 in
theorem rm_canC (l : Launch) (Z : State) (a0 : Array Value) (hw : ∀ d ∈ tables_1, d.before a0 Z = true) (ws : List Jvm.Cond) (qx : Int32) (h0 : Heap) (n0 : Nat) (Z0 : n0 ≤ h0.size)  :
  Met l Z M14 jdk_43_method_3_code 1 (some .boolean) ws (Rm 0 0 0 0) #[(.int qx)] h0 (Q_rm_canC Z qx h0 n0) := by
 refine met_of (plainFor_of_name pn_java_lang_StringLatin1) (own := "java/lang/StringLatin1") rfl (fun m => ef_rm_canC m qx) ?_
 intro p e s m below meth c s₁ hx hby hml hown hnm hZ X0 e0 hret hlk
 have N0 := Fr.nil n0
 show Goes p e below s _ _ _ (s₁.setTop (mkF m 0 #[sI qx] []))
 refine Goes.pre (U' := s₁.setTop (mkF m 4 #[sI qx] [(.int (255 : Int32)), (.int qx)])) (fun t k => XS.iloadN X0.here hx rfl (hb hby d14_0) rfl (XS.sipush X0.here hx rfl (hb hby d14_1) k)) ?_
 by_cases hc4 : (255 : Int32) < qx
 ·
  refine Goes.pre (U' := s₁.setTop (mkF m 12 #[sI qx] [(.int (0 : Int32))])) (fun t k => XS.icmpYes X0.here hx rfl (pc0 := 4) (pc' := 11) rfl (hb hby d14_4) rfl (tlt hc4).2.2.1 (by decide) (by decide) (XS.iconst X0.here hx rfl (hb hby d14_11) k)) ?_
  refine Goes.ret X0 (v := (some (.int (0 : Int32)))) (fun h => by rw [hret] at h; cases h) hlk (by decide) (by decide) e0 (fun fs hr => retN X0 hx (t := .boolean) hret (by simp) (hb hby d14_12) hr) ?_
  exact ⟨congrArg (fun z => some (Value.int z)) (show (0 : Int32) = own_canC qx from (show own_canC qx = (0 : Int32) from by unfold own_canC; rw [if_pos hc4]).symm), N0, rfl⟩
 ·
  refine Goes.pre (U' := s₁.setTop (mkF m 12 #[sI qx] [(.int (1 : Int32))])) (fun t k => XS.icmpNo X0.here hx rfl (hb hby d14_4) rfl (flt hc4).2.2.1 (XS.iconst X0.here hx rfl (hb hby d14_7) (XS.goto X0.here hx rfl (pc0 := 8) (pc' := 12) rfl (hb hby d14_8) (by decide) (by decide) k))) ?_
  refine Goes.ret X0 (v := (some (.int (1 : Int32)))) (fun h => by rw [hret] at h; cases h) hlk (by decide) (by decide) e0 (fun fs hr => retN X0 hx (t := .boolean) hret (by simp) (hb hby d14_12) hr) ?_
  exact ⟨congrArg (fun z => some (Value.int z)) (show (1 : Int32) = own_canC qx from (show own_canC qx = (1 : Int32) from by unfold own_canC; rw [if_neg hc4]).symm), N0, rfl⟩
theorem own_canE (x : Int32) : (own_canC x = (0 : Int32) → (255 : Int32) < x) ∧ (¬ (own_canC x = (0 : Int32)) → ¬ ((255 : Int32) < x)) := by
  unfold own_canC
  split
  · exact ⟨fun _ => by assumption, fun h => absurd rfl h⟩
  · exact ⟨fun h => absurd h (by decide), fun _ => by assumption⟩
theorem own_snoc {P : Int32 → Prop} {cl : List Int32} {x : Int32} (h : ∀ c ∈ cl, P c) (q : P x) : ∀ c ∈ cl ++ [x], P c := fun c hc => by
  rcases List.mem_append.mp hc with k | k
  · exact h c k
  · rw [List.mem_singleton.mp k]; exact q
theorem own_lenS (cl : List Int32) (x : Int32) : Int32.ofNat cl.length + (1 : Int32) = Int32.ofNat (cl ++ [x]).length := by rw [List.length_append]; exact own_inc _
theorem own_canN (x : Int32) (h : ¬ ((255 : Int32) < x)) : ¬ (own_canC x = (0 : Int32)) := fun q => h ((own_canE x).1 q)
theorem ef_rm_apCl (m : MethodId) (x0 : Addr) (x1 : Int32) : entryFrame m #[(.ref x0), (.int x1)] 2 = mkF m 0 #[sR x0, sI x1] [] := by first | (simp [entryFrame, mkF, argsToLocals, Value.category]; done) | rfl
abbrev M11 : MethodName := ⟨"java/lang/AbstractStringBuilder", "append", "(C)Ljava/lang/AbstractStringBuilder;"⟩
theorem d11_0 : decode B11 0 = .ok (.aload_n 0, 1) := by decide +kernel
theorem d11_1 : decode B11 1 = .ok (.aload_n 0, 1) := by decide +kernel
theorem d11_2 : decode B11 2 = .ok (.getfield 79, 3) := by decide +kernel
theorem d11_5 : decode B11 5 = .ok (.iconst 1, 1) := by decide +kernel
theorem d11_6 : decode B11 6 = .ok (.iadd, 1) := by decide +kernel
theorem d11_7 : decode B11 7 = .ok (.invokevirtual 100, 3) := by decide +kernel
theorem pd__28I_29V : parseMethodDescriptor "(I)V" = some ⟨[.int], none⟩ := by decide +kernel
theorem d11_10 : decode B11 10 = .ok (.aload_n 0, 1) := by decide +kernel
theorem d11_11 : decode B11 11 = .ok (.invokevirtual 83, 3) := by decide +kernel
theorem d11_14 : decode B11 14 = .ok (.ifCond .eq 31, 3) := by decide +kernel
theorem d11_17 : decode B11 17 = .ok (.iload_n 1, 1) := by decide +kernel
theorem d11_18 : decode B11 18 = .ok (.invokestatic 191, 3) := by decide +kernel
theorem pd__28C_29Z : parseMethodDescriptor "(C)Z" = some ⟨[.char], some .boolean⟩ := by decide +kernel
theorem d11_21 : decode B11 21 = .ok (.ifCond .eq 24, 3) := by decide +kernel
theorem d11_24 : decode B11 24 = .ok (.aload_n 0, 1) := by decide +kernel
theorem d11_25 : decode B11 25 = .ok (.getfield 15, 3) := by decide +kernel
theorem d11_28 : decode B11 28 = .ok (.aload_n 0, 1) := by decide +kernel
theorem d11_29 : decode B11 29 = .ok (.dup, 1) := by decide +kernel
theorem d11_30 : decode B11 30 = .ok (.getfield 79, 3) := by decide +kernel
theorem d11_33 : decode B11 33 = .ok (.dup_x1, 1) := by decide +kernel
theorem d11_34 : decode B11 34 = .ok (.iconst 1, 1) := by decide +kernel
theorem d11_35 : decode B11 35 = .ok (.iadd, 1) := by decide +kernel
theorem d11_36 : decode B11 36 = .ok (.putfield 79, 3) := by decide +kernel
theorem d11_39 : decode B11 39 = .ok (.iload_n 1, 1) := by decide +kernel
theorem d11_40 : decode B11 40 = .ok (.i2b, 1) := by decide +kernel
theorem d11_41 : decode B11 41 = .ok (.bastore, 1) := by decide +kernel
theorem d11_42 : decode B11 42 = .ok (.goto 33, 3) := by decide +kernel
theorem d11_75 : decode B11 75 = .ok (.aload_n 0, 1) := by decide +kernel
theorem d11_76 : decode B11 76 = .ok (.areturn, 1) := by decide +kernel
theorem d11_45 : decode B11 45 = .ok (.aload_n 0, 1) := by decide +kernel
theorem d11_46 : decode B11 46 = .ok (.invokevirtual 83, 3) := by decide +kernel
theorem d11_49 : decode B11 49 = .ok (.ifCond .eq 7, 3) := by decide +kernel
theorem d11_56 : decode B11 56 = .ok (.aload_n 0, 1) := by decide +kernel
theorem d11_57 : decode B11 57 = .ok (.getfield 15, 3) := by decide +kernel
theorem d11_60 : decode B11 60 = .ok (.aload_n 0, 1) := by decide +kernel
theorem d11_61 : decode B11 61 = .ok (.dup, 1) := by decide +kernel
theorem d11_62 : decode B11 62 = .ok (.getfield 79, 3) := by decide +kernel
theorem d11_65 : decode B11 65 = .ok (.dup_x1, 1) := by decide +kernel
theorem d11_66 : decode B11 66 = .ok (.iconst 1, 1) := by decide +kernel
theorem d11_67 : decode B11 67 = .ok (.iadd, 1) := by decide +kernel
theorem d11_68 : decode B11 68 = .ok (.putfield 79, 3) := by decide +kernel
theorem d11_71 : decode B11 71 = .ok (.iload_n 1, 1) := by decide +kernel
theorem d11_72 : decode B11 72 = .ok (.invokestatic 197, 3) := by decide +kernel
def Q_rm_apCl (Z : State) (a : Addr) (b : Addr) (kb : ClassId) (cl : List Int32) (ch : Int32) (cs : Int32) (sf : Value) (h0 : Heap) (n0 : Nat) (v : Option Value) (h : Heap) (L : List Loc) : Prop := ∃ (by_ : Addr) (ky : ClassId), v = some (.ref a) ∧ Fr n0 L ∧ Keep h0 h [a, b] ∧ OwnSB Z h a by_ ky (cl ++ [ch]) ∧ n0 ≤ by_ ∧ (by_ = b ∨ h0.size ≤ by_)
set_option maxRecDepth 65536 in
set_option maxHeartbeats 40000000 in
theorem rm_apCl (l : Launch) (Z : State) (a0 : Array Value) (hw : ∀ d ∈ tables_1, d.before a0 Z = true) (ws : List Jvm.Cond) (a : Addr) (b : Addr) (kb : ClassId) (cl : List Int32) (ch : Int32) (cs : Int32) (sf : Value) (h0 : Heap) (n0 : Nat) (Z0 : n0 ≤ h0.size) (S_a : OwnSB Z h0 a b kb cl) (sC : OCS Z (.int cs)) (sA : OAD Z (.int (1 : Int32))) (sH : OHI Z (.int (0 : Int32))) (sL : OLO Z (.int (8 : Int32))) (sF : OSF Z sf) (hl22 : cl.length ≤ 22) (hch : OwnCh ch) (hcs : ¬ (cs = (0 : Int32))) (hsf : sf.isRef = true) (ne_b_a : b ≠ a) (ne_a_b : a ≠ b) (hle : ¬ ((255 : Int32) < ch)) (g_a : n0 ≤ a) (g_b : n0 ≤ b) (O : Old Z n0 h0) :
  Met l Z M11 jdk_68_method_31_code 2 (some (.object "java/lang/AbstractStringBuilder")) ws (Rm 4 1 96 62) #[(.ref a), (.int ch)] h0 (Q_rm_apCl Z a b kb cl ch cs sf h0 n0) := by
 refine met_of (plainFor_of_name pn_java_lang_AbstractStringBuilder) (own := "java/lang/AbstractStringBuilder") rfl (fun m => ef_rm_apCl m a ch) ?_
 intro p e s m below meth c s₁ hx hby hml hown hnm hZ X0 e0 hret hlk
 have N0 := Fr.nil n0
 have K0 := Keep.refl h0 [a, b]
 show Goes p e below s _ _ _ (s₁.setTop (mkF m 0 #[sR a, sI ch] []))
 obtain ⟨E_a, E_b, Fv_a, Fn_a, Fm_a, hcA, hsb⟩ := S_a
 rcases hsb with ⟨Fc_a, hleA, cap, hcap, hc2, V_b⟩ | ⟨Fc_a, hexA, cap, hcap, hc2, V_b⟩
 ·
  refine Goes.pre (U' := s₁.setTop (mkF m 2 #[sR a, sI ch] [(.ref a), (.ref a)])) (fun t k => XS.aloadN X0.here hx rfl (hb hby d11_0) rfl rfl (XS.aloadN X0.here hx rfl (hb hby d11_1) rfl rfl k)) ?_
  obtain ⟨T1, X1, e1, st1⟩ := getF X0 hx hZ hown (host := "") (Or.inl (wq hw 71 rfl)) Via.refl e0 Fn_a (g := (mkF m 2 #[sR a, sI ch] [(.ref a), (.ref a)])) rfl rfl (hb hby d11_2)
  refine Goes.pre (U' := T1.setTop (mkF m 7 #[sR a, sI ch] [(.int ((Int32.ofNat cl.length) + (1 : Int32))), (.ref a)])) (fun t k => st1 t (XS.iconst X1.here hx rfl (hb hby d11_5) (XS.iadd X1.here hx rfl (hb hby d11_6) rfl k))) ?_
  rw [own_inc]
  have lt_a := E_a.lt
  have lt_b := E_b.lt
  obtain ⟨cq2, q2, q2'⟩ := E_a.cell
  obtain ⟨_, _, ⟨T2, L2, k2, n2⟩, -, X2, ⟨Lc2, hQ2, l2, y2, z2⟩, st2⟩ := X1.privateBack hx (y := M12) hown (mvT hZ (wq hw 73 rfl)) (mvT hZ (wq hw 74 rfl)) (mvT hZ (own_selfp (wq hw 76 rfl) (wq hw 74 rfl) (wq hw 75 rfl) (by decide) (by decide))) (Cond.privateMethod_at (mvP hZ (wq hw 75 rfl) (args := #[]))) (mvT hZ (wq hw 77 rfl)) (by decide) (backOf (W := 0) (rm_ens0 l Z a0 hw [] a b kb cap (cl.length + 1) (cl.map fun c => .int c.toInt8.toInt32) (Int32.ofNat cl.length) h0 n0 Z0 E_a E_b Fv_a Fc_a Fn_a Fm_a V_b hc2 (by omega) (by rw [List.length_map]; exact hcap) g_b ne_b_a g_a) hZ (wq hw 77 rfl) (wq hw 53 rfl) (by decide) (by decide)) (g := (mkF m 7 #[sR a, sI ch] [(.int (Int32.ofNat (cl.length + 1))), (.ref a)])) rfl (by rw [hml]; rfl) (Steps.refl _) (a := a) (by rw [e1]; exact q2) q2' (argsL := [(.int (Int32.ofNat (cl.length + 1)))]) (rest := []) (lenOf pd__28I_29V rfl) rfl (by show 2 * 0 + _ ≤ _; exact Nat.le_of_eq rfl) (hb hby d11_7) (fun _ _ => ⟨rfl, e1, (by decide : 0 + 1 ≤ _), (by decide : 0 + 96 ≤ _)⟩)
  dsimp only [Pt.U, Pt.locs, Pt.cells, Pt.slots] at X2 l2 y2 z2 st2 hQ2
  subst l2 y2 z2
  obtain ⟨bx2, kx2, cx2, rfl, N2q, KQ2, fo0_2, fo1_2, fo2_2, fo3_2, fo4_2, fo5_2, g_bx2, ml_bx2, hx2⟩ := hQ2
  have N2 := Fr.app N0 N2q
  have E_a := E_a.keep KQ2
  have E_b := E_b.keep KQ2
  have V_b := V_b.keep KQ2 (ninS ne_b_a nin0)
  have Z3 : n0 ≤ T2.heap.size := Nat.le_trans Z0 KQ2.1
  have O := O.keep KQ2 (allS (P := fun x => n0 ≤ x) g_a all0)
  have K3 := K0.trans KQ2 (allS (P := fun x => x ∈ [a, b] ∨ h0.size ≤ x) (Or.inl (List.mem_of_getElem? (i := 0) rfl)) all0)
  have ne_a_bx2 : a ≠ bx2 := own_mayne ml_bx2 lt_a ne_a_b
  have ne_bx2_a := ne_a_bx2.symm
  have mz_bx2 : bx2 = b ∨ h0.size ≤ bx2 := own_may1 ml_bx2 (Nat.le_trans K0.1)
  have E_bx2 := fo0_2
  have Fv_a := fo1_2
  have Fc_a := fo2_2
  have Fn_a := fo3_2
  have Fm_a := fo4_2
  have V_bx2 := fo5_2
  refine Goes.pre (U' := T2.setTop (mkF m 10 #[sR a, sI ch] [])) (fun t k => st2.trans k) ?_
  obtain ⟨hx1, hx2, hx3⟩ := hx2
  refine Goes.pre (U' := T2.setTop (mkF m 11 #[sR a, sI ch] [(.ref a)])) (fun t k => XS.aloadN X2.here hx rfl (hb hby d11_10) rfl rfl k) ?_
  obtain ⟨cq4, kq4, q4a, q4b, q4c⟩ := isOf hZ rfl E_a
  obtain ⟨_, _, ⟨T4, L4, k4, n4⟩, -, X4, ⟨Lc4, hQ4, l4, y4, z4⟩, st4⟩ := X2.virtualBack hx (y := M13) (z := M13) hown (mvT hZ (wq hw 78 rfl)) (mvT hZ (wq hw 79 rfl)) (notFace_of_selects (args := #[]) (mvT hZ (wq hw 81 rfl))) (mvT hZ (wq hw 81 rfl)) (mvT hZ (wq hw 80 rfl)) (by decide) (backOf (W := 0) (rm_aL0 l Z a0 hw [] a cs T2.heap n0 Z3 sC Fc_a hcs O) hZ (wq hw 82 rfl) (wq hw 53 rfl) (by decide) (by decide)) q4a q4c (g := (mkF m 11 #[sR a, sI ch] [(.ref a)])) rfl (by rw [hml]; rfl) (Steps.refl _) (argsL := []) (rest := []) (lenOf pd__28_29Z rfl) rfl (by show 2 * 0 + _ ≤ _; exact Nat.le_of_eq rfl) (hb hby d11_11) (fun _ _ => ⟨rfl, rfl, (by decide : 1 + 0 ≤ _), (by decide : 96 + 0 ≤ _)⟩)
  dsimp only [Pt.U, Pt.locs, Pt.cells, Pt.slots] at X4 l4 y4 z4 st4 hQ4
  subst l4 y4 z4
  obtain ⟨rfl, N4q, HQ4⟩ := hQ4
  have N4 := Fr.app N2 N4q
  refine Goes.pre (U' := T4.setTop (mkF m 14 #[sR a, sI ch] [(.int (1 : Int32))])) (fun t k => st4.trans k) ?_
  have hc14 : ¬ ((1 : Int32) = (0 : Int32)) := by decide
  refine Goes.pre (U' := T4.setTop (mkF m 18 #[sR a, sI ch] [(.int ch)])) (fun t k => XS.ifNo X4.here hx rfl (hb hby d11_14) rfl ((if0 _ _).trans (feq hc14).1) (XS.iloadN X4.here hx rfl (hb hby d11_17) rfl k)) ?_
  obtain ⟨_, _, ⟨T5, L5, k5, n5⟩, -, X5, ⟨Lc5, hQ5, l5, y5, z5⟩, st5⟩ := Jvm.LawKit.callS X4 hx (y := M14) hown (mvT hZ (wq hw 83 rfl)) (mvT hZ (wq hw 84 rfl)) (mvT hZ (wq hw 85 rfl)) (mvT hZ (wq hw 86 rfl)) (by decide) (backOf (W := 0) (rm_canC l Z a0 hw [] ch T2.heap n0 Z3) hZ (wq hw 86 rfl) (wq hw 85 rfl) (by decide) (by decide)) (g := (mkF m 18 #[sR a, sI ch] [(.int ch)])) rfl (by rw [hml]; rfl) (argsL := [(.int ch)]) (rest := []) (lenOf pd__28C_29Z rfl) rfl (by show 2 * 0 + _ ≤ _; exact Nat.le_of_eq rfl) (hb hby d11_18) (fun _ _ => ⟨rfl, HQ4, (by decide : 1 + 0 ≤ _), (by decide : 96 + 0 ≤ _)⟩)
  dsimp only [Pt.U, Pt.locs, Pt.cells, Pt.slots] at X5 l5 y5 z5 st5 hQ5
  subst l5 y5 z5
  obtain ⟨rfl, N5q, HQ5⟩ := hQ5
  have N5 := Fr.app N4 N5q
  refine Goes.pre (U' := T5.setTop (mkF m 21 #[sR a, sI ch] [(.int (own_canC ch))])) (fun t k => st5 t k) ?_
  have hc21 : ¬ ((own_canC ch) = (0 : Int32)) := (own_canN _ hle)
  refine Goes.pre (U' := T5.setTop (mkF m 25 #[sR a, sI ch] [(.ref a)])) (fun t k => XS.ifNo X5.here hx rfl (hb hby d11_21) rfl ((if0 _ _).trans (feq hc21).1) (XS.aloadN X5.here hx rfl (hb hby d11_24) rfl rfl k)) ?_
  obtain ⟨T6, X6, e6, st6⟩ := getF X5 hx hZ hown (host := "") (Or.inl (wq hw 57 rfl)) Via.refl HQ5 Fv_a (g := (mkF m 25 #[sR a, sI ch] [(.ref a)])) rfl rfl (hb hby d11_25)
  refine Goes.pre (U' := T6.setTop (mkF m 30 #[sR a, sI ch] [(.ref a), (.ref a), (.ref bx2)])) (fun t k => st6 t (XS.aloadN X6.here hx rfl (hb hby d11_28) rfl rfl (XS.dup X6.here hx rfl (hb hby d11_29) rfl rfl k))) ?_
  obtain ⟨T7, X7, e7, st7⟩ := getF X6 hx hZ hown (host := "") (Or.inl (wq hw 71 rfl)) Via.refl e6 Fn_a (g := (mkF m 30 #[sR a, sI ch] [(.ref a), (.ref a), (.ref bx2)])) rfl rfl (hb hby d11_30)
  refine Goes.pre (U' := T7.setTop (mkF m 36 #[sR a, sI ch] [(.int ((Int32.ofNat cl.length) + (1 : Int32))), (.ref a), (.int (Int32.ofNat cl.length)), (.ref bx2)])) (fun t k => st7 t (XS.dupX1 X7.here hx rfl (hb hby d11_33) rfl rfl rfl (XS.iconst X7.here hx rfl (hb hby d11_34) (XS.iadd X7.here hx rfl (hb hby d11_35) rfl k)))) ?_
  obtain ⟨T8, h8, X8, e8, W8, st8⟩ := putF X7 hx hZ hown (host := "") (Or.inl (wq hw 71 rfl)) Via.refl e7 Fn_a E_a (Or.inl (wq hw 72 rfl)) (wq hw 33 rfl) (ty := .int) (by decide) rfl rfl (g := (mkF m 36 #[sR a, sI ch] [(.int ((Int32.ofNat cl.length) + (1 : Int32))), (.ref a), (.int (Int32.ofNat cl.length)), (.ref bx2)])) rfl rfl (hb hby d11_36)
  have E_a := E_a.wr W8
  have E_bx2 := E_bx2.wr W8
  have Fv_a := Fv_a.other W8 (Or.inr (slot_ne (Or.inl (wq hw 58 rfl)) (Or.inl (wq hw 72 rfl)) (by decide) (t := (.array .byte)) (t' := .int) (by decide) (by decide)))
  have Fc_a := Fc_a.other W8 (Or.inr (slot_ne (Or.inl (wq hw 60 rfl)) (Or.inl (wq hw 72 rfl)) (by decide) (t := .byte) (t' := .int) (by decide) (by decide)))
  have Fm_a := Fm_a.other W8 (Or.inr (slot_ne (Or.inl (wq hw 315 rfl)) (Or.inl (wq hw 72 rfl)) (by decide) (t := .boolean) (t' := .int) (by decide) (by decide)))
  have V_bx2 := V_bx2.other W8 ne_bx2_a
  have Z8 : n0 ≤ h8.size := Nat.le_trans Z3 (Keep.of_wr W8).1
  have O := O.wr W8 g_a
  have Fn_a := Fn_a.same W8
  have K8 := K3.wr W8 (Or.inl (List.mem_of_getElem? (i := 0) rfl))
  have N8 := Fr.snoc X8 N5 g_a
  refine Goes.pre (U' := T8.setTop (mkF m 41 #[sR a, sI ch] [(.int (ch.toInt8.toInt32)), (.int (Int32.ofNat cl.length)), (.ref bx2)])) (fun t k => st8 t (XS.iloadN X8.here hx rfl (hb hby d11_39) rfl (XS.i2b X8.here hx rfl (hb hby d11_40) rfl k))) ?_
  obtain ⟨cl9, Ar9, q9, Sz9, Ng9, Hs9, Ft9⟩ := id V_bx2
  obtain ⟨T9, h9, X9, e9, W9, st9⟩ := stB X8 hx hZ e8 Ar9 (j := (Int32.ofNat cl.length)) (inb_of Sz9 (own_ix _ _ (by omega) (by omega))) (g := (mkF m 41 #[sR a, sI ch] [(.int (ch.toInt8.toInt32)), (.int (Int32.ofNat cl.length)), (.ref bx2)])) rfl rfl (hb hby d11_41)
  have nr9 : nar .byte (ch.toInt8.toInt32) = (ch.toInt8.toInt32) := own_bb _
  have ft9 : fits .byte (.int (ch.toInt8.toInt32)) = true := nr9 ▸ (fits_nar_byte (ch.toInt8.toInt32) : fits .byte (.int (nar .byte (ch.toInt8.toInt32))) = true)
  rw [nr9] at W9
  have E_a := E_a.wr W9
  have E_bx2 := E_bx2.wr W9
  have Fv_a := Fv_a.other W9 (Or.inl ne_a_bx2)
  have Fc_a := Fc_a.other W9 (Or.inl ne_a_bx2)
  have Fn_a := Fn_a.other W9 (Or.inl ne_a_bx2)
  have Fm_a := Fm_a.other W9 (Or.inl ne_a_bx2)
  have Z9 : n0 ≤ h9.size := Nat.le_trans Z8 (Keep.of_wr W9).1
  have O := O.wr W9 g_bx2
  have V_bx2 : Arv Z h9 bx2 kx2 .byte (Int32.ofNat cx2) ((cl.map fun c => .int c.toInt8.toInt32) ++ [.int (ch.toInt8.toInt32)]) (.int (0 : Int32)) := own_push Ar9 q9 Sz9 Ng9 Hs9 Ft9 ft9 W9 (by rw [own_ixn _ (by omega), List.length_map])
  have K9 := K8.wr W9 (own_mayk mz_bx2 (List.mem_of_getElem? (i := 1) rfl))
  have N9 := Fr.snoc X9 N8 g_bx2
  refine Goes.pre (U' := T9.setTop (mkF m 76 #[sR a, sI ch] [(.ref a)])) (fun t k => st9 t (XS.goto X9.here hx rfl (pc0 := 42) (pc' := 75) rfl (hb hby d11_42) (by decide) (by decide) (XS.aloadN X9.here hx rfl (hb hby d11_75) rfl rfl k))) ?_
  refine Goes.ret X9 (v := (some (.ref a))) (fun h => by rw [hret] at h; cases h) hlk (by decide) (by decide) e9 (fun fs hr => retOut X9 hx hret rfl (Or.inr (Or.inr (Or.inr (Or.inr ⟨rfl, rfl, rfl⟩)))) (hb hby d11_76) hr) ?_
  rw [own_lenS cl ch] at Fn_a
  have V_bx2 : Arv Z h9 bx2 kx2 .byte (Int32.ofNat cx2) ((cl ++ [ch]).map fun c => .int c.toInt8.toInt32) (.int (0 : Int32)) := by rw [List.map_append]; exact V_bx2
  exact ⟨bx2, kx2, rfl, N9, K9, ⟨E_a, E_bx2, Fv_a, Fn_a, Fm_a, own_snoc hcA hch, Or.inl ⟨Fc_a, own_snoc hleA ((own_canE _).2 hc21), cx2, (by rw [List.length_append]; exact hx1), hx2, V_bx2⟩⟩, g_bx2, mz_bx2⟩
 ·
  refine Goes.pre (U' := s₁.setTop (mkF m 2 #[sR a, sI ch] [(.ref a), (.ref a)])) (fun t k => XS.aloadN X0.here hx rfl (hb hby d11_0) rfl rfl (XS.aloadN X0.here hx rfl (hb hby d11_1) rfl rfl k)) ?_
  obtain ⟨T10, X10, e10, st10⟩ := getF X0 hx hZ hown (host := "") (Or.inl (wq hw 71 rfl)) Via.refl e0 Fn_a (g := (mkF m 2 #[sR a, sI ch] [(.ref a), (.ref a)])) rfl rfl (hb hby d11_2)
  refine Goes.pre (U' := T10.setTop (mkF m 7 #[sR a, sI ch] [(.int ((Int32.ofNat cl.length) + (1 : Int32))), (.ref a)])) (fun t k => st10 t (XS.iconst X10.here hx rfl (hb hby d11_5) (XS.iadd X10.here hx rfl (hb hby d11_6) rfl k))) ?_
  rw [own_inc]
  have lt_a := E_a.lt
  have lt_b := E_b.lt
  obtain ⟨cq11, q11, q11'⟩ := E_a.cell
  obtain ⟨_, _, ⟨T11, L11, k11, n11⟩, -, X11, ⟨Lc11, hQ11, l11, y11, z11⟩, st11⟩ := X10.privateBack hx (y := M12) hown (mvT hZ (wq hw 73 rfl)) (mvT hZ (wq hw 74 rfl)) (mvT hZ (own_selfp (wq hw 76 rfl) (wq hw 74 rfl) (wq hw 75 rfl) (by decide) (by decide))) (Cond.privateMethod_at (mvP hZ (wq hw 75 rfl) (args := #[]))) (mvT hZ (wq hw 77 rfl)) (by decide) (backOf (W := 0) (rm_ens1 l Z a0 hw [] a b kb cap (cl.length + 1) (cl.flatMap fun c => [.int (c >>> ((0 : Int32) &&& 31)).toInt8.toInt32, .int (c >>> ((8 : Int32) &&& 31)).toInt8.toInt32]) (Int32.ofNat cl.length) h0 n0 Z0 E_a E_b Fv_a Fc_a Fn_a Fm_a V_b hc2 (by omega) (by rw [own_fm2]; omega) g_b ne_b_a g_a) hZ (wq hw 77 rfl) (wq hw 53 rfl) (by decide) (by decide)) (g := (mkF m 7 #[sR a, sI ch] [(.int (Int32.ofNat (cl.length + 1))), (.ref a)])) rfl (by rw [hml]; rfl) (Steps.refl _) (a := a) (by rw [e10]; exact q11) q11' (argsL := [(.int (Int32.ofNat (cl.length + 1)))]) (rest := []) (lenOf pd__28I_29V rfl) rfl (by show 2 * 0 + _ ≤ _; exact Nat.le_of_eq rfl) (hb hby d11_7) (fun _ _ => ⟨rfl, e10, (by decide : 0 + 1 ≤ _), (by decide : 0 + 96 ≤ _)⟩)
  dsimp only [Pt.U, Pt.locs, Pt.cells, Pt.slots] at X11 l11 y11 z11 st11 hQ11
  subst l11 y11 z11
  obtain ⟨bx2, kx2, cx2, rfl, N11q, KQ11, fo0_11, fo1_11, fo2_11, fo3_11, fo4_11, fo5_11, g_bx2, ml_bx2, hx11⟩ := hQ11
  have N11 := Fr.app N0 N11q
  have E_a := E_a.keep KQ11
  have E_b := E_b.keep KQ11
  have V_b := V_b.keep KQ11 (ninS ne_b_a nin0)
  have Z12 : n0 ≤ T11.heap.size := Nat.le_trans Z0 KQ11.1
  have O := O.keep KQ11 (allS (P := fun x => n0 ≤ x) g_a all0)
  have K12 := K0.trans KQ11 (allS (P := fun x => x ∈ [a, b] ∨ h0.size ≤ x) (Or.inl (List.mem_of_getElem? (i := 0) rfl)) all0)
  have ne_a_bx2 : a ≠ bx2 := own_mayne ml_bx2 lt_a ne_a_b
  have ne_bx2_a := ne_a_bx2.symm
  have mz_bx2 : bx2 = b ∨ h0.size ≤ bx2 := own_may1 ml_bx2 (Nat.le_trans K0.1)
  have E_bx2 := fo0_11
  have Fv_a := fo1_11
  have Fc_a := fo2_11
  have Fn_a := fo3_11
  have Fm_a := fo4_11
  have V_bx2 := fo5_11
  refine Goes.pre (U' := T11.setTop (mkF m 10 #[sR a, sI ch] [])) (fun t k => st11.trans k) ?_
  obtain ⟨hx1, hx2, hx3⟩ := hx11
  refine Goes.pre (U' := T11.setTop (mkF m 11 #[sR a, sI ch] [(.ref a)])) (fun t k => XS.aloadN X11.here hx rfl (hb hby d11_10) rfl rfl k) ?_
  obtain ⟨cq13, kq13, q13a, q13b, q13c⟩ := isOf hZ rfl E_a
  obtain ⟨_, _, ⟨T13, L13, k13, n13⟩, -, X13, ⟨Lc13, hQ13, l13, y13, z13⟩, st13⟩ := X11.virtualBack hx (y := M13) (z := M13) hown (mvT hZ (wq hw 78 rfl)) (mvT hZ (wq hw 79 rfl)) (notFace_of_selects (args := #[]) (mvT hZ (wq hw 81 rfl))) (mvT hZ (wq hw 81 rfl)) (mvT hZ (wq hw 80 rfl)) (by decide) (backOf (W := 0) (rm_aL1 l Z a0 hw [] a cs T11.heap n0 Z12 sC Fc_a hcs O) hZ (wq hw 82 rfl) (wq hw 53 rfl) (by decide) (by decide)) q13a q13c (g := (mkF m 11 #[sR a, sI ch] [(.ref a)])) rfl (by rw [hml]; rfl) (Steps.refl _) (argsL := []) (rest := []) (lenOf pd__28_29Z rfl) rfl (by show 2 * 0 + _ ≤ _; exact Nat.le_of_eq rfl) (hb hby d11_11) (fun _ _ => ⟨rfl, rfl, (by decide : 1 + 0 ≤ _), (by decide : 96 + 0 ≤ _)⟩)
  dsimp only [Pt.U, Pt.locs, Pt.cells, Pt.slots] at X13 l13 y13 z13 st13 hQ13
  subst l13 y13 z13
  obtain ⟨rfl, N13q, HQ13⟩ := hQ13
  have N13 := Fr.app N11 N13q
  refine Goes.pre (U' := T13.setTop (mkF m 14 #[sR a, sI ch] [(.int (0 : Int32))])) (fun t k => st13.trans k) ?_
  have hc14 : (0 : Int32) = (0 : Int32) := rfl
  refine Goes.pre (U' := T13.setTop (mkF m 46 #[sR a, sI ch] [(.ref a)])) (fun t k => XS.ifYes X13.here hx rfl (pc0 := 14) (pc' := 45) rfl (hb hby d11_14) rfl ((if0 _ _).trans (teq hc14).1) (by decide) (by decide) (XS.aloadN X13.here hx rfl (hb hby d11_45) rfl rfl k)) ?_
  obtain ⟨cq14, kq14, q14a, q14b, q14c⟩ := isOf hZ HQ13 E_a
  obtain ⟨_, _, ⟨T14, L14, k14, n14⟩, -, X14, ⟨Lc14, hQ14, l14, y14, z14⟩, st14⟩ := X13.virtualBack hx (y := M13) (z := M13) hown (mvT hZ (wq hw 78 rfl)) (mvT hZ (wq hw 79 rfl)) (notFace_of_selects (args := #[]) (mvT hZ (wq hw 81 rfl))) (mvT hZ (wq hw 81 rfl)) (mvT hZ (wq hw 80 rfl)) (by decide) (backOf (W := 0) (rm_aL1 l Z a0 hw [] a cs T11.heap n0 Z12 sC Fc_a hcs O) hZ (wq hw 82 rfl) (wq hw 53 rfl) (by decide) (by decide)) q14a q14c (g := (mkF m 46 #[sR a, sI ch] [(.ref a)])) rfl (by rw [hml]; rfl) (Steps.refl _) (argsL := []) (rest := []) (lenOf pd__28_29Z rfl) rfl (by show 2 * 0 + _ ≤ _; exact Nat.le_of_eq rfl) (hb hby d11_46) (fun _ _ => ⟨rfl, HQ13, (by decide : 1 + 0 ≤ _), (by decide : 96 + 0 ≤ _)⟩)
  dsimp only [Pt.U, Pt.locs, Pt.cells, Pt.slots] at X14 l14 y14 z14 st14 hQ14
  subst l14 y14 z14
  obtain ⟨rfl, N14q, HQ14⟩ := hQ14
  have N14 := Fr.app N13 N14q
  refine Goes.pre (U' := T14.setTop (mkF m 49 #[sR a, sI ch] [(.int (0 : Int32))])) (fun t k => st14.trans k) ?_
  have hc49 : (0 : Int32) = (0 : Int32) := rfl
  refine Goes.pre (U' := T14.setTop (mkF m 57 #[sR a, sI ch] [(.ref a)])) (fun t k => XS.ifYes X14.here hx rfl (pc0 := 49) (pc' := 56) rfl (hb hby d11_49) rfl ((if0 _ _).trans (teq hc49).1) (by decide) (by decide) (XS.aloadN X14.here hx rfl (hb hby d11_56) rfl rfl k)) ?_
  obtain ⟨T15, X15, e15, st15⟩ := getF X14 hx hZ hown (host := "") (Or.inl (wq hw 57 rfl)) Via.refl HQ14 Fv_a (g := (mkF m 57 #[sR a, sI ch] [(.ref a)])) rfl rfl (hb hby d11_57)
  refine Goes.pre (U' := T15.setTop (mkF m 62 #[sR a, sI ch] [(.ref a), (.ref a), (.ref bx2)])) (fun t k => st15 t (XS.aloadN X15.here hx rfl (hb hby d11_60) rfl rfl (XS.dup X15.here hx rfl (hb hby d11_61) rfl rfl k))) ?_
  obtain ⟨T16, X16, e16, st16⟩ := getF X15 hx hZ hown (host := "") (Or.inl (wq hw 71 rfl)) Via.refl e15 Fn_a (g := (mkF m 62 #[sR a, sI ch] [(.ref a), (.ref a), (.ref bx2)])) rfl rfl (hb hby d11_62)
  refine Goes.pre (U' := T16.setTop (mkF m 68 #[sR a, sI ch] [(.int ((Int32.ofNat cl.length) + (1 : Int32))), (.ref a), (.int (Int32.ofNat cl.length)), (.ref bx2)])) (fun t k => st16 t (XS.dupX1 X16.here hx rfl (hb hby d11_65) rfl rfl rfl (XS.iconst X16.here hx rfl (hb hby d11_66) (XS.iadd X16.here hx rfl (hb hby d11_67) rfl k)))) ?_
  obtain ⟨T17, h17, X17, e17, W17, st17⟩ := putF X16 hx hZ hown (host := "") (Or.inl (wq hw 71 rfl)) Via.refl e16 Fn_a E_a (Or.inl (wq hw 72 rfl)) (wq hw 33 rfl) (ty := .int) (by decide) rfl rfl (g := (mkF m 68 #[sR a, sI ch] [(.int ((Int32.ofNat cl.length) + (1 : Int32))), (.ref a), (.int (Int32.ofNat cl.length)), (.ref bx2)])) rfl rfl (hb hby d11_68)
  have E_a := E_a.wr W17
  have E_bx2 := E_bx2.wr W17
  have Fv_a := Fv_a.other W17 (Or.inr (slot_ne (Or.inl (wq hw 58 rfl)) (Or.inl (wq hw 72 rfl)) (by decide) (t := (.array .byte)) (t' := .int) (by decide) (by decide)))
  have Fc_a := Fc_a.other W17 (Or.inr (slot_ne (Or.inl (wq hw 60 rfl)) (Or.inl (wq hw 72 rfl)) (by decide) (t := .byte) (t' := .int) (by decide) (by decide)))
  have Fm_a := Fm_a.other W17 (Or.inr (slot_ne (Or.inl (wq hw 315 rfl)) (Or.inl (wq hw 72 rfl)) (by decide) (t := .boolean) (t' := .int) (by decide) (by decide)))
  have V_bx2 := V_bx2.other W17 ne_bx2_a
  have Z17 : n0 ≤ h17.size := Nat.le_trans Z12 (Keep.of_wr W17).1
  have O := O.wr W17 g_a
  have Fn_a := Fn_a.same W17
  have K17 := K12.wr W17 (Or.inl (List.mem_of_getElem? (i := 0) rfl))
  have N17 := Fr.snoc X17 N14 g_a
  refine Goes.pre (U' := T17.setTop (mkF m 72 #[sR a, sI ch] [(.int ch), (.int (Int32.ofNat cl.length)), (.ref bx2)])) (fun t k => st17 t (XS.iloadN X17.here hx rfl (hb hby d11_71) rfl k)) ?_
  obtain ⟨_, _, ⟨T18, L18, k18, n18⟩, -, X18, ⟨Lc18, hQ18, l18, y18, z18⟩, st18⟩ := Jvm.LawKit.callS X17 hx (y := M65) hown (mvT hZ (wq hw 311 rfl)) (mvT hZ (wq hw 312 rfl)) (mvT hZ (wq hw 163 rfl)) (mvT hZ (wq hw 313 rfl)) (by decide) (backOf (W := 0) (rm_pcsb l Z a0 hw [] bx2 kx2 cx2 cl.length (cl.flatMap fun c => [.int (c >>> ((0 : Int32) &&& 31)).toInt8.toInt32, .int (c >>> ((8 : Int32) &&& 31)).toInt8.toInt32]) ch sf h17 n0 Z17 V_bx2 sA sH sL sF hx2 (by omega) (own_fm2 _ _ _) hsf g_bx2 O) hZ (wq hw 313 rfl) (wq hw 163 rfl) (by decide) (by decide)) (g := (mkF m 72 #[sR a, sI ch] [(.int ch), (.int (Int32.ofNat cl.length)), (.ref bx2)])) rfl (by rw [hml]; rfl) (argsL := [(.ref bx2), (.int (Int32.ofNat cl.length)), (.int ch)]) (rest := []) (lenOf pd__28_5bBII_29V rfl) rfl (by show 2 * 0 + _ ≤ _; exact Nat.le_of_eq rfl) (hb hby d11_72) (fun _ _ => ⟨rfl, e17, (by decide : 1 + 0 ≤ _), (by decide : 96 + 0 ≤ _)⟩)
  dsimp only [Pt.U, Pt.locs, Pt.cells, Pt.slots] at X18 l18 y18 z18 st18 hQ18
  subst l18 y18 z18
  obtain ⟨rfl, N18q, KQ18, fo0_18⟩ := hQ18
  have N18 := Fr.app N17 N18q
  have E_a := E_a.keep KQ18
  have E_bx2 := E_bx2.keep KQ18
  have Fv_a := Fv_a.keep KQ18 (ninS ne_a_bx2 nin0)
  have Fc_a := Fc_a.keep KQ18 (ninS ne_a_bx2 nin0)
  have Fn_a := Fn_a.keep KQ18 (ninS ne_a_bx2 nin0)
  have Fm_a := Fm_a.keep KQ18 (ninS ne_a_bx2 nin0)
  have Z19 : n0 ≤ T18.heap.size := Nat.le_trans Z17 KQ18.1
  have O := O.keep KQ18 (allS (P := fun x => n0 ≤ x) g_bx2 all0)
  have K19 := K17.trans KQ18 (allS (P := fun x => x ∈ [a, b] ∨ h0.size ≤ x) (own_mayk mz_bx2 (List.mem_of_getElem? (i := 1) rfl)) all0)
  have V_bx2 := fo0_18
  refine Goes.pre (U' := T18.setTop (mkF m 76 #[sR a, sI ch] [(.ref a)])) (fun t k => st18 t (XS.aloadN X18.here hx rfl (hb hby d11_75) rfl rfl k)) ?_
  refine Goes.ret X18 (v := (some (.ref a))) (fun h => by rw [hret] at h; cases h) hlk (by decide) (by decide) rfl (fun fs hr => retOut X18 hx hret rfl (Or.inr (Or.inr (Or.inr (Or.inr ⟨rfl, rfl, rfl⟩)))) (hb hby d11_76) hr) ?_
  rw [own_lenS cl ch] at Fn_a
  have V_bx2 : Arv Z T18.heap bx2 kx2 .byte (Int32.ofNat (2 * cx2)) ((cl ++ [ch]).flatMap fun c => [.int (c >>> ((0 : Int32) &&& 31)).toInt8.toInt32, .int (c >>> ((8 : Int32) &&& 31)).toInt8.toInt32]) (.int (0 : Int32)) := by rw [List.flatMap_append]; simpa using V_bx2
  exact ⟨bx2, kx2, rfl, N18, K19, ⟨E_a, E_bx2, Fv_a, Fn_a, Fm_a, own_snoc hcA hch, Or.inr ⟨Fc_a, (let ⟨z, z1, z2⟩ := hexA; ⟨z, List.mem_append_left _ z1, z2⟩), cx2, (by rw [List.length_append]; exact hx1), hx2, V_bx2⟩⟩, g_bx2, mz_bx2⟩
theorem ef_rm_sbCl (m : MethodId) (x0 : Addr) (x1 : Int32) : entryFrame m #[(.ref x0), (.int x1)] 2 = mkF m 0 #[sR x0, sI x1] [] := by first | (simp [entryFrame, mkF, argsToLocals, Value.category]; done) | rfl
theorem pn_java_lang_StringBuilder : plainName "java/lang/StringBuilder" = true := by first | (simp [plainName, overriddenIn]; done) | decide +kernel
abbrev M10 : MethodName := ⟨"java/lang/StringBuilder", "append", "(C)Ljava/lang/StringBuilder;"⟩
theorem d10_0 : decode B10 0 = .ok (.aload_n 0, 1) := by decide +kernel
theorem d10_1 : decode B10 1 = .ok (.iload_n 1, 1) := by decide +kernel
theorem d10_2 : decode B10 2 = .ok (.invokespecial 50, 3) := by decide +kernel
theorem pd__28C_29Ljava_2flang_2fAbstractStringBuilder_3b : parseMethodDescriptor "(C)Ljava/lang/AbstractStringBuilder;" = some ⟨[.char], some (.object "java/lang/AbstractStringBuilder")⟩ := by decide +kernel
theorem d10_5 : decode B10 5 = .ok (.pop, 1) := by decide +kernel
theorem d10_6 : decode B10 6 = .ok (.aload_n 0, 1) := by decide +kernel
theorem d10_7 : decode B10 7 = .ok (.areturn, 1) := by decide +kernel
def Q_rm_sbCl (Z : State) (a : Addr) (b : Addr) (kb : ClassId) (cl : List Int32) (ch : Int32) (cs : Int32) (sf : Value) (h0 : Heap) (n0 : Nat) (v : Option Value) (h : Heap) (L : List Loc) : Prop := ∃ (by_ : Addr) (ky : ClassId), v = some (.ref a) ∧ Fr n0 L ∧ Keep h0 h [a, b] ∧ OwnSB Z h a by_ ky (cl ++ [ch]) ∧ n0 ≤ by_ ∧ (by_ = b ∨ h0.size ≤ by_)
set_option maxRecDepth 65536 in
set_option maxHeartbeats 40000000 in
theorem rm_sbCl (l : Launch) (Z : State) (a0 : Array Value) (hw : ∀ d ∈ tables_1, d.before a0 Z = true) (ws : List Jvm.Cond) (a : Addr) (b : Addr) (kb : ClassId) (cl : List Int32) (ch : Int32) (cs : Int32) (sf : Value) (h0 : Heap) (n0 : Nat) (Z0 : n0 ≤ h0.size) (S_a : OwnSB Z h0 a b kb cl) (sC : OCS Z (.int cs)) (sA : OAD Z (.int (1 : Int32))) (sH : OHI Z (.int (0 : Int32))) (sL : OLO Z (.int (8 : Int32))) (sF : OSF Z sf) (hl22 : cl.length ≤ 22) (hch : OwnCh ch) (hcs : ¬ (cs = (0 : Int32))) (hsf : sf.isRef = true) (ne_b_a : b ≠ a) (ne_a_b : a ≠ b) (hle : ¬ ((255 : Int32) < ch)) (g_a : n0 ≤ a) (g_b : n0 ≤ b) (O : Old Z n0 h0) :
  Met l Z M10 jdk_67_method_14_code 2 (some (.object "java/lang/StringBuilder")) ws (Rm 5 1 96 75) #[(.ref a), (.int ch)] h0 (Q_rm_sbCl Z a b kb cl ch cs sf h0 n0) := by
 refine met_of (plainFor_of_name pn_java_lang_StringBuilder) (own := "java/lang/StringBuilder") rfl (fun m => ef_rm_sbCl m a ch) ?_
 intro p e s m below meth c s₁ hx hby hml hown hnm hZ X0 e0 hret hlk
 have N0 := Fr.nil n0
 have K0 := Keep.refl h0 [a, b]
 show Goes p e below s _ _ _ (s₁.setTop (mkF m 0 #[sR a, sI ch] []))
 refine Goes.pre (U' := s₁.setTop (mkF m 2 #[sR a, sI ch] [(.int ch), (.ref a)])) (fun t k => XS.aloadN X0.here hx rfl (hb hby d10_0) rfl rfl (XS.iloadN X0.here hx rfl (hb hby d10_1) rfl k)) ?_
 have lt_a := S_a.lt
 have lt_b := S_a.ltb
 obtain ⟨_, _, ⟨T1, L1, k1, n1⟩, -, X1, ⟨Lc1, hQ1, l1, y1, z1⟩, st1⟩ := superBack X0 hx hZ (y := M11) hown (wq hw 66 rfl) (own_same (wq hw 67 rfl) (wq hw 76 rfl) rfl (by decide) (by decide)) (wq hw 67 rfl) (wq hw 68 rfl) (by decide) (backOf (W := 0) (rm_apCl l Z a0 hw [] a b kb cl ch cs sf h0 n0 Z0 S_a sC sA sH sL sF hl22 hch hcs hsf ne_b_a ne_a_b hle g_a g_b O) hZ (wq hw 70 rfl) (wq hw 53 rfl) (by decide) (by decide)) e0 (Ins.self S_a.1) (g := (mkF m 2 #[sR a, sI ch] [(.int ch), (.ref a)])) rfl (by rw [hml]; rfl) (wq hw 70 rfl) (argsL := [(.int ch)]) (rest := []) (lenOf pd__28C_29Ljava_2flang_2fAbstractStringBuilder_3b rfl) rfl (by show 2 * 0 + _ ≤ _; exact Nat.le_of_eq rfl) (hb hby d10_2) (fun _ _ => ⟨rfl, e0, (by decide : 0 + 1 ≤ _), (by decide : 0 + 96 ≤ _)⟩)
 dsimp only [Pt.U, Pt.locs, Pt.cells, Pt.slots] at X1 l1 y1 z1 st1 hQ1
 subst l1 y1 z1
 obtain ⟨by_1, ky1, rfl, N1q, KQ1, fo0_1, g_by_1, ml_by_1⟩ := hQ1
 have N1 := Fr.app N0 N1q
 have Z2 : n0 ≤ T1.heap.size := Nat.le_trans Z0 KQ1.1
 have O := O.keep KQ1 (allS (P := fun x => n0 ≤ x) g_a (allS (P := fun x => n0 ≤ x) g_b all0))
 have K2 := K0.trans KQ1 (allS (P := fun x => x ∈ [a, b] ∨ h0.size ≤ x) (Or.inl (List.mem_of_getElem? (i := 0) rfl)) (allS (P := fun x => x ∈ [a, b] ∨ h0.size ≤ x) (Or.inl (List.mem_of_getElem? (i := 1) rfl)) all0))
 have ne_a_by_1 : a ≠ by_1 := own_mayne ml_by_1 lt_a ne_a_b
 have ne_by_1_a := ne_a_by_1.symm
 have mz_by_1 : by_1 = b ∨ h0.size ≤ by_1 := own_may1 ml_by_1 (Nat.le_trans K0.1)
 have S_a := fo0_1
 refine Goes.pre (U' := T1.setTop (mkF m 7 #[sR a, sI ch] [(.ref a)])) (fun t k => st1.trans (XS.pop X1.here hx rfl (hb hby d10_5) rfl rfl (XS.aloadN X1.here hx rfl (hb hby d10_6) rfl rfl k))) ?_
 refine Goes.ret X1 (v := (some (.ref a))) (fun h => by rw [hret] at h; cases h) hlk (by decide) (by decide) rfl (fun fs hr => retOut X1 hx hret rfl (Or.inr (Or.inr (Or.inr (Or.inr ⟨rfl, rfl, rfl⟩)))) (hb hby d10_7) hr) ?_
 exact ⟨by_1, ky1, rfl, N1, K2, S_a, g_by_1, mz_by_1⟩
theorem ef_rm_apC (m : MethodId) (x0 : Addr) (x1 : Int32) : entryFrame m #[(.ref x0), (.int x1)] 2 = mkF m 0 #[sR x0, sI x1] [] := by first | (simp [entryFrame, mkF, argsToLocals, Value.category]; done) | rfl
theorem d11_52 : decode B11 52 = .ok (.aload_n 0, 1) := by decide +kernel
theorem d11_53 : decode B11 53 = .ok (.invokevirtual 195, 3) := by decide +kernel
theorem pd__28_29V : parseMethodDescriptor "()V" = some ⟨[], none⟩ := by decide +kernel
def Q_rm_apC (Z : State) (a : Addr) (b : Addr) (kb : ClassId) (cl : List Int32) (ch : Int32) (cs : Int32) (sf : Value) (h0 : Heap) (n0 : Nat) (v : Option Value) (h : Heap) (L : List Loc) : Prop := ∃ (by_ : Addr) (ky : ClassId), v = some (.ref a) ∧ Fr n0 L ∧ Keep h0 h [a, b] ∧ OwnSB Z h a by_ ky (cl ++ [ch]) ∧ n0 ≤ by_ ∧ (by_ = b ∨ h0.size ≤ by_)
set_option maxRecDepth 65536 in
set_option maxHeartbeats 40000000 in
theorem rm_apC (l : Launch) (Z : State) (a0 : Array Value) (hw : ∀ d ∈ tables_1, d.before a0 Z = true) (ws : List Jvm.Cond) (a : Addr) (b : Addr) (kb : ClassId) (cl : List Int32) (ch : Int32) (cs : Int32) (sf : Value) (h0 : Heap) (n0 : Nat) (Z0 : n0 ≤ h0.size) (S_a : OwnSB Z h0 a b kb cl) (sC : OCS Z (.int cs)) (sA : OAD Z (.int (1 : Int32))) (sH : OHI Z (.int (0 : Int32))) (sL : OLO Z (.int (8 : Int32))) (sF : OSF Z sf) (hl22 : cl.length ≤ 22) (hch : OwnCh ch) (hcs : ¬ (cs = (0 : Int32))) (hsf : sf.isRef = true) (ne_b_a : b ≠ a) (ne_a_b : a ≠ b) (g_a : n0 ≤ a) (g_b : n0 ≤ b) (O : Old Z n0 h0) :
  Met l Z M11 jdk_68_method_31_code 2 (some (.object "java/lang/AbstractStringBuilder")) ws (Rm 6 2 192 89) #[(.ref a), (.int ch)] h0 (Q_rm_apC Z a b kb cl ch cs sf h0 n0) := by
 refine met_of (plainFor_of_name pn_java_lang_AbstractStringBuilder) (own := "java/lang/AbstractStringBuilder") rfl (fun m => ef_rm_apC m a ch) ?_
 intro p e s m below meth c s₁ hx hby hml hown hnm hZ X0 e0 hret hlk
 have N0 := Fr.nil n0
 have K0 := Keep.refl h0 [a, b]
 show Goes p e below s _ _ _ (s₁.setTop (mkF m 0 #[sR a, sI ch] []))
 obtain ⟨E_a, E_b, Fv_a, Fn_a, Fm_a, hcA, hsb⟩ := S_a
 rcases hsb with ⟨Fc_a, hleA, cap, hcap, hc2, V_b⟩ | ⟨Fc_a, hexA, cap, hcap, hc2, V_b⟩
 ·
  refine Goes.pre (U' := s₁.setTop (mkF m 2 #[sR a, sI ch] [(.ref a), (.ref a)])) (fun t k => XS.aloadN X0.here hx rfl (hb hby d11_0) rfl rfl (XS.aloadN X0.here hx rfl (hb hby d11_1) rfl rfl k)) ?_
  obtain ⟨T1, X1, e1, st1⟩ := getF X0 hx hZ hown (host := "") (Or.inl (wq hw 71 rfl)) Via.refl e0 Fn_a (g := (mkF m 2 #[sR a, sI ch] [(.ref a), (.ref a)])) rfl rfl (hb hby d11_2)
  refine Goes.pre (U' := T1.setTop (mkF m 7 #[sR a, sI ch] [(.int ((Int32.ofNat cl.length) + (1 : Int32))), (.ref a)])) (fun t k => st1 t (XS.iconst X1.here hx rfl (hb hby d11_5) (XS.iadd X1.here hx rfl (hb hby d11_6) rfl k))) ?_
  rw [own_inc]
  have lt_a := E_a.lt
  have lt_b := E_b.lt
  obtain ⟨cq2, q2, q2'⟩ := E_a.cell
  obtain ⟨_, _, ⟨T2, L2, k2, n2⟩, -, X2, ⟨Lc2, hQ2, l2, y2, z2⟩, st2⟩ := X1.privateBack hx (y := M12) hown (mvT hZ (wq hw 73 rfl)) (mvT hZ (wq hw 74 rfl)) (mvT hZ (own_selfp (wq hw 76 rfl) (wq hw 74 rfl) (wq hw 75 rfl) (by decide) (by decide))) (Cond.privateMethod_at (mvP hZ (wq hw 75 rfl) (args := #[]))) (mvT hZ (wq hw 77 rfl)) (by decide) (backOf (W := 0) (rm_ens0 l Z a0 hw [] a b kb cap (cl.length + 1) (cl.map fun c => .int c.toInt8.toInt32) (Int32.ofNat cl.length) h0 n0 Z0 E_a E_b Fv_a Fc_a Fn_a Fm_a V_b hc2 (by omega) (by rw [List.length_map]; exact hcap) g_b ne_b_a g_a) hZ (wq hw 77 rfl) (wq hw 53 rfl) (by decide) (by decide)) (g := (mkF m 7 #[sR a, sI ch] [(.int (Int32.ofNat (cl.length + 1))), (.ref a)])) rfl (by rw [hml]; rfl) (Steps.refl _) (a := a) (by rw [e1]; exact q2) q2' (argsL := [(.int (Int32.ofNat (cl.length + 1)))]) (rest := []) (lenOf pd__28I_29V rfl) rfl (by show 2 * 0 + _ ≤ _; exact Nat.le_of_eq rfl) (hb hby d11_7) (fun _ _ => ⟨rfl, e1, (by decide : 0 + 1 ≤ _), (by decide : 0 + 96 ≤ _)⟩)
  dsimp only [Pt.U, Pt.locs, Pt.cells, Pt.slots] at X2 l2 y2 z2 st2 hQ2
  subst l2 y2 z2
  obtain ⟨bx2, kx2, cx2, rfl, N2q, KQ2, fo0_2, fo1_2, fo2_2, fo3_2, fo4_2, fo5_2, g_bx2, ml_bx2, hx2⟩ := hQ2
  have N2 := Fr.app N0 N2q
  have E_a := E_a.keep KQ2
  have E_b := E_b.keep KQ2
  have V_b := V_b.keep KQ2 (ninS ne_b_a nin0)
  have Z3 : n0 ≤ T2.heap.size := Nat.le_trans Z0 KQ2.1
  have O := O.keep KQ2 (allS (P := fun x => n0 ≤ x) g_a all0)
  have K3 := K0.trans KQ2 (allS (P := fun x => x ∈ [a, b] ∨ h0.size ≤ x) (Or.inl (List.mem_of_getElem? (i := 0) rfl)) all0)
  have ne_a_bx2 : a ≠ bx2 := own_mayne ml_bx2 lt_a ne_a_b
  have ne_bx2_a := ne_a_bx2.symm
  have mz_bx2 : bx2 = b ∨ h0.size ≤ bx2 := own_may1 ml_bx2 (Nat.le_trans K0.1)
  have E_bx2 := fo0_2
  have Fv_a := fo1_2
  have Fc_a := fo2_2
  have Fn_a := fo3_2
  have Fm_a := fo4_2
  have V_bx2 := fo5_2
  refine Goes.pre (U' := T2.setTop (mkF m 10 #[sR a, sI ch] [])) (fun t k => st2.trans k) ?_
  obtain ⟨hx1, hx2, hx3⟩ := hx2
  refine Goes.pre (U' := T2.setTop (mkF m 11 #[sR a, sI ch] [(.ref a)])) (fun t k => XS.aloadN X2.here hx rfl (hb hby d11_10) rfl rfl k) ?_
  obtain ⟨cq4, kq4, q4a, q4b, q4c⟩ := isOf hZ rfl E_a
  obtain ⟨_, _, ⟨T4, L4, k4, n4⟩, -, X4, ⟨Lc4, hQ4, l4, y4, z4⟩, st4⟩ := X2.virtualBack hx (y := M13) (z := M13) hown (mvT hZ (wq hw 78 rfl)) (mvT hZ (wq hw 79 rfl)) (notFace_of_selects (args := #[]) (mvT hZ (wq hw 81 rfl))) (mvT hZ (wq hw 81 rfl)) (mvT hZ (wq hw 80 rfl)) (by decide) (backOf (W := 0) (rm_aL0 l Z a0 hw [] a cs T2.heap n0 Z3 sC Fc_a hcs O) hZ (wq hw 82 rfl) (wq hw 53 rfl) (by decide) (by decide)) q4a q4c (g := (mkF m 11 #[sR a, sI ch] [(.ref a)])) rfl (by rw [hml]; rfl) (Steps.refl _) (argsL := []) (rest := []) (lenOf pd__28_29Z rfl) rfl (by show 2 * 0 + _ ≤ _; exact Nat.le_of_eq rfl) (hb hby d11_11) (fun _ _ => ⟨rfl, rfl, (by decide : 1 + 0 ≤ _), (by decide : 96 + 0 ≤ _)⟩)
  dsimp only [Pt.U, Pt.locs, Pt.cells, Pt.slots] at X4 l4 y4 z4 st4 hQ4
  subst l4 y4 z4
  obtain ⟨rfl, N4q, HQ4⟩ := hQ4
  have N4 := Fr.app N2 N4q
  refine Goes.pre (U' := T4.setTop (mkF m 14 #[sR a, sI ch] [(.int (1 : Int32))])) (fun t k => st4.trans k) ?_
  have hc14 : ¬ ((1 : Int32) = (0 : Int32)) := by decide
  refine Goes.pre (U' := T4.setTop (mkF m 18 #[sR a, sI ch] [(.int ch)])) (fun t k => XS.ifNo X4.here hx rfl (hb hby d11_14) rfl ((if0 _ _).trans (feq hc14).1) (XS.iloadN X4.here hx rfl (hb hby d11_17) rfl k)) ?_
  obtain ⟨_, _, ⟨T5, L5, k5, n5⟩, -, X5, ⟨Lc5, hQ5, l5, y5, z5⟩, st5⟩ := Jvm.LawKit.callS X4 hx (y := M14) hown (mvT hZ (wq hw 83 rfl)) (mvT hZ (wq hw 84 rfl)) (mvT hZ (wq hw 85 rfl)) (mvT hZ (wq hw 86 rfl)) (by decide) (backOf (W := 0) (rm_canC l Z a0 hw [] ch T2.heap n0 Z3) hZ (wq hw 86 rfl) (wq hw 85 rfl) (by decide) (by decide)) (g := (mkF m 18 #[sR a, sI ch] [(.int ch)])) rfl (by rw [hml]; rfl) (argsL := [(.int ch)]) (rest := []) (lenOf pd__28C_29Z rfl) rfl (by show 2 * 0 + _ ≤ _; exact Nat.le_of_eq rfl) (hb hby d11_18) (fun _ _ => ⟨rfl, HQ4, (by decide : 1 + 0 ≤ _), (by decide : 96 + 0 ≤ _)⟩)
  dsimp only [Pt.U, Pt.locs, Pt.cells, Pt.slots] at X5 l5 y5 z5 st5 hQ5
  subst l5 y5 z5
  obtain ⟨rfl, N5q, HQ5⟩ := hQ5
  have N5 := Fr.app N4 N5q
  refine Goes.pre (U' := T5.setTop (mkF m 21 #[sR a, sI ch] [(.int (own_canC ch))])) (fun t k => st5 t k) ?_
  by_cases hc21 : (own_canC ch) = (0 : Int32)
  ·
   refine Goes.pre (U' := T5.setTop (mkF m 46 #[sR a, sI ch] [(.ref a)])) (fun t k => XS.ifYes X5.here hx rfl (pc0 := 21) (pc' := 45) rfl (hb hby d11_21) rfl ((if0 _ _).trans (teq hc21).1) (by decide) (by decide) (XS.aloadN X5.here hx rfl (hb hby d11_45) rfl rfl k)) ?_
   obtain ⟨cq6, kq6, q6a, q6b, q6c⟩ := isOf hZ HQ5 E_a
   obtain ⟨_, _, ⟨T6, L6, k6, n6⟩, -, X6, ⟨Lc6, hQ6, l6, y6, z6⟩, st6⟩ := X5.virtualBack hx (y := M13) (z := M13) hown (mvT hZ (wq hw 78 rfl)) (mvT hZ (wq hw 79 rfl)) (notFace_of_selects (args := #[]) (mvT hZ (wq hw 81 rfl))) (mvT hZ (wq hw 81 rfl)) (mvT hZ (wq hw 80 rfl)) (by decide) (backOf (W := 0) (rm_aL0 l Z a0 hw [] a cs T2.heap n0 Z3 sC Fc_a hcs O) hZ (wq hw 82 rfl) (wq hw 53 rfl) (by decide) (by decide)) q6a q6c (g := (mkF m 46 #[sR a, sI ch] [(.ref a)])) rfl (by rw [hml]; rfl) (Steps.refl _) (argsL := []) (rest := []) (lenOf pd__28_29Z rfl) rfl (by show 2 * 0 + _ ≤ _; exact Nat.le_of_eq rfl) (hb hby d11_46) (fun _ _ => ⟨rfl, HQ5, (by decide : 1 + 0 ≤ _), (by decide : 96 + 0 ≤ _)⟩)
   dsimp only [Pt.U, Pt.locs, Pt.cells, Pt.slots] at X6 l6 y6 z6 st6 hQ6
   subst l6 y6 z6
   obtain ⟨rfl, N6q, HQ6⟩ := hQ6
   have N6 := Fr.app N5 N6q
   refine Goes.pre (U' := T6.setTop (mkF m 49 #[sR a, sI ch] [(.int (1 : Int32))])) (fun t k => st6.trans k) ?_
   have hc49 : ¬ ((1 : Int32) = (0 : Int32)) := by decide
   refine Goes.pre (U' := T6.setTop (mkF m 53 #[sR a, sI ch] [(.ref a)])) (fun t k => XS.ifNo X6.here hx rfl (hb hby d11_49) rfl ((if0 _ _).trans (feq hc49).1) (XS.aloadN X6.here hx rfl (hb hby d11_52) rfl rfl k)) ?_
   have lt_a := E_a.lt
   have lt_bx2 := E_bx2.lt
   obtain ⟨cq7, q7, q7'⟩ := E_a.cell
   obtain ⟨_, _, ⟨T7, L7, k7, n7⟩, -, X7, ⟨Lc7, hQ7, l7, y7, z7⟩, st7⟩ := X6.privateBack hx (y := M59) hown (mvT hZ (wq hw 290 rfl)) (mvT hZ (wq hw 291 rfl)) (mvT hZ (own_selfp (wq hw 293 rfl) (wq hw 291 rfl) (wq hw 292 rfl) (by decide) (by decide))) (Cond.privateMethod_at (mvP hZ (wq hw 292 rfl) (args := #[]))) (mvT hZ (wq hw 294 rfl)) (by decide) (backOf (W := 0) (rm_inf l Z a0 hw [] a bx2 kx2 cx2 cl cs sf T2.heap n0 Z3 E_a Fv_a Fc_a Fn_a Fm_a sC sA sH sL sF V_bx2 hx2 (by omega) hcA hleA hcs hsf ne_bx2_a g_a O) hZ (wq hw 294 rfl) (wq hw 53 rfl) (by decide) (by decide)) (g := (mkF m 53 #[sR a, sI ch] [(.ref a)])) rfl (by rw [hml]; rfl) (Steps.refl _) (a := a) (by rw [HQ6]; exact q7) q7' (argsL := []) (rest := []) (lenOf pd__28_29V rfl) rfl (by show 2 * 0 + _ ≤ _; exact Nat.le_of_eq rfl) (hb hby d11_53) (fun _ _ => ⟨rfl, HQ6, (by decide : 1 + 1 ≤ _), (by decide : 96 + 96 ≤ _)⟩)
   dsimp only [Pt.U, Pt.locs, Pt.cells, Pt.slots] at X7 l7 y7 z7 st7 hQ7
   subst l7 y7 z7
   obtain ⟨bx3, kx3, rfl, N7q, KQ7, fo0_7, fo1_7, fo2_7, fo3_7, fo4_7, fo5_7, g_bx3, sl_bx3⟩ := hQ7
   have N7 := Fr.app N6 N7q
   have E_a := E_a.keep KQ7
   have E_bx2 := E_bx2.keep KQ7
   have V_bx2 := V_bx2.keep KQ7 (ninS ne_bx2_a nin0)
   have Z8 : n0 ≤ T7.heap.size := Nat.le_trans Z3 KQ7.1
   have O := O.keep KQ7 (allS (P := fun x => n0 ≤ x) g_a all0)
   have K8 := K3.trans KQ7 (allS (P := fun x => x ∈ [a, b] ∨ h0.size ≤ x) (Or.inl (List.mem_of_getElem? (i := 0) rfl)) all0)
   have ne_a_bx3 : a ≠ bx3 := Nat.ne_of_lt (Nat.lt_of_lt_of_le lt_a sl_bx3)
   have ne_bx3_a := ne_a_bx3.symm
   have ne_bx2_bx3 : bx2 ≠ bx3 := Nat.ne_of_lt (Nat.lt_of_lt_of_le lt_bx2 sl_bx3)
   have ne_bx3_bx2 := ne_bx2_bx3.symm
   have sz_bx3 : h0.size ≤ bx3 := Nat.le_trans K3.1 sl_bx3
   have E_bx3 := fo0_7
   have Fv_a := fo1_7
   have Fc_a := fo2_7
   have Fn_a := fo3_7
   have Fm_a := fo4_7
   have V_bx3 := fo5_7
   refine Goes.pre (U' := T7.setTop (mkF m 57 #[sR a, sI ch] [(.ref a)])) (fun t k => st7.trans (XS.aloadN X7.here hx rfl (hb hby d11_56) rfl rfl k)) ?_
   obtain ⟨T9, X9, e9, st9⟩ := getF X7 hx hZ hown (host := "") (Or.inl (wq hw 57 rfl)) Via.refl rfl Fv_a (g := (mkF m 57 #[sR a, sI ch] [(.ref a)])) rfl rfl (hb hby d11_57)
   refine Goes.pre (U' := T9.setTop (mkF m 62 #[sR a, sI ch] [(.ref a), (.ref a), (.ref bx3)])) (fun t k => st9 t (XS.aloadN X9.here hx rfl (hb hby d11_60) rfl rfl (XS.dup X9.here hx rfl (hb hby d11_61) rfl rfl k))) ?_
   obtain ⟨T10, X10, e10, st10⟩ := getF X9 hx hZ hown (host := "") (Or.inl (wq hw 71 rfl)) Via.refl e9 Fn_a (g := (mkF m 62 #[sR a, sI ch] [(.ref a), (.ref a), (.ref bx3)])) rfl rfl (hb hby d11_62)
   refine Goes.pre (U' := T10.setTop (mkF m 68 #[sR a, sI ch] [(.int ((Int32.ofNat cl.length) + (1 : Int32))), (.ref a), (.int (Int32.ofNat cl.length)), (.ref bx3)])) (fun t k => st10 t (XS.dupX1 X10.here hx rfl (hb hby d11_65) rfl rfl rfl (XS.iconst X10.here hx rfl (hb hby d11_66) (XS.iadd X10.here hx rfl (hb hby d11_67) rfl k)))) ?_
   obtain ⟨T11, h11, X11, e11, W11, st11⟩ := putF X10 hx hZ hown (host := "") (Or.inl (wq hw 71 rfl)) Via.refl e10 Fn_a E_a (Or.inl (wq hw 72 rfl)) (wq hw 33 rfl) (ty := .int) (by decide) rfl rfl (g := (mkF m 68 #[sR a, sI ch] [(.int ((Int32.ofNat cl.length) + (1 : Int32))), (.ref a), (.int (Int32.ofNat cl.length)), (.ref bx3)])) rfl rfl (hb hby d11_68)
   have E_a := E_a.wr W11
   have E_bx2 := E_bx2.wr W11
   have V_bx2 := V_bx2.other W11 ne_bx2_a
   have E_bx3 := E_bx3.wr W11
   have Fv_a := Fv_a.other W11 (Or.inr (slot_ne (Or.inl (wq hw 58 rfl)) (Or.inl (wq hw 72 rfl)) (by decide) (t := (.array .byte)) (t' := .int) (by decide) (by decide)))
   have Fc_a := Fc_a.other W11 (Or.inr (slot_ne (Or.inl (wq hw 60 rfl)) (Or.inl (wq hw 72 rfl)) (by decide) (t := .byte) (t' := .int) (by decide) (by decide)))
   have Fm_a := Fm_a.other W11 (Or.inr (slot_ne (Or.inl (wq hw 315 rfl)) (Or.inl (wq hw 72 rfl)) (by decide) (t := .boolean) (t' := .int) (by decide) (by decide)))
   have V_bx3 := V_bx3.other W11 ne_bx3_a
   have Z11 : n0 ≤ h11.size := Nat.le_trans Z8 (Keep.of_wr W11).1
   have O := O.wr W11 g_a
   have Fn_a := Fn_a.same W11
   have K11 := K8.wr W11 (Or.inl (List.mem_of_getElem? (i := 0) rfl))
   have N11 := Fr.snoc X11 N7 g_a
   refine Goes.pre (U' := T11.setTop (mkF m 72 #[sR a, sI ch] [(.int ch), (.int (Int32.ofNat cl.length)), (.ref bx3)])) (fun t k => st11 t (XS.iloadN X11.here hx rfl (hb hby d11_71) rfl k)) ?_
   obtain ⟨_, _, ⟨T12, L12, k12, n12⟩, -, X12, ⟨Lc12, hQ12, l12, y12, z12⟩, st12⟩ := Jvm.LawKit.callS X11 hx (y := M65) hown (mvT hZ (wq hw 311 rfl)) (mvT hZ (wq hw 312 rfl)) (mvT hZ (wq hw 163 rfl)) (mvT hZ (wq hw 313 rfl)) (by decide) (backOf (W := 0) (rm_pcsb l Z a0 hw [] bx3 kx3 cx2 cl.length (cl.flatMap fun c => [.int (c >>> ((0 : Int32) &&& 31)).toInt8.toInt32, .int (c >>> ((8 : Int32) &&& 31)).toInt8.toInt32]) ch sf h11 n0 Z11 V_bx3 sA sH sL sF hx2 (by omega) (own_fm2 _ _ _) hsf g_bx3 O) hZ (wq hw 313 rfl) (wq hw 163 rfl) (by decide) (by decide)) (g := (mkF m 72 #[sR a, sI ch] [(.int ch), (.int (Int32.ofNat cl.length)), (.ref bx3)])) rfl (by rw [hml]; rfl) (argsL := [(.ref bx3), (.int (Int32.ofNat cl.length)), (.int ch)]) (rest := []) (lenOf pd__28_5bBII_29V rfl) rfl (by show 2 * 0 + _ ≤ _; exact Nat.le_of_eq rfl) (hb hby d11_72) (fun _ _ => ⟨rfl, e11, (by decide : 2 + 0 ≤ _), (by decide : 192 + 0 ≤ _)⟩)
   dsimp only [Pt.U, Pt.locs, Pt.cells, Pt.slots] at X12 l12 y12 z12 st12 hQ12
   subst l12 y12 z12
   obtain ⟨rfl, N12q, KQ12, fo0_12⟩ := hQ12
   have N12 := Fr.app N11 N12q
   have E_a := E_a.keep KQ12
   have E_bx2 := E_bx2.keep KQ12
   have V_bx2 := V_bx2.keep KQ12 (ninS ne_bx2_bx3 nin0)
   have E_bx3 := E_bx3.keep KQ12
   have Fv_a := Fv_a.keep KQ12 (ninS ne_a_bx3 nin0)
   have Fc_a := Fc_a.keep KQ12 (ninS ne_a_bx3 nin0)
   have Fn_a := Fn_a.keep KQ12 (ninS ne_a_bx3 nin0)
   have Fm_a := Fm_a.keep KQ12 (ninS ne_a_bx3 nin0)
   have Z13 : n0 ≤ T12.heap.size := Nat.le_trans Z11 KQ12.1
   have O := O.keep KQ12 (allS (P := fun x => n0 ≤ x) g_bx3 all0)
   have K13 := K11.trans KQ12 (allS (P := fun x => x ∈ [a, b] ∨ h0.size ≤ x) (Or.inr sz_bx3) all0)
   have V_bx3 := fo0_12
   refine Goes.pre (U' := T12.setTop (mkF m 76 #[sR a, sI ch] [(.ref a)])) (fun t k => st12 t (XS.aloadN X12.here hx rfl (hb hby d11_75) rfl rfl k)) ?_
   refine Goes.ret X12 (v := (some (.ref a))) (fun h => by rw [hret] at h; cases h) hlk (by decide) (by decide) rfl (fun fs hr => retOut X12 hx hret rfl (Or.inr (Or.inr (Or.inr (Or.inr ⟨rfl, rfl, rfl⟩)))) (hb hby d11_76) hr) ?_
   rw [own_lenS cl ch] at Fn_a
   have V_bx3 : Arv Z T12.heap bx3 kx3 .byte (Int32.ofNat (2 * cx2)) ((cl ++ [ch]).flatMap fun c => [.int (c >>> ((0 : Int32) &&& 31)).toInt8.toInt32, .int (c >>> ((8 : Int32) &&& 31)).toInt8.toInt32]) (.int (0 : Int32)) := by rw [List.flatMap_append]; simpa using V_bx3
   exact ⟨bx3, kx3, rfl, N12, K13, ⟨E_a, E_bx3, Fv_a, Fn_a, Fm_a, own_snoc hcA hch, Or.inr ⟨Fc_a, ⟨ch, List.mem_append_right _ (List.mem_singleton.mpr rfl), (own_canE _).1 hc21⟩, cx2, (by rw [List.length_append]; exact hx1), hx2, V_bx3⟩⟩, g_bx3, Or.inr sz_bx3⟩
  ·
   refine Goes.pre (U' := T5.setTop (mkF m 25 #[sR a, sI ch] [(.ref a)])) (fun t k => XS.ifNo X5.here hx rfl (hb hby d11_21) rfl ((if0 _ _).trans (feq hc21).1) (XS.aloadN X5.here hx rfl (hb hby d11_24) rfl rfl k)) ?_
   obtain ⟨T14, X14, e14, st14⟩ := getF X5 hx hZ hown (host := "") (Or.inl (wq hw 57 rfl)) Via.refl HQ5 Fv_a (g := (mkF m 25 #[sR a, sI ch] [(.ref a)])) rfl rfl (hb hby d11_25)
   refine Goes.pre (U' := T14.setTop (mkF m 30 #[sR a, sI ch] [(.ref a), (.ref a), (.ref bx2)])) (fun t k => st14 t (XS.aloadN X14.here hx rfl (hb hby d11_28) rfl rfl (XS.dup X14.here hx rfl (hb hby d11_29) rfl rfl k))) ?_
   obtain ⟨T15, X15, e15, st15⟩ := getF X14 hx hZ hown (host := "") (Or.inl (wq hw 71 rfl)) Via.refl e14 Fn_a (g := (mkF m 30 #[sR a, sI ch] [(.ref a), (.ref a), (.ref bx2)])) rfl rfl (hb hby d11_30)
   refine Goes.pre (U' := T15.setTop (mkF m 36 #[sR a, sI ch] [(.int ((Int32.ofNat cl.length) + (1 : Int32))), (.ref a), (.int (Int32.ofNat cl.length)), (.ref bx2)])) (fun t k => st15 t (XS.dupX1 X15.here hx rfl (hb hby d11_33) rfl rfl rfl (XS.iconst X15.here hx rfl (hb hby d11_34) (XS.iadd X15.here hx rfl (hb hby d11_35) rfl k)))) ?_
   obtain ⟨T16, h16, X16, e16, W16, st16⟩ := putF X15 hx hZ hown (host := "") (Or.inl (wq hw 71 rfl)) Via.refl e15 Fn_a E_a (Or.inl (wq hw 72 rfl)) (wq hw 33 rfl) (ty := .int) (by decide) rfl rfl (g := (mkF m 36 #[sR a, sI ch] [(.int ((Int32.ofNat cl.length) + (1 : Int32))), (.ref a), (.int (Int32.ofNat cl.length)), (.ref bx2)])) rfl rfl (hb hby d11_36)
   have E_a := E_a.wr W16
   have E_bx2 := E_bx2.wr W16
   have Fv_a := Fv_a.other W16 (Or.inr (slot_ne (Or.inl (wq hw 58 rfl)) (Or.inl (wq hw 72 rfl)) (by decide) (t := (.array .byte)) (t' := .int) (by decide) (by decide)))
   have Fc_a := Fc_a.other W16 (Or.inr (slot_ne (Or.inl (wq hw 60 rfl)) (Or.inl (wq hw 72 rfl)) (by decide) (t := .byte) (t' := .int) (by decide) (by decide)))
   have Fm_a := Fm_a.other W16 (Or.inr (slot_ne (Or.inl (wq hw 315 rfl)) (Or.inl (wq hw 72 rfl)) (by decide) (t := .boolean) (t' := .int) (by decide) (by decide)))
   have V_bx2 := V_bx2.other W16 ne_bx2_a
   have Z16 : n0 ≤ h16.size := Nat.le_trans Z3 (Keep.of_wr W16).1
   have O := O.wr W16 g_a
   have Fn_a := Fn_a.same W16
   have K16 := K3.wr W16 (Or.inl (List.mem_of_getElem? (i := 0) rfl))
   have N16 := Fr.snoc X16 N5 g_a
   refine Goes.pre (U' := T16.setTop (mkF m 41 #[sR a, sI ch] [(.int (ch.toInt8.toInt32)), (.int (Int32.ofNat cl.length)), (.ref bx2)])) (fun t k => st16 t (XS.iloadN X16.here hx rfl (hb hby d11_39) rfl (XS.i2b X16.here hx rfl (hb hby d11_40) rfl k))) ?_
   obtain ⟨cl17, Ar17, q17, Sz17, Ng17, Hs17, Ft17⟩ := id V_bx2
   obtain ⟨T17, h17, X17, e17, W17, st17⟩ := stB X16 hx hZ e16 Ar17 (j := (Int32.ofNat cl.length)) (inb_of Sz17 (own_ix _ _ (by omega) (by omega))) (g := (mkF m 41 #[sR a, sI ch] [(.int (ch.toInt8.toInt32)), (.int (Int32.ofNat cl.length)), (.ref bx2)])) rfl rfl (hb hby d11_41)
   have nr17 : nar .byte (ch.toInt8.toInt32) = (ch.toInt8.toInt32) := own_bb _
   have ft17 : fits .byte (.int (ch.toInt8.toInt32)) = true := nr17 ▸ (fits_nar_byte (ch.toInt8.toInt32) : fits .byte (.int (nar .byte (ch.toInt8.toInt32))) = true)
   rw [nr17] at W17
   have E_a := E_a.wr W17
   have E_bx2 := E_bx2.wr W17
   have Fv_a := Fv_a.other W17 (Or.inl ne_a_bx2)
   have Fc_a := Fc_a.other W17 (Or.inl ne_a_bx2)
   have Fn_a := Fn_a.other W17 (Or.inl ne_a_bx2)
   have Fm_a := Fm_a.other W17 (Or.inl ne_a_bx2)
   have Z17 : n0 ≤ h17.size := Nat.le_trans Z16 (Keep.of_wr W17).1
   have O := O.wr W17 g_bx2
   have V_bx2 : Arv Z h17 bx2 kx2 .byte (Int32.ofNat cx2) ((cl.map fun c => .int c.toInt8.toInt32) ++ [.int (ch.toInt8.toInt32)]) (.int (0 : Int32)) := own_push Ar17 q17 Sz17 Ng17 Hs17 Ft17 ft17 W17 (by rw [own_ixn _ (by omega), List.length_map])
   have K17 := K16.wr W17 (own_mayk mz_bx2 (List.mem_of_getElem? (i := 1) rfl))
   have N17 := Fr.snoc X17 N16 g_bx2
   refine Goes.pre (U' := T17.setTop (mkF m 76 #[sR a, sI ch] [(.ref a)])) (fun t k => st17 t (XS.goto X17.here hx rfl (pc0 := 42) (pc' := 75) rfl (hb hby d11_42) (by decide) (by decide) (XS.aloadN X17.here hx rfl (hb hby d11_75) rfl rfl k))) ?_
   refine Goes.ret X17 (v := (some (.ref a))) (fun h => by rw [hret] at h; cases h) hlk (by decide) (by decide) e17 (fun fs hr => retOut X17 hx hret rfl (Or.inr (Or.inr (Or.inr (Or.inr ⟨rfl, rfl, rfl⟩)))) (hb hby d11_76) hr) ?_
   rw [own_lenS cl ch] at Fn_a
   have V_bx2 : Arv Z h17 bx2 kx2 .byte (Int32.ofNat cx2) ((cl ++ [ch]).map fun c => .int c.toInt8.toInt32) (.int (0 : Int32)) := by rw [List.map_append]; exact V_bx2
   exact ⟨bx2, kx2, rfl, N17, K17, ⟨E_a, E_bx2, Fv_a, Fn_a, Fm_a, own_snoc hcA hch, Or.inl ⟨Fc_a, own_snoc hleA ((own_canE _).2 hc21), cx2, (by rw [List.length_append]; exact hx1), hx2, V_bx2⟩⟩, g_bx2, mz_bx2⟩
 ·
  refine Goes.pre (U' := s₁.setTop (mkF m 2 #[sR a, sI ch] [(.ref a), (.ref a)])) (fun t k => XS.aloadN X0.here hx rfl (hb hby d11_0) rfl rfl (XS.aloadN X0.here hx rfl (hb hby d11_1) rfl rfl k)) ?_
  obtain ⟨T18, X18, e18, st18⟩ := getF X0 hx hZ hown (host := "") (Or.inl (wq hw 71 rfl)) Via.refl e0 Fn_a (g := (mkF m 2 #[sR a, sI ch] [(.ref a), (.ref a)])) rfl rfl (hb hby d11_2)
  refine Goes.pre (U' := T18.setTop (mkF m 7 #[sR a, sI ch] [(.int ((Int32.ofNat cl.length) + (1 : Int32))), (.ref a)])) (fun t k => st18 t (XS.iconst X18.here hx rfl (hb hby d11_5) (XS.iadd X18.here hx rfl (hb hby d11_6) rfl k))) ?_
  rw [own_inc]
  have lt_a := E_a.lt
  have lt_b := E_b.lt
  obtain ⟨cq19, q19, q19'⟩ := E_a.cell
  obtain ⟨_, _, ⟨T19, L19, k19, n19⟩, -, X19, ⟨Lc19, hQ19, l19, y19, z19⟩, st19⟩ := X18.privateBack hx (y := M12) hown (mvT hZ (wq hw 73 rfl)) (mvT hZ (wq hw 74 rfl)) (mvT hZ (own_selfp (wq hw 76 rfl) (wq hw 74 rfl) (wq hw 75 rfl) (by decide) (by decide))) (Cond.privateMethod_at (mvP hZ (wq hw 75 rfl) (args := #[]))) (mvT hZ (wq hw 77 rfl)) (by decide) (backOf (W := 0) (rm_ens1 l Z a0 hw [] a b kb cap (cl.length + 1) (cl.flatMap fun c => [.int (c >>> ((0 : Int32) &&& 31)).toInt8.toInt32, .int (c >>> ((8 : Int32) &&& 31)).toInt8.toInt32]) (Int32.ofNat cl.length) h0 n0 Z0 E_a E_b Fv_a Fc_a Fn_a Fm_a V_b hc2 (by omega) (by rw [own_fm2]; omega) g_b ne_b_a g_a) hZ (wq hw 77 rfl) (wq hw 53 rfl) (by decide) (by decide)) (g := (mkF m 7 #[sR a, sI ch] [(.int (Int32.ofNat (cl.length + 1))), (.ref a)])) rfl (by rw [hml]; rfl) (Steps.refl _) (a := a) (by rw [e18]; exact q19) q19' (argsL := [(.int (Int32.ofNat (cl.length + 1)))]) (rest := []) (lenOf pd__28I_29V rfl) rfl (by show 2 * 0 + _ ≤ _; exact Nat.le_of_eq rfl) (hb hby d11_7) (fun _ _ => ⟨rfl, e18, (by decide : 0 + 1 ≤ _), (by decide : 0 + 96 ≤ _)⟩)
  dsimp only [Pt.U, Pt.locs, Pt.cells, Pt.slots] at X19 l19 y19 z19 st19 hQ19
  subst l19 y19 z19
  obtain ⟨bx2, kx2, cx2, rfl, N19q, KQ19, fo0_19, fo1_19, fo2_19, fo3_19, fo4_19, fo5_19, g_bx2, ml_bx2, hx19⟩ := hQ19
  have N19 := Fr.app N0 N19q
  have E_a := E_a.keep KQ19
  have E_b := E_b.keep KQ19
  have V_b := V_b.keep KQ19 (ninS ne_b_a nin0)
  have Z20 : n0 ≤ T19.heap.size := Nat.le_trans Z0 KQ19.1
  have O := O.keep KQ19 (allS (P := fun x => n0 ≤ x) g_a all0)
  have K20 := K0.trans KQ19 (allS (P := fun x => x ∈ [a, b] ∨ h0.size ≤ x) (Or.inl (List.mem_of_getElem? (i := 0) rfl)) all0)
  have ne_a_bx2 : a ≠ bx2 := own_mayne ml_bx2 lt_a ne_a_b
  have ne_bx2_a := ne_a_bx2.symm
  have mz_bx2 : bx2 = b ∨ h0.size ≤ bx2 := own_may1 ml_bx2 (Nat.le_trans K0.1)
  have E_bx2 := fo0_19
  have Fv_a := fo1_19
  have Fc_a := fo2_19
  have Fn_a := fo3_19
  have Fm_a := fo4_19
  have V_bx2 := fo5_19
  refine Goes.pre (U' := T19.setTop (mkF m 10 #[sR a, sI ch] [])) (fun t k => st19.trans k) ?_
  obtain ⟨hx1, hx2, hx3⟩ := hx19
  refine Goes.pre (U' := T19.setTop (mkF m 11 #[sR a, sI ch] [(.ref a)])) (fun t k => XS.aloadN X19.here hx rfl (hb hby d11_10) rfl rfl k) ?_
  obtain ⟨cq21, kq21, q21a, q21b, q21c⟩ := isOf hZ rfl E_a
  obtain ⟨_, _, ⟨T21, L21, k21, n21⟩, -, X21, ⟨Lc21, hQ21, l21, y21, z21⟩, st21⟩ := X19.virtualBack hx (y := M13) (z := M13) hown (mvT hZ (wq hw 78 rfl)) (mvT hZ (wq hw 79 rfl)) (notFace_of_selects (args := #[]) (mvT hZ (wq hw 81 rfl))) (mvT hZ (wq hw 81 rfl)) (mvT hZ (wq hw 80 rfl)) (by decide) (backOf (W := 0) (rm_aL1 l Z a0 hw [] a cs T19.heap n0 Z20 sC Fc_a hcs O) hZ (wq hw 82 rfl) (wq hw 53 rfl) (by decide) (by decide)) q21a q21c (g := (mkF m 11 #[sR a, sI ch] [(.ref a)])) rfl (by rw [hml]; rfl) (Steps.refl _) (argsL := []) (rest := []) (lenOf pd__28_29Z rfl) rfl (by show 2 * 0 + _ ≤ _; exact Nat.le_of_eq rfl) (hb hby d11_11) (fun _ _ => ⟨rfl, rfl, (by decide : 1 + 0 ≤ _), (by decide : 96 + 0 ≤ _)⟩)
  dsimp only [Pt.U, Pt.locs, Pt.cells, Pt.slots] at X21 l21 y21 z21 st21 hQ21
  subst l21 y21 z21
  obtain ⟨rfl, N21q, HQ21⟩ := hQ21
  have N21 := Fr.app N19 N21q
  refine Goes.pre (U' := T21.setTop (mkF m 14 #[sR a, sI ch] [(.int (0 : Int32))])) (fun t k => st21.trans k) ?_
  have hc14 : (0 : Int32) = (0 : Int32) := rfl
  refine Goes.pre (U' := T21.setTop (mkF m 46 #[sR a, sI ch] [(.ref a)])) (fun t k => XS.ifYes X21.here hx rfl (pc0 := 14) (pc' := 45) rfl (hb hby d11_14) rfl ((if0 _ _).trans (teq hc14).1) (by decide) (by decide) (XS.aloadN X21.here hx rfl (hb hby d11_45) rfl rfl k)) ?_
  obtain ⟨cq22, kq22, q22a, q22b, q22c⟩ := isOf hZ HQ21 E_a
  obtain ⟨_, _, ⟨T22, L22, k22, n22⟩, -, X22, ⟨Lc22, hQ22, l22, y22, z22⟩, st22⟩ := X21.virtualBack hx (y := M13) (z := M13) hown (mvT hZ (wq hw 78 rfl)) (mvT hZ (wq hw 79 rfl)) (notFace_of_selects (args := #[]) (mvT hZ (wq hw 81 rfl))) (mvT hZ (wq hw 81 rfl)) (mvT hZ (wq hw 80 rfl)) (by decide) (backOf (W := 0) (rm_aL1 l Z a0 hw [] a cs T19.heap n0 Z20 sC Fc_a hcs O) hZ (wq hw 82 rfl) (wq hw 53 rfl) (by decide) (by decide)) q22a q22c (g := (mkF m 46 #[sR a, sI ch] [(.ref a)])) rfl (by rw [hml]; rfl) (Steps.refl _) (argsL := []) (rest := []) (lenOf pd__28_29Z rfl) rfl (by show 2 * 0 + _ ≤ _; exact Nat.le_of_eq rfl) (hb hby d11_46) (fun _ _ => ⟨rfl, HQ21, (by decide : 1 + 0 ≤ _), (by decide : 96 + 0 ≤ _)⟩)
  dsimp only [Pt.U, Pt.locs, Pt.cells, Pt.slots] at X22 l22 y22 z22 st22 hQ22
  subst l22 y22 z22
  obtain ⟨rfl, N22q, HQ22⟩ := hQ22
  have N22 := Fr.app N21 N22q
  refine Goes.pre (U' := T22.setTop (mkF m 49 #[sR a, sI ch] [(.int (0 : Int32))])) (fun t k => st22.trans k) ?_
  have hc49 : (0 : Int32) = (0 : Int32) := rfl
  refine Goes.pre (U' := T22.setTop (mkF m 57 #[sR a, sI ch] [(.ref a)])) (fun t k => XS.ifYes X22.here hx rfl (pc0 := 49) (pc' := 56) rfl (hb hby d11_49) rfl ((if0 _ _).trans (teq hc49).1) (by decide) (by decide) (XS.aloadN X22.here hx rfl (hb hby d11_56) rfl rfl k)) ?_
  obtain ⟨T23, X23, e23, st23⟩ := getF X22 hx hZ hown (host := "") (Or.inl (wq hw 57 rfl)) Via.refl HQ22 Fv_a (g := (mkF m 57 #[sR a, sI ch] [(.ref a)])) rfl rfl (hb hby d11_57)
  refine Goes.pre (U' := T23.setTop (mkF m 62 #[sR a, sI ch] [(.ref a), (.ref a), (.ref bx2)])) (fun t k => st23 t (XS.aloadN X23.here hx rfl (hb hby d11_60) rfl rfl (XS.dup X23.here hx rfl (hb hby d11_61) rfl rfl k))) ?_
  obtain ⟨T24, X24, e24, st24⟩ := getF X23 hx hZ hown (host := "") (Or.inl (wq hw 71 rfl)) Via.refl e23 Fn_a (g := (mkF m 62 #[sR a, sI ch] [(.ref a), (.ref a), (.ref bx2)])) rfl rfl (hb hby d11_62)
  refine Goes.pre (U' := T24.setTop (mkF m 68 #[sR a, sI ch] [(.int ((Int32.ofNat cl.length) + (1 : Int32))), (.ref a), (.int (Int32.ofNat cl.length)), (.ref bx2)])) (fun t k => st24 t (XS.dupX1 X24.here hx rfl (hb hby d11_65) rfl rfl rfl (XS.iconst X24.here hx rfl (hb hby d11_66) (XS.iadd X24.here hx rfl (hb hby d11_67) rfl k)))) ?_
  obtain ⟨T25, h25, X25, e25, W25, st25⟩ := putF X24 hx hZ hown (host := "") (Or.inl (wq hw 71 rfl)) Via.refl e24 Fn_a E_a (Or.inl (wq hw 72 rfl)) (wq hw 33 rfl) (ty := .int) (by decide) rfl rfl (g := (mkF m 68 #[sR a, sI ch] [(.int ((Int32.ofNat cl.length) + (1 : Int32))), (.ref a), (.int (Int32.ofNat cl.length)), (.ref bx2)])) rfl rfl (hb hby d11_68)
  have E_a := E_a.wr W25
  have E_bx2 := E_bx2.wr W25
  have Fv_a := Fv_a.other W25 (Or.inr (slot_ne (Or.inl (wq hw 58 rfl)) (Or.inl (wq hw 72 rfl)) (by decide) (t := (.array .byte)) (t' := .int) (by decide) (by decide)))
  have Fc_a := Fc_a.other W25 (Or.inr (slot_ne (Or.inl (wq hw 60 rfl)) (Or.inl (wq hw 72 rfl)) (by decide) (t := .byte) (t' := .int) (by decide) (by decide)))
  have Fm_a := Fm_a.other W25 (Or.inr (slot_ne (Or.inl (wq hw 315 rfl)) (Or.inl (wq hw 72 rfl)) (by decide) (t := .boolean) (t' := .int) (by decide) (by decide)))
  have V_bx2 := V_bx2.other W25 ne_bx2_a
  have Z25 : n0 ≤ h25.size := Nat.le_trans Z20 (Keep.of_wr W25).1
  have O := O.wr W25 g_a
  have Fn_a := Fn_a.same W25
  have K25 := K20.wr W25 (Or.inl (List.mem_of_getElem? (i := 0) rfl))
  have N25 := Fr.snoc X25 N22 g_a
  refine Goes.pre (U' := T25.setTop (mkF m 72 #[sR a, sI ch] [(.int ch), (.int (Int32.ofNat cl.length)), (.ref bx2)])) (fun t k => st25 t (XS.iloadN X25.here hx rfl (hb hby d11_71) rfl k)) ?_
  obtain ⟨_, _, ⟨T26, L26, k26, n26⟩, -, X26, ⟨Lc26, hQ26, l26, y26, z26⟩, st26⟩ := Jvm.LawKit.callS X25 hx (y := M65) hown (mvT hZ (wq hw 311 rfl)) (mvT hZ (wq hw 312 rfl)) (mvT hZ (wq hw 163 rfl)) (mvT hZ (wq hw 313 rfl)) (by decide) (backOf (W := 0) (rm_pcsb l Z a0 hw [] bx2 kx2 cx2 cl.length (cl.flatMap fun c => [.int (c >>> ((0 : Int32) &&& 31)).toInt8.toInt32, .int (c >>> ((8 : Int32) &&& 31)).toInt8.toInt32]) ch sf h25 n0 Z25 V_bx2 sA sH sL sF hx2 (by omega) (own_fm2 _ _ _) hsf g_bx2 O) hZ (wq hw 313 rfl) (wq hw 163 rfl) (by decide) (by decide)) (g := (mkF m 72 #[sR a, sI ch] [(.int ch), (.int (Int32.ofNat cl.length)), (.ref bx2)])) rfl (by rw [hml]; rfl) (argsL := [(.ref bx2), (.int (Int32.ofNat cl.length)), (.int ch)]) (rest := []) (lenOf pd__28_5bBII_29V rfl) rfl (by show 2 * 0 + _ ≤ _; exact Nat.le_of_eq rfl) (hb hby d11_72) (fun _ _ => ⟨rfl, e25, (by decide : 1 + 0 ≤ _), (by decide : 96 + 0 ≤ _)⟩)
  dsimp only [Pt.U, Pt.locs, Pt.cells, Pt.slots] at X26 l26 y26 z26 st26 hQ26
  subst l26 y26 z26
  obtain ⟨rfl, N26q, KQ26, fo0_26⟩ := hQ26
  have N26 := Fr.app N25 N26q
  have E_a := E_a.keep KQ26
  have E_bx2 := E_bx2.keep KQ26
  have Fv_a := Fv_a.keep KQ26 (ninS ne_a_bx2 nin0)
  have Fc_a := Fc_a.keep KQ26 (ninS ne_a_bx2 nin0)
  have Fn_a := Fn_a.keep KQ26 (ninS ne_a_bx2 nin0)
  have Fm_a := Fm_a.keep KQ26 (ninS ne_a_bx2 nin0)
  have Z27 : n0 ≤ T26.heap.size := Nat.le_trans Z25 KQ26.1
  have O := O.keep KQ26 (allS (P := fun x => n0 ≤ x) g_bx2 all0)
  have K27 := K25.trans KQ26 (allS (P := fun x => x ∈ [a, b] ∨ h0.size ≤ x) (own_mayk mz_bx2 (List.mem_of_getElem? (i := 1) rfl)) all0)
  have V_bx2 := fo0_26
  refine Goes.pre (U' := T26.setTop (mkF m 76 #[sR a, sI ch] [(.ref a)])) (fun t k => st26 t (XS.aloadN X26.here hx rfl (hb hby d11_75) rfl rfl k)) ?_
  refine Goes.ret X26 (v := (some (.ref a))) (fun h => by rw [hret] at h; cases h) hlk (by decide) (by decide) rfl (fun fs hr => retOut X26 hx hret rfl (Or.inr (Or.inr (Or.inr (Or.inr ⟨rfl, rfl, rfl⟩)))) (hb hby d11_76) hr) ?_
  rw [own_lenS cl ch] at Fn_a
  have V_bx2 : Arv Z T26.heap bx2 kx2 .byte (Int32.ofNat (2 * cx2)) ((cl ++ [ch]).flatMap fun c => [.int (c >>> ((0 : Int32) &&& 31)).toInt8.toInt32, .int (c >>> ((8 : Int32) &&& 31)).toInt8.toInt32]) (.int (0 : Int32)) := by rw [List.flatMap_append]; simpa using V_bx2
  exact ⟨bx2, kx2, rfl, N26, K27, ⟨E_a, E_bx2, Fv_a, Fn_a, Fm_a, own_snoc hcA hch, Or.inr ⟨Fc_a, (let ⟨z, z1, z2⟩ := hexA; ⟨z, List.mem_append_left _ z1, z2⟩), cx2, (by rw [List.length_append]; exact hx1), hx2, V_bx2⟩⟩, g_bx2, mz_bx2⟩
theorem ef_rm_sbC (m : MethodId) (x0 : Addr) (x1 : Int32) : entryFrame m #[(.ref x0), (.int x1)] 2 = mkF m 0 #[sR x0, sI x1] [] := by first | (simp [entryFrame, mkF, argsToLocals, Value.category]; done) | rfl
def Q_rm_sbC (Z : State) (a : Addr) (b : Addr) (kb : ClassId) (cl : List Int32) (ch : Int32) (cs : Int32) (sf : Value) (h0 : Heap) (n0 : Nat) (v : Option Value) (h : Heap) (L : List Loc) : Prop := ∃ (by_ : Addr) (ky : ClassId), v = some (.ref a) ∧ Fr n0 L ∧ Keep h0 h [a, b] ∧ OwnSB Z h a by_ ky (cl ++ [ch]) ∧ n0 ≤ by_ ∧ (by_ = b ∨ h0.size ≤ by_)
set_option maxRecDepth 65536 in
set_option maxHeartbeats 40000000 in
theorem rm_sbC (l : Launch) (Z : State) (a0 : Array Value) (hw : ∀ d ∈ tables_1, d.before a0 Z = true) (ws : List Jvm.Cond) (a : Addr) (b : Addr) (kb : ClassId) (cl : List Int32) (ch : Int32) (cs : Int32) (sf : Value) (h0 : Heap) (n0 : Nat) (Z0 : n0 ≤ h0.size) (S_a : OwnSB Z h0 a b kb cl) (sC : OCS Z (.int cs)) (sA : OAD Z (.int (1 : Int32))) (sH : OHI Z (.int (0 : Int32))) (sL : OLO Z (.int (8 : Int32))) (sF : OSF Z sf) (hl22 : cl.length ≤ 22) (hch : OwnCh ch) (hcs : ¬ (cs = (0 : Int32))) (hsf : sf.isRef = true) (ne_b_a : b ≠ a) (ne_a_b : a ≠ b) (g_a : n0 ≤ a) (g_b : n0 ≤ b) (O : Old Z n0 h0) :
  Met l Z M10 jdk_67_method_14_code 2 (some (.object "java/lang/StringBuilder")) ws (Rm 7 2 192 102) #[(.ref a), (.int ch)] h0 (Q_rm_sbC Z a b kb cl ch cs sf h0 n0) := by
 refine met_of (plainFor_of_name pn_java_lang_StringBuilder) (own := "java/lang/StringBuilder") rfl (fun m => ef_rm_sbC m a ch) ?_
 intro p e s m below meth c s₁ hx hby hml hown hnm hZ X0 e0 hret hlk
 have N0 := Fr.nil n0
 have K0 := Keep.refl h0 [a, b]
 show Goes p e below s _ _ _ (s₁.setTop (mkF m 0 #[sR a, sI ch] []))
 refine Goes.pre (U' := s₁.setTop (mkF m 2 #[sR a, sI ch] [(.int ch), (.ref a)])) (fun t k => XS.aloadN X0.here hx rfl (hb hby d10_0) rfl rfl (XS.iloadN X0.here hx rfl (hb hby d10_1) rfl k)) ?_
 have lt_a := S_a.lt
 have lt_b := S_a.ltb
 obtain ⟨_, _, ⟨T1, L1, k1, n1⟩, -, X1, ⟨Lc1, hQ1, l1, y1, z1⟩, st1⟩ := superBack X0 hx hZ (y := M11) hown (wq hw 66 rfl) (own_same (wq hw 67 rfl) (wq hw 76 rfl) rfl (by decide) (by decide)) (wq hw 67 rfl) (wq hw 68 rfl) (by decide) (backOf (W := 0) (rm_apC l Z a0 hw [] a b kb cl ch cs sf h0 n0 Z0 S_a sC sA sH sL sF hl22 hch hcs hsf ne_b_a ne_a_b g_a g_b O) hZ (wq hw 70 rfl) (wq hw 53 rfl) (by decide) (by decide)) e0 (Ins.self S_a.1) (g := (mkF m 2 #[sR a, sI ch] [(.int ch), (.ref a)])) rfl (by rw [hml]; rfl) (wq hw 70 rfl) (argsL := [(.int ch)]) (rest := []) (lenOf pd__28C_29Ljava_2flang_2fAbstractStringBuilder_3b rfl) rfl (by show 2 * 0 + _ ≤ _; exact Nat.le_of_eq rfl) (hb hby d10_2) (fun _ _ => ⟨rfl, e0, (by decide : 0 + 2 ≤ _), (by decide : 0 + 192 ≤ _)⟩)
 dsimp only [Pt.U, Pt.locs, Pt.cells, Pt.slots] at X1 l1 y1 z1 st1 hQ1
 subst l1 y1 z1
 obtain ⟨by_1, ky1, rfl, N1q, KQ1, fo0_1, g_by_1, ml_by_1⟩ := hQ1
 have N1 := Fr.app N0 N1q
 have Z2 : n0 ≤ T1.heap.size := Nat.le_trans Z0 KQ1.1
 have O := O.keep KQ1 (allS (P := fun x => n0 ≤ x) g_a (allS (P := fun x => n0 ≤ x) g_b all0))
 have K2 := K0.trans KQ1 (allS (P := fun x => x ∈ [a, b] ∨ h0.size ≤ x) (Or.inl (List.mem_of_getElem? (i := 0) rfl)) (allS (P := fun x => x ∈ [a, b] ∨ h0.size ≤ x) (Or.inl (List.mem_of_getElem? (i := 1) rfl)) all0))
 have ne_a_by_1 : a ≠ by_1 := own_mayne ml_by_1 lt_a ne_a_b
 have ne_by_1_a := ne_a_by_1.symm
 have mz_by_1 : by_1 = b ∨ h0.size ≤ by_1 := own_may1 ml_by_1 (Nat.le_trans K0.1)
 have S_a := fo0_1
 refine Goes.pre (U' := T1.setTop (mkF m 7 #[sR a, sI ch] [(.ref a)])) (fun t k => st1.trans (XS.pop X1.here hx rfl (hb hby d10_5) rfl rfl (XS.aloadN X1.here hx rfl (hb hby d10_6) rfl rfl k))) ?_
 refine Goes.ret X1 (v := (some (.ref a))) (fun h => by rw [hret] at h; cases h) hlk (by decide) (by decide) rfl (fun fs hr => retOut X1 hx hret rfl (Or.inr (Or.inr (Or.inr (Or.inr ⟨rfl, rfl, rfl⟩)))) (hb hby d10_7) hr) ?_
 exact ⟨by_1, ky1, rfl, N1, K2, S_a, g_by_1, mz_by_1⟩
theorem ef_rm_asbI (m : MethodId) (x0 : Addr) (x1 : Int32) : entryFrame m #[(.ref x0), (.int x1)] 2 = mkF m 0 #[sR x0, sI x1] [] := by first | (simp [entryFrame, mkF, argsToLocals, Value.category]; done) | rfl
abbrev M9 : MethodName := ⟨"java/lang/AbstractStringBuilder", "<init>", "(I)V"⟩
theorem d9_0 : decode B9 0 = .ok (.aload_n 0, 1) := by decide +kernel
theorem d9_1 : decode B9 1 = .ok (.invokespecial 3, 3) := by decide +kernel
theorem d9_4 : decode B9 4 = .ok (.getstatic 18, 3) := by decide +kernel
theorem d9_7 : decode B9 7 = .ok (.ifCond .eq 18, 3) := by decide +kernel
theorem d9_10 : decode B9 10 = .ok (.aload_n 0, 1) := by decide +kernel
theorem d9_11 : decode B9 11 = .ok (.iload_n 1, 1) := by decide +kernel
theorem d9_12 : decode B9 12 = .ok (.newarray .byte, 2) := by decide +kernel
theorem d9_14 : decode B9 14 = .ok (.putfield 15, 3) := by decide +kernel
theorem d9_17 : decode B9 17 = .ok (.aload_n 0, 1) := by decide +kernel
theorem d9_18 : decode B9 18 = .ok (.iconst 0, 1) := by decide +kernel
theorem d9_19 : decode B9 19 = .ok (.putfield 22, 3) := by decide +kernel
theorem d9_22 : decode B9 22 = .ok (.goto 16, 3) := by decide +kernel
theorem d9_38 : decode B9 38 = .ok (.return_, 1) := by decide +kernel
def Q_rm_asbI (Z : State) (a : Addr) (ca : Nat) (cs : Int32) (h0 : Heap) (n0 : Nat) (v : Option Value) (h : Heap) (L : List Loc) : Prop := ∃ (bz : Addr) (kz : ClassId), v = none ∧ Fr n0 L ∧ Keep h0 h [a] ∧ OwnSB Z h a bz kz ([] : List Int32) ∧ n0 ≤ bz ∧ h0.size ≤ bz
set_option maxRecDepth 65536 in
set_option maxHeartbeats 40000000 in
theorem rm_asbI (l : Launch) (Z : State) (a0 : Array Value) (hw : ∀ d ∈ tables_1, d.before a0 Z = true) (ws : List Jvm.Cond) (a : Addr) (ca : Nat) (cs : Int32) (h0 : Heap) (n0 : Nat) (Z0 : n0 ≤ h0.size) (E_a : Exa Z h0 a "java/lang/StringBuilder") (Fv_a : Fld Z h0 a "java/lang/AbstractStringBuilder" "value" "[B" .null) (Fc_a : Fld Z h0 a "java/lang/AbstractStringBuilder" "coder" "B" (.int (0 : Int32))) (Fn_a : Fld Z h0 a "java/lang/AbstractStringBuilder" "count" "I" (.int (0 : Int32))) (Fm_a : Fld Z h0 a "java/lang/AbstractStringBuilder" "maybeLatin1" "Z" (.int (0 : Int32))) (sC : OCS Z (.int cs)) (hca : ca ≤ 8) (hcs : ¬ (cs = (0 : Int32))) (g_a : n0 ≤ a) (O : Old Z n0 h0) :
  Met l Z M9 jdk_68_method_2_code 2 none ws (Rm 1 1 8 12) #[(.ref a), (.int (Int32.ofNat ca))] h0 (Q_rm_asbI Z a ca cs h0 n0) := by
 refine met_of (plainFor_of_name pn_java_lang_AbstractStringBuilder) (own := "java/lang/AbstractStringBuilder") rfl (fun m => ef_rm_asbI m a (Int32.ofNat ca)) ?_
 intro p e s m below meth c s₁ hx hby hml hown hnm hZ X0 e0 hret hlk
 have N0 := Fr.nil n0
 have K0 := Keep.refl h0 [a]
 show Goes p e below s _ _ _ (s₁.setTop (mkF m 0 #[sR a, sI (Int32.ofNat ca)] []))
 refine Goes.pre (U' := s₁.setTop (mkF m 1 #[sR a, sI (Int32.ofNat ca)] [(.ref a)])) (fun t k => XS.aloadN X0.here hx rfl (hb hby d9_0) rfl rfl k) ?_
 obtain ⟨T1, X1, e1, st1⟩ := initO X0 hx hZ hown (wq hw 55 rfl) (wq hw 18 rfl) (wq hw 19 rfl) e0 (g := (mkF m 1 #[sR a, sI (Int32.ofNat ca)] [(.ref a)])) rfl (by rw [hml]; rfl) rfl (hb hby d9_1) (by decide) (W := 0) (by show 2 * 0 + _ ≤ _; exact Nat.le_of_eq rfl) (by decide)
 refine Goes.pre (U' := T1.setTop (mkF m 4 #[sR a, sI (Int32.ofNat ca)] [])) (fun t k => st1 t k) ?_
 obtain ⟨T2, X2, e2, st2⟩ := getS2 X1 hx hZ hown (host := "") (Or.inl (wq hw 56 rfl)) Via.refl e1 (sC.ext O.2) (g := (mkF m 4 #[sR a, sI (Int32.ofNat ca)] [])) rfl (hb hby d9_4)
 refine Goes.pre (U' := T2.setTop (mkF m 7 #[sR a, sI (Int32.ofNat ca)] [(.int cs)])) (fun t k => st2 t k) ?_
 have hc7 : ¬ (cs = (0 : Int32)) := hcs
 refine Goes.pre (U' := T2.setTop (mkF m 12 #[sR a, sI (Int32.ofNat ca)] [(.int (Int32.ofNat ca)), (.ref a)])) (fun t k => XS.ifNo X2.here hx rfl (hb hby d9_7) rfl ((if0 _ _).trans (feq hc7).1) (XS.aloadN X2.here hx rfl (hb hby d9_10) rfl rfl (XS.iloadN X2.here hx rfl (hb hby d9_11) rfl k))) ?_
 obtain ⟨T3, h3, k3, X3, e3, E3, A3, B3, st3⟩ := newPE X2 hx hZ (wq hw 21 rfl) e2 (g := (mkF m 12 #[sR a, sI (Int32.ofNat ca)] [(.int (Int32.ofNat ca)), (.ref a)])) rfl (hb hby d9_12) rfl (own_neg _ (by omega)) (cap := 8) (own_cap _ _ (by omega) hca) (by decide) (by decide) (by decide) (ad := "[B") (by decide)
 obtain ⟨nb3, g3⟩ : ∃ z, z = h0.size := ⟨_, rfl⟩
 rw [← g3] at A3 B3 st3
 have ne_a_nb3 : a ≠ nb3 := Nat.ne_of_lt (Nat.lt_of_lt_of_le E_a.lt (Nat.le_of_eq g3.symm))
 have ne_nb3_a := ne_a_nb3.symm
 have g_nb3 : n0 ≤ nb3 := Nat.le_trans Z0 (Nat.le_of_eq g3.symm)
 have sz_nb3 : h0.size ≤ nb3 := Nat.le_trans K0.1 (Nat.le_of_eq g3.symm)
 have E_a := E_a.ext E3
 have Fv_a := Fv_a.ext E3
 have Fc_a := Fc_a.ext E3
 have Fn_a := Fn_a.ext E3
 have Fm_a := Fm_a.ext E3
 have O := O.ext E3
 have Z3 : n0 ≤ h3.size := Nat.le_trans Z0 E3.1
 have K3 := K0.ext E3
 have E_nb3 := B3
 have V_nb3 : Arv Z h3 nb3 k3 .byte (Int32.ofNat ca) [] (.int (0 : Int32)) := Arv.new A3 (own_neg _ (by omega))
 refine Goes.pre (U' := T3.setTop (mkF m 14 #[sR a, sI (Int32.ofNat ca)] [(.ref nb3), (.ref a)])) (fun t k => st3 t k) ?_
 obtain ⟨T4, h4, X4, e4, W4, st4⟩ := putF X3 hx hZ hown (host := "") (Or.inl (wq hw 57 rfl)) Via.refl e3 Fv_a E_a (Or.inl (wq hw 58 rfl)) (wq hw 33 rfl) (ty := (.array .byte)) (by decide) rfl rfl (g := (mkF m 14 #[sR a, sI (Int32.ofNat ca)] [(.ref nb3), (.ref a)])) rfl rfl (hb hby d9_14)
 have E_a := E_a.wr W4
 have Fc_a := Fc_a.other W4 (Or.inr (slot_ne (Or.inl (wq hw 60 rfl)) (Or.inl (wq hw 58 rfl)) (by decide) (t := .byte) (t' := (.array .byte)) (by decide) (by decide)))
 have Fn_a := Fn_a.other W4 (Or.inr (slot_ne (Or.inl (wq hw 72 rfl)) (Or.inl (wq hw 58 rfl)) (by decide) (t := .int) (t' := (.array .byte)) (by decide) (by decide)))
 have Fm_a := Fm_a.other W4 (Or.inr (slot_ne (Or.inl (wq hw 315 rfl)) (Or.inl (wq hw 58 rfl)) (by decide) (t := .boolean) (t' := (.array .byte)) (by decide) (by decide)))
 have E_nb3 := E_nb3.wr W4
 have V_nb3 := V_nb3.other W4 ne_nb3_a
 have Z4 : n0 ≤ h4.size := Nat.le_trans Z3 (Keep.of_wr W4).1
 have O := O.wr W4 g_a
 have Fv_a := Fv_a.same W4
 have K4 := K3.wr W4 (Or.inl (List.mem_of_getElem? (i := 0) rfl))
 have N4 := Fr.snoc X4 N0 g_a
 refine Goes.pre (U' := T4.setTop (mkF m 19 #[sR a, sI (Int32.ofNat ca)] [(.int (0 : Int32)), (.ref a)])) (fun t k => st4 t (XS.aloadN X4.here hx rfl (hb hby d9_17) rfl rfl (XS.iconst X4.here hx rfl (hb hby d9_18) k))) ?_
 obtain ⟨T5, h5, X5, e5, W5, st5⟩ := putFN X4 hx hZ hown (wq hw 59 rfl) Via.refl e4 Fc_a E_a (Or.inl (wq hw 60 rfl)) (wq hw 33 rfl) (ty := .byte) (v' := (.int (0 : Int32))) (by decide) rfl (by decide) (g := (mkF m 19 #[sR a, sI (Int32.ofNat ca)] [(.int (0 : Int32)), (.ref a)])) rfl rfl (hb hby d9_19)
 have E_a := E_a.wr W5
 have Fv_a := Fv_a.other W5 (Or.inr (slot_ne (Or.inl (wq hw 58 rfl)) (Or.inl (wq hw 60 rfl)) (by decide) (t := (.array .byte)) (t' := .byte) (by decide) (by decide)))
 have Fn_a := Fn_a.other W5 (Or.inr (slot_ne (Or.inl (wq hw 72 rfl)) (Or.inl (wq hw 60 rfl)) (by decide) (t := .int) (t' := .byte) (by decide) (by decide)))
 have Fm_a := Fm_a.other W5 (Or.inr (slot_ne (Or.inl (wq hw 315 rfl)) (Or.inl (wq hw 60 rfl)) (by decide) (t := .boolean) (t' := .byte) (by decide) (by decide)))
 have E_nb3 := E_nb3.wr W5
 have V_nb3 := V_nb3.other W5 ne_nb3_a
 have Z5 : n0 ≤ h5.size := Nat.le_trans Z4 (Keep.of_wr W5).1
 have O := O.wr W5 g_a
 have Fc_a := Fc_a.same W5
 have K5 := K4.wr W5 (Or.inl (List.mem_of_getElem? (i := 0) rfl))
 have N5 := Fr.snoc X5 N4 g_a
 refine Goes.pre (U' := T5.setTop (mkF m 38 #[sR a, sI (Int32.ofNat ca)] [])) (fun t k => st5 t (XS.goto X5.here hx rfl (pc0 := 22) (pc' := 38) rfl (hb hby d9_22) (by decide) (by decide) k)) ?_
 refine Goes.ret X5 (v := none) (fun _ => rfl) hlk (by decide) (by decide) e5 (fun fs hr => X5.returnOut hx hret (hb hby d9_38) hr) ?_
 exact ⟨nb3, k3, rfl, N5, K5, ⟨E_a, E_nb3, Fv_a, Fn_a, Fm_a, own_cN, Or.inl ⟨Fc_a, own_eN, ca, Nat.zero_le _, (by omega), V_nb3⟩⟩, g_nb3, sz_nb3⟩
theorem ef_rm_sbI (m : MethodId) (x0 : Addr) (x1 : Int32) : entryFrame m #[(.ref x0), (.int x1)] 2 = mkF m 0 #[sR x0, sI x1] [] := by first | (simp [entryFrame, mkF, argsToLocals, Value.category]; done) | rfl
abbrev M8 : MethodName := ⟨"java/lang/StringBuilder", "<init>", "(I)V"⟩
theorem d8_0 : decode B8 0 = .ok (.aload_n 0, 1) := by decide +kernel
theorem d8_1 : decode B8 1 = .ok (.iload_n 1, 1) := by decide +kernel
theorem d8_2 : decode B8 2 = .ok (.invokespecial 1, 3) := by decide +kernel
theorem d8_5 : decode B8 5 = .ok (.return_, 1) := by decide +kernel
def Q_rm_sbI (Z : State) (a : Addr) (ca : Nat) (cs : Int32) (h0 : Heap) (n0 : Nat) (v : Option Value) (h : Heap) (L : List Loc) : Prop := ∃ (bz : Addr) (kz : ClassId), v = none ∧ Fr n0 L ∧ Keep h0 h [a] ∧ OwnSB Z h a bz kz ([] : List Int32) ∧ n0 ≤ bz ∧ h0.size ≤ bz
set_option maxRecDepth 65536 in
set_option maxHeartbeats 40000000 in
theorem rm_sbI (l : Launch) (Z : State) (a0 : Array Value) (hw : ∀ d ∈ tables_1, d.before a0 Z = true) (ws : List Jvm.Cond) (a : Addr) (ca : Nat) (cs : Int32) (h0 : Heap) (n0 : Nat) (Z0 : n0 ≤ h0.size) (E_a : Exa Z h0 a "java/lang/StringBuilder") (Fv_a : Fld Z h0 a "java/lang/AbstractStringBuilder" "value" "[B" .null) (Fc_a : Fld Z h0 a "java/lang/AbstractStringBuilder" "coder" "B" (.int (0 : Int32))) (Fn_a : Fld Z h0 a "java/lang/AbstractStringBuilder" "count" "I" (.int (0 : Int32))) (Fm_a : Fld Z h0 a "java/lang/AbstractStringBuilder" "maybeLatin1" "Z" (.int (0 : Int32))) (sC : OCS Z (.int cs)) (hca : ca ≤ 8) (hcs : ¬ (cs = (0 : Int32))) (g_a : n0 ≤ a) (O : Old Z n0 h0) :
  Met l Z M8 jdk_67_method_2_code 2 none ws (Rm 2 1 8 25) #[(.ref a), (.int (Int32.ofNat ca))] h0 (Q_rm_sbI Z a ca cs h0 n0) := by
 refine met_of (plainFor_of_name pn_java_lang_StringBuilder) (own := "java/lang/StringBuilder") rfl (fun m => ef_rm_sbI m a (Int32.ofNat ca)) ?_
 intro p e s m below meth c s₁ hx hby hml hown hnm hZ X0 e0 hret hlk
 have N0 := Fr.nil n0
 have K0 := Keep.refl h0 [a]
 show Goes p e below s _ _ _ (s₁.setTop (mkF m 0 #[sR a, sI (Int32.ofNat ca)] []))
 refine Goes.pre (U' := s₁.setTop (mkF m 2 #[sR a, sI (Int32.ofNat ca)] [(.int (Int32.ofNat ca)), (.ref a)])) (fun t k => XS.aloadN X0.here hx rfl (hb hby d8_0) rfl rfl (XS.iloadN X0.here hx rfl (hb hby d8_1) rfl k)) ?_
 have lt_a := E_a.lt
 obtain ⟨_, _, ⟨T1, L1, k1, n1⟩, -, X1, ⟨Lc1, hQ1, l1, y1, z1⟩, st1⟩ := X0.specialBack hx (y := M9) rfl hown (mvT hZ (wq hw 49 rfl)) (mvT hZ (wq hw 50 rfl)) (mvT hZ (wq hw 54 rfl)) (by decide) (backOf (W := 0) (rm_asbI l Z a0 hw [] a ca cs h0 n0 Z0 E_a Fv_a Fc_a Fn_a Fm_a sC hca hcs g_a O) hZ (wq hw 54 rfl) (wq hw 53 rfl) (by decide) (by decide)) (g := (mkF m 2 #[sR a, sI (Int32.ofNat ca)] [(.int (Int32.ofNat ca)), (.ref a)])) rfl (by rw [hml]; rfl) (Steps.refl _) (a := a) (argsL := [(.int (Int32.ofNat ca))]) (rest := []) (lenOf pd__28I_29V rfl) rfl (by show 2 * 0 + _ ≤ _; exact Nat.le_of_eq rfl) (hb hby d8_2) (fun _ _ => ⟨rfl, e0, (by decide : 0 + 1 ≤ _), (by decide : 0 + 8 ≤ _)⟩)
 dsimp only [Pt.U, Pt.locs, Pt.cells, Pt.slots] at X1 l1 y1 z1 st1 hQ1
 subst l1 y1 z1
 obtain ⟨bz1, kz1, rfl, N1q, KQ1, fo0_1, g_bz1, sl_bz1⟩ := hQ1
 have N1 := Fr.app N0 N1q
 have E_a := E_a.keep KQ1
 have Z2 : n0 ≤ T1.heap.size := Nat.le_trans Z0 KQ1.1
 have O := O.keep KQ1 (allS (P := fun x => n0 ≤ x) g_a all0)
 have K2 := K0.trans KQ1 (allS (P := fun x => x ∈ [a] ∨ h0.size ≤ x) (Or.inl (List.mem_of_getElem? (i := 0) rfl)) all0)
 have ne_a_bz1 : a ≠ bz1 := Nat.ne_of_lt (Nat.lt_of_lt_of_le lt_a sl_bz1)
 have ne_bz1_a := ne_a_bz1.symm
 have sz_bz1 : h0.size ≤ bz1 := Nat.le_trans K0.1 sl_bz1
 have S_a := fo0_1
 refine Goes.pre (U' := T1.setTop (mkF m 5 #[sR a, sI (Int32.ofNat ca)] [])) (fun t k => st1.trans k) ?_
 refine Goes.ret X1 (v := none) (fun _ => rfl) hlk (by decide) (by decide) rfl (fun fs hr => X1.returnOut hx hret (hb hby d8_5) hr) ?_
 exact ⟨bz1, kz1, rfl, N1, K2, S_a, g_bz1, sz_bz1⟩
theorem ef_rm_inf1 (m : MethodId) (x0 : Addr) : entryFrame m #[(.ref x0)] 2 = mkF m 0 #[sR x0, .unset] [] := by first | (simp [entryFrame, mkF, argsToLocals, Value.category]; done) | rfl
theorem d59_7 : decode B59 7 = .ok (.return_, 1) := by decide +kernel
def Q_rm_inf1 (Z : State) (a : Addr) (cs : Int32) (h0 : Heap) (n0 : Nat) (v : Option Value) (h : Heap) (L : List Loc) : Prop := v = none ∧ Fr n0 L ∧ h = h0
set_option maxRecDepth 65536 in
set_option maxHeartbeats 40000000 in
theorem rm_inf1 (l : Launch) (Z : State) (a0 : Array Value) (hw : ∀ d ∈ tables_1, d.before a0 Z = true) (ws : List Jvm.Cond) (a : Addr) (cs : Int32) (h0 : Heap) (n0 : Nat) (Z0 : n0 ≤ h0.size) (E_a : Exa Z h0 a "java/lang/StringBuilder") (Fc_a : Fld Z h0 a "java/lang/AbstractStringBuilder" "coder" "B" (.int (1 : Int32))) (sC : OCS Z (.int cs)) (hcs : ¬ (cs = (0 : Int32))) (O : Old Z n0 h0) :
  Met l Z M59 jdk_68_method_11_code 2 none ws (Rm 1 0 0 12) #[(.ref a)] h0 (Q_rm_inf1 Z a cs h0 n0) := by
 refine met_of (plainFor_of_name pn_java_lang_AbstractStringBuilder) (own := "java/lang/AbstractStringBuilder") rfl (fun m => ef_rm_inf1 m a) ?_
 intro p e s m below meth c s₁ hx hby hml hown hnm hZ X0 e0 hret hlk
 have N0 := Fr.nil n0
 show Goes p e below s _ _ _ (s₁.setTop (mkF m 0 #[sR a, .unset] []))
 refine Goes.pre (U' := s₁.setTop (mkF m 1 #[sR a, .unset] [(.ref a)])) (fun t k => XS.aloadN X0.here hx rfl (hb hby d59_0) rfl rfl k) ?_
 obtain ⟨cq1, kq1, q1a, q1b, q1c⟩ := isOf hZ e0 E_a
 obtain ⟨_, _, ⟨T1, L1, k1, n1⟩, -, X1, ⟨Lc1, hQ1, l1, y1, z1⟩, st1⟩ := X0.virtualBack hx (y := M13) (z := M13) hown (mvT hZ (wq hw 78 rfl)) (mvT hZ (wq hw 79 rfl)) (notFace_of_selects (args := #[]) (mvT hZ (wq hw 81 rfl))) (mvT hZ (wq hw 81 rfl)) (mvT hZ (wq hw 80 rfl)) (by decide) (backOf (W := 0) (rm_aL1 l Z a0 hw [] a cs h0 n0 Z0 sC Fc_a hcs O) hZ (wq hw 82 rfl) (wq hw 53 rfl) (by decide) (by decide)) q1a q1c (g := (mkF m 1 #[sR a, .unset] [(.ref a)])) rfl (by rw [hml]; rfl) (Steps.refl _) (argsL := []) (rest := []) (lenOf pd__28_29Z rfl) rfl (by show 2 * 0 + _ ≤ _; exact Nat.le_of_eq rfl) (hb hby d59_1) (fun _ _ => ⟨rfl, e0, (by decide : 0 + 0 ≤ _), (by decide : 0 + 0 ≤ _)⟩)
 dsimp only [Pt.U, Pt.locs, Pt.cells, Pt.slots] at X1 l1 y1 z1 st1 hQ1
 subst l1 y1 z1
 obtain ⟨rfl, N1q, HQ1⟩ := hQ1
 have N1 := Fr.app N0 N1q
 refine Goes.pre (U' := T1.setTop (mkF m 4 #[sR a, .unset] [(.int (0 : Int32))])) (fun t k => st1.trans k) ?_
 have hc4 : (0 : Int32) = (0 : Int32) := rfl
 refine Goes.pre (U' := T1.setTop (mkF m 7 #[sR a, .unset] [])) (fun t k => XS.ifNo X1.here hx rfl (hb hby d59_4) rfl ((if0 _ _).trans (teq hc4).2) k) ?_
 refine Goes.ret X1 (v := none) (fun _ => rfl) hlk (by decide) (by decide) HQ1 (fun fs hr => X1.returnOut hx hret (hb hby d59_7) hr) ?_
 exact ⟨rfl, N1, rfl⟩
theorem ef_rm_iin0 (m : MethodId) (x0 : Addr) (x1 : Addr) : entryFrame m #[(.ref x0), (.ref x1)] 2 = mkF m 0 #[sR x0, sR x1] [] := by first | (simp [entryFrame, mkF, argsToLocals, Value.category]; done) | rfl
abbrev M48 : MethodName := ⟨"java/lang/AbstractStringBuilder", "inflateIfNeededFor", "(Ljava/lang/String;)V"⟩
theorem d48_0 : decode B48 0 = .ok (.getstatic 18, 3) := by decide +kernel
theorem d48_3 : decode B48 3 = .ok (.ifCond .eq 18, 3) := by decide +kernel
theorem d48_6 : decode B48 6 = .ok (.aload_n 0, 1) := by decide +kernel
theorem d48_7 : decode B48 7 = .ok (.getfield 22, 3) := by decide +kernel
theorem d48_10 : decode B48 10 = .ok (.aload_n 1, 1) := by decide +kernel
theorem d48_11 : decode B48 11 = .ok (.invokevirtual 40, 3) := by decide +kernel
theorem d48_14 : decode B48 14 = .ok (.if_icmp .eq 7, 3) := by decide +kernel
theorem d48_21 : decode B48 21 = .ok (.return_, 1) := by decide +kernel
def Q_rm_iin0 (Z : State) (a : Addr) (x : Addr) (cs : Int32) (h0 : Heap) (n0 : Nat) (v : Option Value) (h : Heap) (L : List Loc) : Prop := v = none ∧ Fr n0 L ∧ h = h0
set_option maxRecDepth 65536 in
set_option maxHeartbeats 40000000 in
theorem rm_iin0 (l : Launch) (Z : State) (a0 : Array Value) (hw : ∀ d ∈ tables_1, d.before a0 Z = true) (ws : List Jvm.Cond) (a : Addr) (x : Addr) (cs : Int32) (h0 : Heap) (n0 : Nat) (Z0 : n0 ≤ h0.size) (E_a : Exa Z h0 a "java/lang/StringBuilder") (Fc_a : Fld Z h0 a "java/lang/AbstractStringBuilder" "coder" "B" (.int (0 : Int32))) (E_x : Exa Z h0 x "java/lang/String") (Fc_x : Fld Z h0 x "java/lang/String" "coder" "B" (.int (0 : Int32))) (sC : OCS Z (.int cs)) (hcs : ¬ (cs = (0 : Int32))) (O : Old Z n0 h0) :
  Met l Z M48 jdk_68_method_71_code 2 none ws (Rm 1 0 0 13) #[(.ref a), (.ref x)] h0 (Q_rm_iin0 Z a x cs h0 n0) := by
 refine met_of (plainFor_of_name pn_java_lang_AbstractStringBuilder) (own := "java/lang/AbstractStringBuilder") rfl (fun m => ef_rm_iin0 m a x) ?_
 intro p e s m below meth c s₁ hx hby hml hown hnm hZ X0 e0 hret hlk
 have N0 := Fr.nil n0
 show Goes p e below s _ _ _ (s₁.setTop (mkF m 0 #[sR a, sR x] []))
 obtain ⟨T1, X1, e1, st1⟩ := getS2 X0 hx hZ hown (host := "") (Or.inl (wq hw 56 rfl)) Via.refl e0 (sC.ext O.2) (g := (mkF m 0 #[sR a, sR x] [])) rfl (hb hby d48_0)
 refine Goes.pre (U' := T1.setTop (mkF m 3 #[sR a, sR x] [(.int cs)])) (fun t k => st1 t k) ?_
 have hc3 : ¬ (cs = (0 : Int32)) := hcs
 refine Goes.pre (U' := T1.setTop (mkF m 7 #[sR a, sR x] [(.ref a)])) (fun t k => XS.ifNo X1.here hx rfl (hb hby d48_3) rfl ((if0 _ _).trans (feq hc3).1) (XS.aloadN X1.here hx rfl (hb hby d48_6) rfl rfl k)) ?_
 obtain ⟨T2, X2, e2, st2⟩ := getF X1 hx hZ hown (host := "") (Or.inl (wq hw 59 rfl)) Via.refl e1 Fc_a (g := (mkF m 7 #[sR a, sR x] [(.ref a)])) rfl rfl (hb hby d48_7)
 refine Goes.pre (U' := T2.setTop (mkF m 11 #[sR a, sR x] [(.ref x), (.int (0 : Int32))])) (fun t k => st2 t (XS.aloadN X2.here hx rfl (hb hby d48_10) rfl rfl k)) ?_
 obtain ⟨cq3, kq3, q3a, q3b, q3c⟩ := isOf hZ e2 E_x
 obtain ⟨_, _, ⟨T3, L3, k3, n3⟩, -, X3, ⟨Lc3, hQ3, l3, y3, z3⟩, st3⟩ := X2.virtualBack hx (y := M7) (z := M7) hown (mvT hZ (wq hw 250 rfl)) (mvT hZ (wq hw 41 rfl)) (notFace_of_selects (args := #[]) (mvT hZ (wq hw 43 rfl))) (mvT hZ (wq hw 43 rfl)) (mvT hZ (wq hw 42 rfl)) (by decide) (backOf (W := 1) (rm_coder0 l Z a0 hw [] x cs h0 n0 Z0 sC Fc_x hcs O) hZ (wq hw 44 rfl) (wq hw 8 rfl) (by decide) (by decide)) q3a q3c (g := (mkF m 11 #[sR a, sR x] [(.ref x), (.int (0 : Int32))])) rfl (by rw [hml]; rfl) (Steps.refl _) (argsL := []) (rest := [(.int (0 : Int32))]) (lenOf pd__28_29B rfl) rfl (by show 2 * 0 + _ ≤ _; exact Nat.le_of_eq rfl) (hb hby d48_11) (fun _ _ => ⟨rfl, e2, (by decide : 0 + 0 ≤ _), (by decide : 0 + 0 ≤ _)⟩)
 dsimp only [Pt.U, Pt.locs, Pt.cells, Pt.slots] at X3 l3 y3 z3 st3 hQ3
 subst l3 y3 z3
 obtain ⟨rfl, N3q, HQ3⟩ := hQ3
 have N3 := Fr.app N0 N3q
 refine Goes.pre (U' := T3.setTop (mkF m 14 #[sR a, sR x] [(.int (0 : Int32)), (.int (0 : Int32))])) (fun t k => st3.trans k) ?_
 have hc14 : (0 : Int32) = (0 : Int32) := rfl
 refine Goes.pre (U' := T3.setTop (mkF m 21 #[sR a, sR x] [])) (fun t k => XS.icmpYes X3.here hx rfl (pc0 := 14) (pc' := 21) rfl (hb hby d48_14) rfl (teq hc14).1 (by decide) (by decide) k) ?_
 refine Goes.ret X3 (v := none) (fun _ => rfl) hlk (by decide) (by decide) HQ3 (fun fs hr => X3.returnOut hx hret (hb hby d48_21) hr) ?_
 exact ⟨rfl, N3, rfl⟩
theorem ef_rm_gb0 (m : MethodId) (x0 : Addr) (x1 : Addr) (x2 : Int32) (x3 : Int32) : entryFrame m #[(.ref x0), (.ref x1), (.int x2), (.int x3)] 4 = mkF m 0 #[sR x0, sR x1, sI x2, sI x3] [] := by first | (simp [entryFrame, mkF, argsToLocals, Value.category]; done) | rfl
abbrev M49 : MethodName := ⟨"java/lang/String", "getBytes", "([BIB)V"⟩
theorem d49_0 : decode B49 0 = .ok (.aload_n 0, 1) := by decide +kernel
theorem d49_1 : decode B49 1 = .ok (.invokevirtual 335, 3) := by decide +kernel
theorem d49_4 : decode B49 4 = .ok (.iload_n 3, 1) := by decide +kernel
theorem d49_5 : decode B49 5 = .ok (.if_icmp .ne 23, 3) := by decide +kernel
theorem d49_8 : decode B49 8 = .ok (.aload_n 0, 1) := by decide +kernel
theorem d49_9 : decode B49 9 = .ok (.getfield 9, 3) := by decide +kernel
theorem d49_12 : decode B49 12 = .ok (.iconst 0, 1) := by decide +kernel
theorem d49_13 : decode B49 13 = .ok (.aload_n 1, 1) := by decide +kernel
theorem d49_14 : decode B49 14 = .ok (.iload_n 2, 1) := by decide +kernel
theorem d49_15 : decode B49 15 = .ok (.iload_n 3, 1) := by decide +kernel
theorem d49_16 : decode B49 16 = .ok (.ishl, 1) := by decide +kernel
theorem d49_17 : decode B49 17 = .ok (.aload_n 0, 1) := by decide +kernel
theorem d49_18 : decode B49 18 = .ok (.getfield 9, 3) := by decide +kernel
theorem d49_21 : decode B49 21 = .ok (.arraylength, 1) := by decide +kernel
theorem d49_22 : decode B49 22 = .ok (.invokestatic 212, 3) := by decide +kernel
theorem d49_25 : decode B49 25 = .ok (.goto 18, 3) := by decide +kernel
theorem d49_43 : decode B49 43 = .ok (.return_, 1) := by decide +kernel
def Q_rm_gb0 (Z : State) (x : Addr) (xb : Addr) (kx_ : ClassId) (sl : List Int32) (b : Addr) (kb : ClassId) (cap : Nat) (cl : List Int32) (cs : Int32) (sf : Value) (h0 : Heap) (n0 : Nat) (v : Option Value) (h : Heap) (L : List Loc) : Prop := v = none ∧ Fr n0 L ∧ Keep h0 h [b] ∧ Arv Z h b kb .byte (Int32.ofNat cap) ((cl ++ sl).map fun c => .int c.toInt8.toInt32) (.int (0 : Int32))
set_option maxRecDepth 65536 in
set_option maxHeartbeats 40000000 in
theorem rm_gb0 (l : Launch) (Z : State) (a0 : Array Value) (hw : ∀ d ∈ tables_1, d.before a0 Z = true) (ws : List Jvm.Cond) (x : Addr) (xb : Addr) (kx_ : ClassId) (sl : List Int32) (b : Addr) (kb : ClassId) (cap : Nat) (cl : List Int32) (cs : Int32) (sf : Value) (h0 : Heap) (n0 : Nat) (Z0 : n0 ≤ h0.size) (E_x : Exa Z h0 x "java/lang/String") (Fc_x : Fld Z h0 x "java/lang/String" "coder" "B" (.int (0 : Int32))) (Fv_x : Fld Z h0 x "java/lang/String" "value" "[B" (.ref xb)) (V_xb : Arv Z h0 xb kx_ .byte (Int32.ofNat sl.length) (sl.map fun c => .int c.toInt8.toInt32) (.int (0 : Int32))) (V_b : Arv Z h0 b kb .byte (Int32.ofNat cap) (cl.map fun c => .int c.toInt8.toInt32) (.int (0 : Int32))) (sC : OCS Z (.int cs)) (sA : OAD Z (.int (1 : Int32))) (sH : OHI Z (.int (0 : Int32))) (sL : OLO Z (.int (8 : Int32))) (sF : OSF Z sf) (hc2 : cap ≤ 48) (hsz : cl.length + sl.length ≤ cap) (hsl : sl.length ≤ 8) (hcS : ∀ c ∈ sl, OwnCh c) (hleS : ∀ c ∈ sl, ¬ ((255 : Int32) < c)) (hcs : ¬ (cs = (0 : Int32))) (hsf : sf.isRef = true) (ne_xb_b : xb ≠ b) (ne_x_b : x ≠ b) (g_b : n0 ≤ b) (O : Old Z n0 h0) :
  Met l Z M49 jdk_42_method_147_code 4 none ws (Rm 1 0 0 18) #[(.ref x), (.ref b), (.int (Int32.ofNat cl.length)), (.int (0 : Int32))] h0 (Q_rm_gb0 Z x xb kx_ sl b kb cap cl cs sf h0 n0) := by
 refine met_of (plainFor_of_name pn_java_lang_String) (own := "java/lang/String") rfl (fun m => ef_rm_gb0 m x b (Int32.ofNat cl.length) (0 : Int32)) ?_
 intro p e s m below meth c s₁ hx hby hml hown hnm hZ X0 e0 hret hlk
 have N0 := Fr.nil n0
 have K0 := Keep.refl h0 [b]
 show Goes p e below s _ _ _ (s₁.setTop (mkF m 0 #[sR x, sR b, sI (Int32.ofNat cl.length), sI (0 : Int32)] []))
 refine Goes.pre (U' := s₁.setTop (mkF m 1 #[sR x, sR b, sI (Int32.ofNat cl.length), sI (0 : Int32)] [(.ref x)])) (fun t k => XS.aloadN X0.here hx rfl (hb hby d49_0) rfl rfl k) ?_
 obtain ⟨cq1, kq1, q1a, q1b, q1c⟩ := isOf hZ e0 E_x
 obtain ⟨_, _, ⟨T1, L1, k1, n1⟩, -, X1, ⟨Lc1, hQ1, l1, y1, z1⟩, st1⟩ := X0.virtualBack hx (y := M7) (z := M7) hown (mvT hZ (wq hw 40 rfl)) (mvT hZ (wq hw 41 rfl)) (notFace_of_selects (args := #[]) (mvT hZ (wq hw 43 rfl))) (mvT hZ (wq hw 43 rfl)) (mvT hZ (wq hw 42 rfl)) (by decide) (backOf (W := 0) (rm_coder0 l Z a0 hw [] x cs h0 n0 Z0 sC Fc_x hcs O) hZ (wq hw 44 rfl) (wq hw 8 rfl) (by decide) (by decide)) q1a q1c (g := (mkF m 1 #[sR x, sR b, sI (Int32.ofNat cl.length), sI (0 : Int32)] [(.ref x)])) rfl (by rw [hml]; rfl) (Steps.refl _) (argsL := []) (rest := []) (lenOf pd__28_29B rfl) rfl (by show 2 * 0 + _ ≤ _; exact Nat.le_of_eq rfl) (hb hby d49_1) (fun _ _ => ⟨rfl, e0, (by decide : 0 + 0 ≤ _), (by decide : 0 + 0 ≤ _)⟩)
 dsimp only [Pt.U, Pt.locs, Pt.cells, Pt.slots] at X1 l1 y1 z1 st1 hQ1
 subst l1 y1 z1
 obtain ⟨rfl, N1q, HQ1⟩ := hQ1
 have N1 := Fr.app N0 N1q
 refine Goes.pre (U' := T1.setTop (mkF m 5 #[sR x, sR b, sI (Int32.ofNat cl.length), sI (0 : Int32)] [(.int (0 : Int32)), (.int (0 : Int32))])) (fun t k => st1.trans (XS.iloadN X1.here hx rfl (hb hby d49_4) rfl k)) ?_
 have hc5 : (0 : Int32) = (0 : Int32) := rfl
 refine Goes.pre (U' := T1.setTop (mkF m 9 #[sR x, sR b, sI (Int32.ofNat cl.length), sI (0 : Int32)] [(.ref x)])) (fun t k => XS.icmpNo X1.here hx rfl (hb hby d49_5) rfl (teq hc5).2 (XS.aloadN X1.here hx rfl (hb hby d49_8) rfl rfl k)) ?_
 obtain ⟨T2, X2, e2, st2⟩ := getF X1 hx hZ hown (host := "") (Or.inl (wq hw 26 rfl)) Via.refl HQ1 Fv_x (g := (mkF m 9 #[sR x, sR b, sI (Int32.ofNat cl.length), sI (0 : Int32)] [(.ref x)])) rfl rfl (hb hby d49_9)
 refine Goes.pre (U' := T2.setTop (mkF m 18 #[sR x, sR b, sI (Int32.ofNat cl.length), sI (0 : Int32)] [(.ref x), (.int ((Int32.ofNat cl.length) <<< ((0 : Int32) &&& 31))), (.ref b), (.int (0 : Int32)), (.ref xb)])) (fun t k => st2 t (XS.iconst X2.here hx rfl (hb hby d49_12) (XS.aloadN X2.here hx rfl (hb hby d49_13) rfl rfl (XS.iloadN X2.here hx rfl (hb hby d49_14) rfl (XS.iloadN X2.here hx rfl (hb hby d49_15) rfl (XS.ishl X2.here hx rfl (hb hby d49_16) rfl (XS.aloadN X2.here hx rfl (hb hby d49_17) rfl rfl k))))))) ?_
 obtain ⟨T3, X3, e3, st3⟩ := getF X2 hx hZ hown (host := "") (Or.inl (wq hw 26 rfl)) Via.refl e2 Fv_x (g := (mkF m 18 #[sR x, sR b, sI (Int32.ofNat cl.length), sI (0 : Int32)] [(.ref x), (.int ((Int32.ofNat cl.length) <<< ((0 : Int32) &&& 31))), (.ref b), (.int (0 : Int32)), (.ref xb)])) rfl rfl (hb hby d49_18)
 refine Goes.pre (U' := T3.setTop (mkF m 21 #[sR x, sR b, sI (Int32.ofNat cl.length), sI (0 : Int32)] [(.ref xb), (.int ((Int32.ofNat cl.length) <<< ((0 : Int32) &&& 31))), (.ref b), (.int (0 : Int32)), (.ref xb)])) (fun t k => st3 t k) ?_
 obtain ⟨cl4, Ar4, q4, Sz4, Ng4, -, -⟩ := id V_xb
 have ln4 := len_of Sz4 Ng4
 refine Goes.pre (U' := T3.setTop (mkF m 22 #[sR x, sR b, sI (Int32.ofNat cl.length), sI (0 : Int32)] [(.int (Int32.ofNat sl.length)), (.int ((Int32.ofNat cl.length) <<< ((0 : Int32) &&& 31))), (.ref b), (.int (0 : Int32)), (.ref xb)])) (fun t k => X3.arraylength hx (by rw [e3]; exact Ar4.1) (State.isArrayOf_alike hZ.alike Ar4.2.1) (g := (mkF m 21 #[sR x, sR b, sI (Int32.ofNat cl.length), sI (0 : Int32)] [(.ref xb), (.int ((Int32.ofNat cl.length) <<< ((0 : Int32) &&& 31))), (.ref b), (.int (0 : Int32)), (.ref xb)])) rfl rfl (hb hby d49_21) _ (by rw [ln4]; exact k)) ?_
 rw [own_shl0 _ (by omega)]
 have hz0 : (0 : Int32).toNatClampNeg = 0 := by decide
 have hcs_ : (Int32.ofNat sl.length).toNatClampNeg = sl.length := own_ixn _ (by omega)
 have hcd : (Int32.ofNat cl.length).toNatClampNeg = cl.length := own_ixn _ (by omega)
 have hcc : (Int32.ofNat cap).toNatClampNeg = cap := own_ixn _ (by omega)
 have V_b := Arv.pad V_b (pad_rep (cl.map fun c => .int c.toInt8.toInt32) (.int (0 : Int32)) (cap - (cl.length)))
 obtain ⟨T5, h5, L5, X5, e5, N5, K5c, V5, st5⟩ := cpA X3 hx hZ hown (wq hw 256 rfl) (wq hw 239 rfl) (wq hw 237 rfl) (wq hw 238 rfl) e3 V_xb V_b (us := (sl.map fun c => .int c.toInt8.toInt32)) (Or.inl ⟨rfl, rfl⟩) (by decide) (own_neg _ (by omega)) (own_neg _ (by omega)) (by rw [hz0, hcs_]; omega) (by rw [hcd, hcs_, hcc]; omega) (by rw [hz0, hcs_]; simp only [Nat.zero_add]; exact (own_rng2 _ _ _ (by rw [List.length_map])).symm) (by rw [hcd, hcs_, List.length_append, List.length_map, List.length_replicate]; omega) N1 g_b (g := (mkF m 22 #[sR x, sR b, sI (Int32.ofNat cl.length), sI (0 : Int32)] [(.int (Int32.ofNat sl.length)), (.int (Int32.ofNat cl.length)), (.ref b), (.int (0 : Int32)), (.ref xb)])) rfl (by rw [hml]; rfl) rfl (hb hby d49_22) (by decide) (W := 0) (by show 2 * 0 + _ ≤ _; exact Nat.le_of_eq rfl) (by decide)
 have E_x := E_x.keep K5c
 have Fc_x := Fc_x.keep K5c (ninS ne_x_b nin0)
 have Fv_x := Fv_x.keep K5c (ninS ne_x_b nin0)
 have V_xb := V_xb.keep K5c (ninS ne_xb_b nin0)
 have Z6 : n0 ≤ h5.size := Nat.le_trans Z0 K5c.1
 have O := O.keep K5c (allS (P := fun x => n0 ≤ x) g_b all0)
 have K6 := K0.trans K5c (allS (P := fun x => x ∈ [b] ∨ h0.size ≤ x) (Or.inl (List.mem_of_getElem? (i := 0) rfl)) all0)
 have V_b : Arv Z h5 b kb .byte (Int32.ofNat cap) ((cl ++ sl).map fun c => .int c.toInt8.toInt32) (.int (0 : Int32)) := by
  have q := V5
  rw [hcd, hcs_] at q
  rw [List.map_append]
  exact Arv.pad q (own_cpl _ _ _ _ _ _ (by rw [List.length_map]) (by rw [List.length_map]))
 refine Goes.pre (U' := T5.setTop (mkF m 43 #[sR x, sR b, sI (Int32.ofNat cl.length), sI (0 : Int32)] [])) (fun t k => st5 t (XS.goto X5.here hx rfl (pc0 := 25) (pc' := 43) rfl (hb hby d49_25) (by decide) (by decide) k)) ?_
 refine Goes.ret X5 (v := none) (fun _ => rfl) hlk (by decide) (by decide) e5 (fun fs hr => X5.returnOut hx hret (hb hby d49_43) hr) ?_
 exact ⟨rfl, N5, K6, V_b⟩
theorem ef_rm_psa0 (m : MethodId) (x0 : Addr) (x1 : Int32) (x2 : Addr) : entryFrame m #[(.ref x0), (.int x1), (.ref x2)] 3 = mkF m 0 #[sR x0, sI x1, sR x2] [] := by first | (simp [entryFrame, mkF, argsToLocals, Value.category]; done) | rfl
abbrev M47 : MethodName := ⟨"java/lang/AbstractStringBuilder", "putStringAt", "(ILjava/lang/String;)V"⟩
theorem d47_0 : decode B47 0 = .ok (.aload_n 0, 1) := by decide +kernel
theorem d47_1 : decode B47 1 = .ok (.aload_n 2, 1) := by decide +kernel
theorem d47_2 : decode B47 2 = .ok (.invokevirtual 397, 3) := by decide +kernel
theorem pd__28Ljava_2flang_2fString_3b_29V : parseMethodDescriptor "(Ljava/lang/String;)V" = some ⟨[(.object "java/lang/String")], none⟩ := by decide +kernel
theorem d47_5 : decode B47 5 = .ok (.aload_n 2, 1) := by decide +kernel
theorem d47_6 : decode B47 6 = .ok (.aload_n 0, 1) := by decide +kernel
theorem d47_7 : decode B47 7 = .ok (.getfield 15, 3) := by decide +kernel
theorem d47_10 : decode B47 10 = .ok (.iload_n 1, 1) := by decide +kernel
theorem d47_11 : decode B47 11 = .ok (.aload_n 0, 1) := by decide +kernel
theorem d47_12 : decode B47 12 = .ok (.getfield 22, 3) := by decide +kernel
theorem d47_15 : decode B47 15 = .ok (.invokevirtual 399, 3) := by decide +kernel
theorem pd__28_5bBIB_29V : parseMethodDescriptor "([BIB)V" = some ⟨[(.array .byte), .int, .byte], none⟩ := by decide +kernel
theorem d47_18 : decode B47 18 = .ok (.return_, 1) := by decide +kernel
def Q_rm_psa0 (Z : State) (a : Addr) (x : Addr) (xb : Addr) (kx_ : ClassId) (sl : List Int32) (b : Addr) (kb : ClassId) (cap : Nat) (cl : List Int32) (cs : Int32) (sf : Value) (h0 : Heap) (n0 : Nat) (v : Option Value) (h : Heap) (L : List Loc) : Prop := v = none ∧ Fr n0 L ∧ Keep h0 h [b] ∧ Arv Z h b kb .byte (Int32.ofNat cap) ((cl ++ sl).map fun c => .int c.toInt8.toInt32) (.int (0 : Int32))
set_option maxRecDepth 65536 in
set_option maxHeartbeats 40000000 in
theorem rm_psa0 (l : Launch) (Z : State) (a0 : Array Value) (hw : ∀ d ∈ tables_1, d.before a0 Z = true) (ws : List Jvm.Cond) (a : Addr) (x : Addr) (xb : Addr) (kx_ : ClassId) (sl : List Int32) (b : Addr) (kb : ClassId) (cap : Nat) (cl : List Int32) (cs : Int32) (sf : Value) (h0 : Heap) (n0 : Nat) (Z0 : n0 ≤ h0.size) (E_a : Exa Z h0 a "java/lang/StringBuilder") (Fv_a : Fld Z h0 a "java/lang/AbstractStringBuilder" "value" "[B" (.ref b)) (Fc_a : Fld Z h0 a "java/lang/AbstractStringBuilder" "coder" "B" (.int (0 : Int32))) (E_x : Exa Z h0 x "java/lang/String") (Fc_x : Fld Z h0 x "java/lang/String" "coder" "B" (.int (0 : Int32))) (Fv_x : Fld Z h0 x "java/lang/String" "value" "[B" (.ref xb)) (V_xb : Arv Z h0 xb kx_ .byte (Int32.ofNat sl.length) (sl.map fun c => .int c.toInt8.toInt32) (.int (0 : Int32))) (V_b : Arv Z h0 b kb .byte (Int32.ofNat cap) (cl.map fun c => .int c.toInt8.toInt32) (.int (0 : Int32))) (sC : OCS Z (.int cs)) (sA : OAD Z (.int (1 : Int32))) (sH : OHI Z (.int (0 : Int32))) (sL : OLO Z (.int (8 : Int32))) (sF : OSF Z sf) (hc2 : cap ≤ 48) (hsz : cl.length + sl.length ≤ cap) (hsl : sl.length ≤ 8) (hcS : ∀ c ∈ sl, OwnCh c) (hleS : ∀ c ∈ sl, ¬ ((255 : Int32) < c)) (hcs : ¬ (cs = (0 : Int32))) (hsf : sf.isRef = true) (ne_xb_b : xb ≠ b) (ne_x_b : x ≠ b) (ne_a_b : a ≠ b) (g_b : n0 ≤ b) (O : Old Z n0 h0) :
  Met l Z M47 jdk_68_method_73_code 3 none ws (Rm 2 0 0 33) #[(.ref a), (.int (Int32.ofNat cl.length)), (.ref x)] h0 (Q_rm_psa0 Z a x xb kx_ sl b kb cap cl cs sf h0 n0) := by
 refine met_of (plainFor_of_name pn_java_lang_AbstractStringBuilder) (own := "java/lang/AbstractStringBuilder") rfl (fun m => ef_rm_psa0 m a (Int32.ofNat cl.length) x) ?_
 intro p e s m below meth c s₁ hx hby hml hown hnm hZ X0 e0 hret hlk
 have N0 := Fr.nil n0
 have K0 := Keep.refl h0 [b]
 show Goes p e below s _ _ _ (s₁.setTop (mkF m 0 #[sR a, sI (Int32.ofNat cl.length), sR x] []))
 refine Goes.pre (U' := s₁.setTop (mkF m 2 #[sR a, sI (Int32.ofNat cl.length), sR x] [(.ref x), (.ref a)])) (fun t k => XS.aloadN X0.here hx rfl (hb hby d47_0) rfl rfl (XS.aloadN X0.here hx rfl (hb hby d47_1) rfl rfl k)) ?_
 obtain ⟨cq1, q1, q1'⟩ := E_a.cell
 obtain ⟨_, _, ⟨T1, L1, k1, n1⟩, -, X1, ⟨Lc1, hQ1, l1, y1, z1⟩, st1⟩ := X0.privateBack hx (y := M48) hown (mvT hZ (wq hw 245 rfl)) (mvT hZ (wq hw 246 rfl)) (mvT hZ (own_selfp (wq hw 248 rfl) (wq hw 246 rfl) (wq hw 247 rfl) (by decide) (by decide))) (Cond.privateMethod_at (mvP hZ (wq hw 247 rfl) (args := #[]))) (mvT hZ (wq hw 249 rfl)) (by decide) (backOf (W := 0) (rm_iin0 l Z a0 hw [] a x cs h0 n0 Z0 E_a Fc_a E_x Fc_x sC hcs O) hZ (wq hw 249 rfl) (wq hw 53 rfl) (by decide) (by decide)) (g := (mkF m 2 #[sR a, sI (Int32.ofNat cl.length), sR x] [(.ref x), (.ref a)])) rfl (by rw [hml]; rfl) (Steps.refl _) (a := a) (by rw [e0]; exact q1) q1' (argsL := [(.ref x)]) (rest := []) (lenOf pd__28Ljava_2flang_2fString_3b_29V rfl) rfl (by show 2 * 0 + _ ≤ _; exact Nat.le_of_eq rfl) (hb hby d47_2) (fun _ _ => ⟨rfl, e0, (by decide : 0 + 0 ≤ _), (by decide : 0 + 0 ≤ _)⟩)
 dsimp only [Pt.U, Pt.locs, Pt.cells, Pt.slots] at X1 l1 y1 z1 st1 hQ1
 subst l1 y1 z1
 obtain ⟨rfl, N1q, HQ1⟩ := hQ1
 have N1 := Fr.app N0 N1q
 refine Goes.pre (U' := T1.setTop (mkF m 7 #[sR a, sI (Int32.ofNat cl.length), sR x] [(.ref a), (.ref x)])) (fun t k => st1.trans (XS.aloadN X1.here hx rfl (hb hby d47_5) rfl rfl (XS.aloadN X1.here hx rfl (hb hby d47_6) rfl rfl k))) ?_
 obtain ⟨T2, X2, e2, st2⟩ := getF X1 hx hZ hown (host := "") (Or.inl (wq hw 57 rfl)) Via.refl HQ1 Fv_a (g := (mkF m 7 #[sR a, sI (Int32.ofNat cl.length), sR x] [(.ref a), (.ref x)])) rfl rfl (hb hby d47_7)
 refine Goes.pre (U' := T2.setTop (mkF m 12 #[sR a, sI (Int32.ofNat cl.length), sR x] [(.ref a), (.int (Int32.ofNat cl.length)), (.ref b), (.ref x)])) (fun t k => st2 t (XS.iloadN X2.here hx rfl (hb hby d47_10) rfl (XS.aloadN X2.here hx rfl (hb hby d47_11) rfl rfl k))) ?_
 obtain ⟨T3, X3, e3, st3⟩ := getF X2 hx hZ hown (host := "") (Or.inl (wq hw 59 rfl)) Via.refl e2 Fc_a (g := (mkF m 12 #[sR a, sI (Int32.ofNat cl.length), sR x] [(.ref a), (.int (Int32.ofNat cl.length)), (.ref b), (.ref x)])) rfl rfl (hb hby d47_12)
 refine Goes.pre (U' := T3.setTop (mkF m 15 #[sR a, sI (Int32.ofNat cl.length), sR x] [(.int (0 : Int32)), (.int (Int32.ofNat cl.length)), (.ref b), (.ref x)])) (fun t k => st3 t k) ?_
 obtain ⟨cq4, kq4, q4a, q4b, q4c⟩ := isOf hZ e3 E_x
 obtain ⟨_, _, ⟨T4, L4, k4, n4⟩, -, X4, ⟨Lc4, hQ4, l4, y4, z4⟩, st4⟩ := X3.virtualBack hx (y := M49) (z := M49) hown (mvT hZ (wq hw 251 rfl)) (mvT hZ (wq hw 252 rfl)) (notFace_of_selects (args := #[]) (mvT hZ (wq hw 254 rfl))) (mvT hZ (wq hw 254 rfl)) (mvT hZ (wq hw 253 rfl)) (by decide) (backOf (W := 0) (rm_gb0 l Z a0 hw [] x xb kx_ sl b kb cap cl cs sf h0 n0 Z0 E_x Fc_x Fv_x V_xb V_b sC sA sH sL sF hc2 hsz hsl hcS hleS hcs hsf ne_xb_b ne_x_b g_b O) hZ (wq hw 255 rfl) (wq hw 8 rfl) (by decide) (by decide)) q4a q4c (g := (mkF m 15 #[sR a, sI (Int32.ofNat cl.length), sR x] [(.int (0 : Int32)), (.int (Int32.ofNat cl.length)), (.ref b), (.ref x)])) rfl (by rw [hml]; rfl) (Steps.refl _) (argsL := [(.ref b), (.int (Int32.ofNat cl.length)), (.int (0 : Int32))]) (rest := []) (lenOf pd__28_5bBIB_29V rfl) rfl (by show 2 * 0 + _ ≤ _; exact Nat.le_of_eq rfl) (hb hby d47_15) (fun _ _ => ⟨rfl, e3, (by decide : 0 + 0 ≤ _), (by decide : 0 + 0 ≤ _)⟩)
 dsimp only [Pt.U, Pt.locs, Pt.cells, Pt.slots] at X4 l4 y4 z4 st4 hQ4
 subst l4 y4 z4
 obtain ⟨rfl, N4q, KQ4, fo0_4⟩ := hQ4
 have N4 := Fr.app N1 N4q
 have E_a := E_a.keep KQ4
 have Fv_a := Fv_a.keep KQ4 (ninS ne_a_b nin0)
 have Fc_a := Fc_a.keep KQ4 (ninS ne_a_b nin0)
 have E_x := E_x.keep KQ4
 have Fc_x := Fc_x.keep KQ4 (ninS ne_x_b nin0)
 have Fv_x := Fv_x.keep KQ4 (ninS ne_x_b nin0)
 have V_xb := V_xb.keep KQ4 (ninS ne_xb_b nin0)
 have Z5 : n0 ≤ T4.heap.size := Nat.le_trans Z0 KQ4.1
 have O := O.keep KQ4 (allS (P := fun x => n0 ≤ x) g_b all0)
 have K5 := K0.trans KQ4 (allS (P := fun x => x ∈ [b] ∨ h0.size ≤ x) (Or.inl (List.mem_of_getElem? (i := 0) rfl)) all0)
 have V_b := fo0_4
 refine Goes.pre (U' := T4.setTop (mkF m 18 #[sR a, sI (Int32.ofNat cl.length), sR x] [])) (fun t k => st4.trans k) ?_
 refine Goes.ret X4 (v := none) (fun _ => rfl) hlk (by decide) (by decide) rfl (fun fs hr => X4.returnOut hx hret (hb hby d47_18) hr) ?_
 exact ⟨rfl, N4, K5, V_b⟩
theorem ef_rm_iin1 (m : MethodId) (x0 : Addr) (x1 : Addr) : entryFrame m #[(.ref x0), (.ref x1)] 2 = mkF m 0 #[sR x0, sR x1] [] := by first | (simp [entryFrame, mkF, argsToLocals, Value.category]; done) | rfl
theorem d48_17 : decode B48 17 = .ok (.aload_n 0, 1) := by decide +kernel
theorem d48_18 : decode B48 18 = .ok (.invokevirtual 195, 3) := by decide +kernel
def Q_rm_iin1 (Z : State) (a : Addr) (x : Addr) (cs : Int32) (h0 : Heap) (n0 : Nat) (v : Option Value) (h : Heap) (L : List Loc) : Prop := v = none ∧ Fr n0 L ∧ h = h0
set_option maxRecDepth 65536 in
set_option maxHeartbeats 40000000 in
theorem rm_iin1 (l : Launch) (Z : State) (a0 : Array Value) (hw : ∀ d ∈ tables_1, d.before a0 Z = true) (ws : List Jvm.Cond) (a : Addr) (x : Addr) (cs : Int32) (h0 : Heap) (n0 : Nat) (Z0 : n0 ≤ h0.size) (E_a : Exa Z h0 a "java/lang/StringBuilder") (Fc_a : Fld Z h0 a "java/lang/AbstractStringBuilder" "coder" "B" (.int (1 : Int32))) (E_x : Exa Z h0 x "java/lang/String") (Fc_x : Fld Z h0 x "java/lang/String" "coder" "B" (.int (0 : Int32))) (sC : OCS Z (.int cs)) (hcs : ¬ (cs = (0 : Int32))) (O : Old Z n0 h0) :
  Met l Z M48 jdk_68_method_71_code 2 none ws (Rm 2 0 0 25) #[(.ref a), (.ref x)] h0 (Q_rm_iin1 Z a x cs h0 n0) := by
 refine met_of (plainFor_of_name pn_java_lang_AbstractStringBuilder) (own := "java/lang/AbstractStringBuilder") rfl (fun m => ef_rm_iin1 m a x) ?_
 intro p e s m below meth c s₁ hx hby hml hown hnm hZ X0 e0 hret hlk
 have N0 := Fr.nil n0
 show Goes p e below s _ _ _ (s₁.setTop (mkF m 0 #[sR a, sR x] []))
 obtain ⟨T1, X1, e1, st1⟩ := getS2 X0 hx hZ hown (host := "") (Or.inl (wq hw 56 rfl)) Via.refl e0 (sC.ext O.2) (g := (mkF m 0 #[sR a, sR x] [])) rfl (hb hby d48_0)
 refine Goes.pre (U' := T1.setTop (mkF m 3 #[sR a, sR x] [(.int cs)])) (fun t k => st1 t k) ?_
 have hc3 : ¬ (cs = (0 : Int32)) := hcs
 refine Goes.pre (U' := T1.setTop (mkF m 7 #[sR a, sR x] [(.ref a)])) (fun t k => XS.ifNo X1.here hx rfl (hb hby d48_3) rfl ((if0 _ _).trans (feq hc3).1) (XS.aloadN X1.here hx rfl (hb hby d48_6) rfl rfl k)) ?_
 obtain ⟨T2, X2, e2, st2⟩ := getF X1 hx hZ hown (host := "") (Or.inl (wq hw 59 rfl)) Via.refl e1 Fc_a (g := (mkF m 7 #[sR a, sR x] [(.ref a)])) rfl rfl (hb hby d48_7)
 refine Goes.pre (U' := T2.setTop (mkF m 11 #[sR a, sR x] [(.ref x), (.int (1 : Int32))])) (fun t k => st2 t (XS.aloadN X2.here hx rfl (hb hby d48_10) rfl rfl k)) ?_
 obtain ⟨cq3, kq3, q3a, q3b, q3c⟩ := isOf hZ e2 E_x
 obtain ⟨_, _, ⟨T3, L3, k3, n3⟩, -, X3, ⟨Lc3, hQ3, l3, y3, z3⟩, st3⟩ := X2.virtualBack hx (y := M7) (z := M7) hown (mvT hZ (wq hw 250 rfl)) (mvT hZ (wq hw 41 rfl)) (notFace_of_selects (args := #[]) (mvT hZ (wq hw 43 rfl))) (mvT hZ (wq hw 43 rfl)) (mvT hZ (wq hw 42 rfl)) (by decide) (backOf (W := 1) (rm_coder0 l Z a0 hw [] x cs h0 n0 Z0 sC Fc_x hcs O) hZ (wq hw 44 rfl) (wq hw 8 rfl) (by decide) (by decide)) q3a q3c (g := (mkF m 11 #[sR a, sR x] [(.ref x), (.int (1 : Int32))])) rfl (by rw [hml]; rfl) (Steps.refl _) (argsL := []) (rest := [(.int (1 : Int32))]) (lenOf pd__28_29B rfl) rfl (by show 2 * 0 + _ ≤ _; exact Nat.le_of_eq rfl) (hb hby d48_11) (fun _ _ => ⟨rfl, e2, (by decide : 0 + 0 ≤ _), (by decide : 0 + 0 ≤ _)⟩)
 dsimp only [Pt.U, Pt.locs, Pt.cells, Pt.slots] at X3 l3 y3 z3 st3 hQ3
 subst l3 y3 z3
 obtain ⟨rfl, N3q, HQ3⟩ := hQ3
 have N3 := Fr.app N0 N3q
 refine Goes.pre (U' := T3.setTop (mkF m 14 #[sR a, sR x] [(.int (0 : Int32)), (.int (1 : Int32))])) (fun t k => st3.trans k) ?_
 have hc14 : ¬ ((1 : Int32) = (0 : Int32)) := by decide
 refine Goes.pre (U' := T3.setTop (mkF m 18 #[sR a, sR x] [(.ref a)])) (fun t k => XS.icmpNo X3.here hx rfl (hb hby d48_14) rfl (feq hc14).1 (XS.aloadN X3.here hx rfl (hb hby d48_17) rfl rfl k)) ?_
 obtain ⟨cq4, q4, q4'⟩ := E_a.cell
 obtain ⟨_, _, ⟨T4, L4, k4, n4⟩, -, X4, ⟨Lc4, hQ4, l4, y4, z4⟩, st4⟩ := X3.privateBack hx (y := M59) hown (mvT hZ (wq hw 290 rfl)) (mvT hZ (wq hw 291 rfl)) (mvT hZ (own_selfp (wq hw 293 rfl) (wq hw 291 rfl) (wq hw 292 rfl) (by decide) (by decide))) (Cond.privateMethod_at (mvP hZ (wq hw 292 rfl) (args := #[]))) (mvT hZ (wq hw 294 rfl)) (by decide) (backOf (W := 0) (rm_inf1 l Z a0 hw [] a cs h0 n0 Z0 E_a Fc_a sC hcs O) hZ (wq hw 294 rfl) (wq hw 53 rfl) (by decide) (by decide)) (g := (mkF m 18 #[sR a, sR x] [(.ref a)])) rfl (by rw [hml]; rfl) (Steps.refl _) (a := a) (by rw [HQ3]; exact q4) q4' (argsL := []) (rest := []) (lenOf pd__28_29V rfl) rfl (by show 2 * 0 + _ ≤ _; exact Nat.le_of_eq rfl) (hb hby d48_18) (fun _ _ => ⟨rfl, HQ3, (by decide : 0 + 0 ≤ _), (by decide : 0 + 0 ≤ _)⟩)
 dsimp only [Pt.U, Pt.locs, Pt.cells, Pt.slots] at X4 l4 y4 z4 st4 hQ4
 subst l4 y4 z4
 obtain ⟨rfl, N4q, HQ4⟩ := hQ4
 have N4 := Fr.app N3 N4q
 refine Goes.pre (U' := T4.setTop (mkF m 21 #[sR a, sR x] [])) (fun t k => st4.trans k) ?_
 refine Goes.ret X4 (v := none) (fun _ => rfl) hlk (by decide) (by decide) HQ4 (fun fs hr => X4.returnOut hx hret (hb hby d48_21) hr) ?_
 exact ⟨rfl, N4, rfl⟩
theorem ef_rm_gb1 (m : MethodId) (x0 : Addr) (x1 : Addr) (x2 : Int32) (x3 : Int32) : entryFrame m #[(.ref x0), (.ref x1), (.int x2), (.int x3)] 4 = mkF m 0 #[sR x0, sR x1, sI x2, sI x3] [] := by first | (simp [entryFrame, mkF, argsToLocals, Value.category]; done) | rfl
theorem d49_28 : decode B49 28 = .ok (.aload_n 0, 1) := by decide +kernel
theorem d49_29 : decode B49 29 = .ok (.getfield 9, 3) := by decide +kernel
theorem d49_32 : decode B49 32 = .ok (.iconst 0, 1) := by decide +kernel
theorem d49_33 : decode B49 33 = .ok (.aload_n 1, 1) := by decide +kernel
theorem d49_34 : decode B49 34 = .ok (.iload_n 2, 1) := by decide +kernel
theorem d49_35 : decode B49 35 = .ok (.aload_n 0, 1) := by decide +kernel
theorem d49_36 : decode B49 36 = .ok (.getfield 9, 3) := by decide +kernel
theorem d49_39 : decode B49 39 = .ok (.arraylength, 1) := by decide +kernel
theorem d49_40 : decode B49 40 = .ok (.invokestatic 106, 3) := by decide +kernel
def Q_rm_gb1 (Z : State) (x : Addr) (xb : Addr) (kx_ : ClassId) (sl : List Int32) (b : Addr) (kb : ClassId) (cap : Nat) (cl : List Int32) (cs : Int32) (sf : Value) (h0 : Heap) (n0 : Nat) (v : Option Value) (h : Heap) (L : List Loc) : Prop := v = none ∧ Fr n0 L ∧ Keep h0 h [b] ∧ Arv Z h b kb .byte (Int32.ofNat (2 * cap)) ((cl ++ sl).flatMap fun c => [.int (c >>> ((0 : Int32) &&& 31)).toInt8.toInt32, .int (c >>> ((8 : Int32) &&& 31)).toInt8.toInt32]) (.int (0 : Int32))
set_option maxRecDepth 65536 in
set_option maxHeartbeats 40000000 in
theorem rm_gb1 (l : Launch) (Z : State) (a0 : Array Value) (hw : ∀ d ∈ tables_1, d.before a0 Z = true) (ws : List Jvm.Cond) (x : Addr) (xb : Addr) (kx_ : ClassId) (sl : List Int32) (b : Addr) (kb : ClassId) (cap : Nat) (cl : List Int32) (cs : Int32) (sf : Value) (h0 : Heap) (n0 : Nat) (Z0 : n0 ≤ h0.size) (E_x : Exa Z h0 x "java/lang/String") (Fc_x : Fld Z h0 x "java/lang/String" "coder" "B" (.int (0 : Int32))) (Fv_x : Fld Z h0 x "java/lang/String" "value" "[B" (.ref xb)) (V_xb : Arv Z h0 xb kx_ .byte (Int32.ofNat sl.length) (sl.map fun c => .int c.toInt8.toInt32) (.int (0 : Int32))) (V_b : Arv Z h0 b kb .byte (Int32.ofNat (2 * cap)) (cl.flatMap fun c => [.int (c >>> ((0 : Int32) &&& 31)).toInt8.toInt32, .int (c >>> ((8 : Int32) &&& 31)).toInt8.toInt32]) (.int (0 : Int32))) (sC : OCS Z (.int cs)) (sA : OAD Z (.int (1 : Int32))) (sH : OHI Z (.int (0 : Int32))) (sL : OLO Z (.int (8 : Int32))) (sF : OSF Z sf) (hc2 : cap ≤ 48) (hsz : cl.length + sl.length ≤ cap) (hsl : sl.length ≤ 8) (hcS : ∀ c ∈ sl, OwnCh c) (hleS : ∀ c ∈ sl, ¬ ((255 : Int32) < c)) (hcs : ¬ (cs = (0 : Int32))) (hsf : sf.isRef = true) (ne_xb_b : xb ≠ b) (ne_x_b : x ≠ b) (g_b : n0 ≤ b) (O : Old Z n0 h0) :
  Met l Z M49 jdk_42_method_147_code 4 none ws (Rm 5 0 0 76) #[(.ref x), (.ref b), (.int (Int32.ofNat cl.length)), (.int (1 : Int32))] h0 (Q_rm_gb1 Z x xb kx_ sl b kb cap cl cs sf h0 n0) := by
 refine met_of (plainFor_of_name pn_java_lang_String) (own := "java/lang/String") rfl (fun m => ef_rm_gb1 m x b (Int32.ofNat cl.length) (1 : Int32)) ?_
 intro p e s m below meth c s₁ hx hby hml hown hnm hZ X0 e0 hret hlk
 have N0 := Fr.nil n0
 have K0 := Keep.refl h0 [b]
 show Goes p e below s _ _ _ (s₁.setTop (mkF m 0 #[sR x, sR b, sI (Int32.ofNat cl.length), sI (1 : Int32)] []))
 refine Goes.pre (U' := s₁.setTop (mkF m 1 #[sR x, sR b, sI (Int32.ofNat cl.length), sI (1 : Int32)] [(.ref x)])) (fun t k => XS.aloadN X0.here hx rfl (hb hby d49_0) rfl rfl k) ?_
 obtain ⟨cq1, kq1, q1a, q1b, q1c⟩ := isOf hZ e0 E_x
 obtain ⟨_, _, ⟨T1, L1, k1, n1⟩, -, X1, ⟨Lc1, hQ1, l1, y1, z1⟩, st1⟩ := X0.virtualBack hx (y := M7) (z := M7) hown (mvT hZ (wq hw 40 rfl)) (mvT hZ (wq hw 41 rfl)) (notFace_of_selects (args := #[]) (mvT hZ (wq hw 43 rfl))) (mvT hZ (wq hw 43 rfl)) (mvT hZ (wq hw 42 rfl)) (by decide) (backOf (W := 0) (rm_coder0 l Z a0 hw [] x cs h0 n0 Z0 sC Fc_x hcs O) hZ (wq hw 44 rfl) (wq hw 8 rfl) (by decide) (by decide)) q1a q1c (g := (mkF m 1 #[sR x, sR b, sI (Int32.ofNat cl.length), sI (1 : Int32)] [(.ref x)])) rfl (by rw [hml]; rfl) (Steps.refl _) (argsL := []) (rest := []) (lenOf pd__28_29B rfl) rfl (by show 2 * 0 + _ ≤ _; exact Nat.le_of_eq rfl) (hb hby d49_1) (fun _ _ => ⟨rfl, e0, (by decide : 0 + 0 ≤ _), (by decide : 0 + 0 ≤ _)⟩)
 dsimp only [Pt.U, Pt.locs, Pt.cells, Pt.slots] at X1 l1 y1 z1 st1 hQ1
 subst l1 y1 z1
 obtain ⟨rfl, N1q, HQ1⟩ := hQ1
 have N1 := Fr.app N0 N1q
 refine Goes.pre (U' := T1.setTop (mkF m 5 #[sR x, sR b, sI (Int32.ofNat cl.length), sI (1 : Int32)] [(.int (1 : Int32)), (.int (0 : Int32))])) (fun t k => st1.trans (XS.iloadN X1.here hx rfl (hb hby d49_4) rfl k)) ?_
 have hc5 : ¬ ((0 : Int32) = (1 : Int32)) := by decide
 refine Goes.pre (U' := T1.setTop (mkF m 29 #[sR x, sR b, sI (Int32.ofNat cl.length), sI (1 : Int32)] [(.ref x)])) (fun t k => XS.icmpYes X1.here hx rfl (pc0 := 5) (pc' := 28) rfl (hb hby d49_5) rfl (feq hc5).2 (by decide) (by decide) (XS.aloadN X1.here hx rfl (hb hby d49_28) rfl rfl k)) ?_
 obtain ⟨T2, X2, e2, st2⟩ := getF X1 hx hZ hown (host := "") (Or.inl (wq hw 26 rfl)) Via.refl HQ1 Fv_x (g := (mkF m 29 #[sR x, sR b, sI (Int32.ofNat cl.length), sI (1 : Int32)] [(.ref x)])) rfl rfl (hb hby d49_29)
 refine Goes.pre (U' := T2.setTop (mkF m 36 #[sR x, sR b, sI (Int32.ofNat cl.length), sI (1 : Int32)] [(.ref x), (.int (Int32.ofNat cl.length)), (.ref b), (.int (0 : Int32)), (.ref xb)])) (fun t k => st2 t (XS.iconst X2.here hx rfl (hb hby d49_32) (XS.aloadN X2.here hx rfl (hb hby d49_33) rfl rfl (XS.iloadN X2.here hx rfl (hb hby d49_34) rfl (XS.aloadN X2.here hx rfl (hb hby d49_35) rfl rfl k))))) ?_
 obtain ⟨T3, X3, e3, st3⟩ := getF X2 hx hZ hown (host := "") (Or.inl (wq hw 26 rfl)) Via.refl e2 Fv_x (g := (mkF m 36 #[sR x, sR b, sI (Int32.ofNat cl.length), sI (1 : Int32)] [(.ref x), (.int (Int32.ofNat cl.length)), (.ref b), (.int (0 : Int32)), (.ref xb)])) rfl rfl (hb hby d49_36)
 refine Goes.pre (U' := T3.setTop (mkF m 39 #[sR x, sR b, sI (Int32.ofNat cl.length), sI (1 : Int32)] [(.ref xb), (.int (Int32.ofNat cl.length)), (.ref b), (.int (0 : Int32)), (.ref xb)])) (fun t k => st3 t k) ?_
 obtain ⟨cl4, Ar4, q4, Sz4, Ng4, -, -⟩ := id V_xb
 have ln4 := len_of Sz4 Ng4
 refine Goes.pre (U' := T3.setTop (mkF m 40 #[sR x, sR b, sI (Int32.ofNat cl.length), sI (1 : Int32)] [(.int (Int32.ofNat sl.length)), (.int (Int32.ofNat cl.length)), (.ref b), (.int (0 : Int32)), (.ref xb)])) (fun t k => X3.arraylength hx (by rw [e3]; exact Ar4.1) (State.isArrayOf_alike hZ.alike Ar4.2.1) (g := (mkF m 39 #[sR x, sR b, sI (Int32.ofNat cl.length), sI (1 : Int32)] [(.ref xb), (.int (Int32.ofNat cl.length)), (.ref b), (.int (0 : Int32)), (.ref xb)])) rfl rfl (hb hby d49_39) _ (by rw [ln4]; exact k)) ?_
 obtain ⟨_, _, ⟨T5, L5, k5, n5⟩, -, X5, ⟨Lc5, hQ5, l5, y5, z5⟩, st5⟩ := Jvm.LawKit.callS X3 hx (y := M60) hown (mvT hZ (wq hw 322 rfl)) (mvT hZ (wq hw 297 rfl)) (mvT hZ (wq hw 85 rfl)) (mvT hZ (wq hw 298 rfl)) (by decide) (backOf (W := 0) (rm_linf l Z a0 hw [] xb kx_ sl.length sl b kb cap cl sf h0 n0 Z0 V_xb V_b sA sH sL sF (Nat.le_refl _) (by omega) hc2 hsz hcS hleS hsf ne_xb_b g_b O) hZ (wq hw 298 rfl) (wq hw 85 rfl) (by decide) (by decide)) (g := (mkF m 40 #[sR x, sR b, sI (Int32.ofNat cl.length), sI (1 : Int32)] [(.int (Int32.ofNat sl.length)), (.int (Int32.ofNat cl.length)), (.ref b), (.int (0 : Int32)), (.ref xb)])) rfl (by rw [hml]; rfl) (argsL := [(.ref xb), (.int (0 : Int32)), (.ref b), (.int (Int32.ofNat cl.length)), (.int (Int32.ofNat sl.length))]) (rest := []) (lenOf pd__28_5bBI_5bBII_29V rfl) rfl (by show 2 * 0 + _ ≤ _; exact Nat.le_of_eq rfl) (hb hby d49_40) (fun _ _ => ⟨rfl, e3, (by decide : 0 + 0 ≤ _), (by decide : 0 + 0 ≤ _)⟩)
 dsimp only [Pt.U, Pt.locs, Pt.cells, Pt.slots] at X5 l5 y5 z5 st5 hQ5
 subst l5 y5 z5
 obtain ⟨rfl, N5q, KQ5, fo0_5⟩ := hQ5
 have N5 := Fr.app N1 N5q
 have E_x := E_x.keep KQ5
 have Fc_x := Fc_x.keep KQ5 (ninS ne_x_b nin0)
 have Fv_x := Fv_x.keep KQ5 (ninS ne_x_b nin0)
 have V_xb := V_xb.keep KQ5 (ninS ne_xb_b nin0)
 have Z6 : n0 ≤ T5.heap.size := Nat.le_trans Z0 KQ5.1
 have O := O.keep KQ5 (allS (P := fun x => n0 ≤ x) g_b all0)
 have K6 := K0.trans KQ5 (allS (P := fun x => x ∈ [b] ∨ h0.size ≤ x) (Or.inl (List.mem_of_getElem? (i := 0) rfl)) all0)
 have V_b := fo0_5
 refine Goes.pre (U' := T5.setTop (mkF m 43 #[sR x, sR b, sI (Int32.ofNat cl.length), sI (1 : Int32)] [])) (fun t k => st5 t k) ?_
 refine Goes.ret X5 (v := none) (fun _ => rfl) hlk (by decide) (by decide) rfl (fun fs hr => X5.returnOut hx hret (hb hby d49_43) hr) ?_
 exact ⟨rfl, N5, K6, V_b⟩
theorem ef_rm_psa1 (m : MethodId) (x0 : Addr) (x1 : Int32) (x2 : Addr) : entryFrame m #[(.ref x0), (.int x1), (.ref x2)] 3 = mkF m 0 #[sR x0, sI x1, sR x2] [] := by first | (simp [entryFrame, mkF, argsToLocals, Value.category]; done) | rfl
def Q_rm_psa1 (Z : State) (a : Addr) (x : Addr) (xb : Addr) (kx_ : ClassId) (sl : List Int32) (b : Addr) (kb : ClassId) (cap : Nat) (cl : List Int32) (cs : Int32) (sf : Value) (h0 : Heap) (n0 : Nat) (v : Option Value) (h : Heap) (L : List Loc) : Prop := v = none ∧ Fr n0 L ∧ Keep h0 h [b] ∧ Arv Z h b kb .byte (Int32.ofNat (2 * cap)) ((cl ++ sl).flatMap fun c => [.int (c >>> ((0 : Int32) &&& 31)).toInt8.toInt32, .int (c >>> ((8 : Int32) &&& 31)).toInt8.toInt32]) (.int (0 : Int32))
set_option maxRecDepth 65536 in
set_option maxHeartbeats 40000000 in
theorem rm_psa1 (l : Launch) (Z : State) (a0 : Array Value) (hw : ∀ d ∈ tables_1, d.before a0 Z = true) (ws : List Jvm.Cond) (a : Addr) (x : Addr) (xb : Addr) (kx_ : ClassId) (sl : List Int32) (b : Addr) (kb : ClassId) (cap : Nat) (cl : List Int32) (cs : Int32) (sf : Value) (h0 : Heap) (n0 : Nat) (Z0 : n0 ≤ h0.size) (E_a : Exa Z h0 a "java/lang/StringBuilder") (Fv_a : Fld Z h0 a "java/lang/AbstractStringBuilder" "value" "[B" (.ref b)) (Fc_a : Fld Z h0 a "java/lang/AbstractStringBuilder" "coder" "B" (.int (1 : Int32))) (E_x : Exa Z h0 x "java/lang/String") (Fc_x : Fld Z h0 x "java/lang/String" "coder" "B" (.int (0 : Int32))) (Fv_x : Fld Z h0 x "java/lang/String" "value" "[B" (.ref xb)) (V_xb : Arv Z h0 xb kx_ .byte (Int32.ofNat sl.length) (sl.map fun c => .int c.toInt8.toInt32) (.int (0 : Int32))) (V_b : Arv Z h0 b kb .byte (Int32.ofNat (2 * cap)) (cl.flatMap fun c => [.int (c >>> ((0 : Int32) &&& 31)).toInt8.toInt32, .int (c >>> ((8 : Int32) &&& 31)).toInt8.toInt32]) (.int (0 : Int32))) (sC : OCS Z (.int cs)) (sA : OAD Z (.int (1 : Int32))) (sH : OHI Z (.int (0 : Int32))) (sL : OLO Z (.int (8 : Int32))) (sF : OSF Z sf) (hc2 : cap ≤ 48) (hsz : cl.length + sl.length ≤ cap) (hsl : sl.length ≤ 8) (hcS : ∀ c ∈ sl, OwnCh c) (hleS : ∀ c ∈ sl, ¬ ((255 : Int32) < c)) (hcs : ¬ (cs = (0 : Int32))) (hsf : sf.isRef = true) (ne_xb_b : xb ≠ b) (ne_x_b : x ≠ b) (ne_a_b : a ≠ b) (g_b : n0 ≤ b) (O : Old Z n0 h0) :
  Met l Z M47 jdk_68_method_73_code 3 none ws (Rm 6 0 0 91) #[(.ref a), (.int (Int32.ofNat cl.length)), (.ref x)] h0 (Q_rm_psa1 Z a x xb kx_ sl b kb cap cl cs sf h0 n0) := by
 refine met_of (plainFor_of_name pn_java_lang_AbstractStringBuilder) (own := "java/lang/AbstractStringBuilder") rfl (fun m => ef_rm_psa1 m a (Int32.ofNat cl.length) x) ?_
 intro p e s m below meth c s₁ hx hby hml hown hnm hZ X0 e0 hret hlk
 have N0 := Fr.nil n0
 have K0 := Keep.refl h0 [b]
 show Goes p e below s _ _ _ (s₁.setTop (mkF m 0 #[sR a, sI (Int32.ofNat cl.length), sR x] []))
 refine Goes.pre (U' := s₁.setTop (mkF m 2 #[sR a, sI (Int32.ofNat cl.length), sR x] [(.ref x), (.ref a)])) (fun t k => XS.aloadN X0.here hx rfl (hb hby d47_0) rfl rfl (XS.aloadN X0.here hx rfl (hb hby d47_1) rfl rfl k)) ?_
 obtain ⟨cq1, q1, q1'⟩ := E_a.cell
 obtain ⟨_, _, ⟨T1, L1, k1, n1⟩, -, X1, ⟨Lc1, hQ1, l1, y1, z1⟩, st1⟩ := X0.privateBack hx (y := M48) hown (mvT hZ (wq hw 245 rfl)) (mvT hZ (wq hw 246 rfl)) (mvT hZ (own_selfp (wq hw 248 rfl) (wq hw 246 rfl) (wq hw 247 rfl) (by decide) (by decide))) (Cond.privateMethod_at (mvP hZ (wq hw 247 rfl) (args := #[]))) (mvT hZ (wq hw 249 rfl)) (by decide) (backOf (W := 0) (rm_iin1 l Z a0 hw [] a x cs h0 n0 Z0 E_a Fc_a E_x Fc_x sC hcs O) hZ (wq hw 249 rfl) (wq hw 53 rfl) (by decide) (by decide)) (g := (mkF m 2 #[sR a, sI (Int32.ofNat cl.length), sR x] [(.ref x), (.ref a)])) rfl (by rw [hml]; rfl) (Steps.refl _) (a := a) (by rw [e0]; exact q1) q1' (argsL := [(.ref x)]) (rest := []) (lenOf pd__28Ljava_2flang_2fString_3b_29V rfl) rfl (by show 2 * 0 + _ ≤ _; exact Nat.le_of_eq rfl) (hb hby d47_2) (fun _ _ => ⟨rfl, e0, (by decide : 0 + 0 ≤ _), (by decide : 0 + 0 ≤ _)⟩)
 dsimp only [Pt.U, Pt.locs, Pt.cells, Pt.slots] at X1 l1 y1 z1 st1 hQ1
 subst l1 y1 z1
 obtain ⟨rfl, N1q, HQ1⟩ := hQ1
 have N1 := Fr.app N0 N1q
 refine Goes.pre (U' := T1.setTop (mkF m 7 #[sR a, sI (Int32.ofNat cl.length), sR x] [(.ref a), (.ref x)])) (fun t k => st1.trans (XS.aloadN X1.here hx rfl (hb hby d47_5) rfl rfl (XS.aloadN X1.here hx rfl (hb hby d47_6) rfl rfl k))) ?_
 obtain ⟨T2, X2, e2, st2⟩ := getF X1 hx hZ hown (host := "") (Or.inl (wq hw 57 rfl)) Via.refl HQ1 Fv_a (g := (mkF m 7 #[sR a, sI (Int32.ofNat cl.length), sR x] [(.ref a), (.ref x)])) rfl rfl (hb hby d47_7)
 refine Goes.pre (U' := T2.setTop (mkF m 12 #[sR a, sI (Int32.ofNat cl.length), sR x] [(.ref a), (.int (Int32.ofNat cl.length)), (.ref b), (.ref x)])) (fun t k => st2 t (XS.iloadN X2.here hx rfl (hb hby d47_10) rfl (XS.aloadN X2.here hx rfl (hb hby d47_11) rfl rfl k))) ?_
 obtain ⟨T3, X3, e3, st3⟩ := getF X2 hx hZ hown (host := "") (Or.inl (wq hw 59 rfl)) Via.refl e2 Fc_a (g := (mkF m 12 #[sR a, sI (Int32.ofNat cl.length), sR x] [(.ref a), (.int (Int32.ofNat cl.length)), (.ref b), (.ref x)])) rfl rfl (hb hby d47_12)
 refine Goes.pre (U' := T3.setTop (mkF m 15 #[sR a, sI (Int32.ofNat cl.length), sR x] [(.int (1 : Int32)), (.int (Int32.ofNat cl.length)), (.ref b), (.ref x)])) (fun t k => st3 t k) ?_
 obtain ⟨cq4, kq4, q4a, q4b, q4c⟩ := isOf hZ e3 E_x
 obtain ⟨_, _, ⟨T4, L4, k4, n4⟩, -, X4, ⟨Lc4, hQ4, l4, y4, z4⟩, st4⟩ := X3.virtualBack hx (y := M49) (z := M49) hown (mvT hZ (wq hw 251 rfl)) (mvT hZ (wq hw 252 rfl)) (notFace_of_selects (args := #[]) (mvT hZ (wq hw 254 rfl))) (mvT hZ (wq hw 254 rfl)) (mvT hZ (wq hw 253 rfl)) (by decide) (backOf (W := 0) (rm_gb1 l Z a0 hw [] x xb kx_ sl b kb cap cl cs sf h0 n0 Z0 E_x Fc_x Fv_x V_xb V_b sC sA sH sL sF hc2 hsz hsl hcS hleS hcs hsf ne_xb_b ne_x_b g_b O) hZ (wq hw 255 rfl) (wq hw 8 rfl) (by decide) (by decide)) q4a q4c (g := (mkF m 15 #[sR a, sI (Int32.ofNat cl.length), sR x] [(.int (1 : Int32)), (.int (Int32.ofNat cl.length)), (.ref b), (.ref x)])) rfl (by rw [hml]; rfl) (Steps.refl _) (argsL := [(.ref b), (.int (Int32.ofNat cl.length)), (.int (1 : Int32))]) (rest := []) (lenOf pd__28_5bBIB_29V rfl) rfl (by show 2 * 0 + _ ≤ _; exact Nat.le_of_eq rfl) (hb hby d47_15) (fun _ _ => ⟨rfl, e3, (by decide : 0 + 0 ≤ _), (by decide : 0 + 0 ≤ _)⟩)
 dsimp only [Pt.U, Pt.locs, Pt.cells, Pt.slots] at X4 l4 y4 z4 st4 hQ4
 subst l4 y4 z4
 obtain ⟨rfl, N4q, KQ4, fo0_4⟩ := hQ4
 have N4 := Fr.app N1 N4q
 have E_a := E_a.keep KQ4
 have Fv_a := Fv_a.keep KQ4 (ninS ne_a_b nin0)
 have Fc_a := Fc_a.keep KQ4 (ninS ne_a_b nin0)
 have E_x := E_x.keep KQ4
 have Fc_x := Fc_x.keep KQ4 (ninS ne_x_b nin0)
 have Fv_x := Fv_x.keep KQ4 (ninS ne_x_b nin0)
 have V_xb := V_xb.keep KQ4 (ninS ne_xb_b nin0)
 have Z5 : n0 ≤ T4.heap.size := Nat.le_trans Z0 KQ4.1
 have O := O.keep KQ4 (allS (P := fun x => n0 ≤ x) g_b all0)
 have K5 := K0.trans KQ4 (allS (P := fun x => x ∈ [b] ∨ h0.size ≤ x) (Or.inl (List.mem_of_getElem? (i := 0) rfl)) all0)
 have V_b := fo0_4
 refine Goes.pre (U' := T4.setTop (mkF m 18 #[sR a, sI (Int32.ofNat cl.length), sR x] [])) (fun t k => st4.trans k) ?_
 refine Goes.ret X4 (v := none) (fun _ => rfl) hlk (by decide) (by decide) rfl (fun fs hr => X4.returnOut hx hret (hb hby d47_18) hr) ?_
 exact ⟨rfl, N4, K5, V_b⟩
theorem own_appA {P : Int32 → Prop} {cl sl : List Int32} (h : ∀ c ∈ cl, P c) (q : ∀ c ∈ sl, P c) : ∀ c ∈ cl ++ sl, P c := fun c hc => (List.mem_append.mp hc).elim (h c) (q c)
theorem ef_rm_apS (m : MethodId) (x0 : Addr) (x1 : Addr) : entryFrame m #[(.ref x0), (.ref x1)] 3 = mkF m 0 #[sR x0, sR x1, .unset] [] := by first | (simp [entryFrame, mkF, argsToLocals, Value.category]; done) | rfl
abbrev M43 : MethodName := ⟨"java/lang/AbstractStringBuilder", "append", "(Ljava/lang/String;)Ljava/lang/AbstractStringBuilder;"⟩
theorem d43_0 : decode B43 0 = .ok (.aload_n 1, 1) := by decide +kernel
theorem d43_1 : decode B43 1 = .ok (.ifnonnull 8, 3) := by decide +kernel
theorem d43_9 : decode B43 9 = .ok (.aload_n 1, 1) := by decide +kernel
theorem d43_10 : decode B43 10 = .ok (.invokevirtual 32, 3) := by decide +kernel
theorem pd__28_29I : parseMethodDescriptor "()I" = some ⟨[], some .int⟩ := by decide +kernel
theorem d43_13 : decode B43 13 = .ok (.istore_n 2, 1) := by decide +kernel
theorem d43_14 : decode B43 14 = .ok (.aload_n 0, 1) := by decide +kernel
theorem d43_15 : decode B43 15 = .ok (.aload_n 0, 1) := by decide +kernel
theorem d43_16 : decode B43 16 = .ok (.getfield 79, 3) := by decide +kernel
theorem d43_19 : decode B43 19 = .ok (.iload_n 2, 1) := by decide +kernel
theorem d43_20 : decode B43 20 = .ok (.iadd, 1) := by decide +kernel
theorem d43_21 : decode B43 21 = .ok (.invokevirtual 100, 3) := by decide +kernel
theorem d43_24 : decode B43 24 = .ok (.aload_n 0, 1) := by decide +kernel
theorem d43_25 : decode B43 25 = .ok (.aload_n 0, 1) := by decide +kernel
theorem d43_26 : decode B43 26 = .ok (.getfield 79, 3) := by decide +kernel
theorem d43_29 : decode B43 29 = .ok (.aload_n 1, 1) := by decide +kernel
theorem d43_30 : decode B43 30 = .ok (.invokevirtual 208, 3) := by decide +kernel
theorem pd__28ILjava_2flang_2fString_3b_29V : parseMethodDescriptor "(ILjava/lang/String;)V" = some ⟨[.int, (.object "java/lang/String")], none⟩ := by decide +kernel
theorem d43_33 : decode B43 33 = .ok (.aload_n 0, 1) := by decide +kernel
theorem d43_34 : decode B43 34 = .ok (.dup, 1) := by decide +kernel
theorem d43_35 : decode B43 35 = .ok (.getfield 79, 3) := by decide +kernel
theorem d43_38 : decode B43 38 = .ok (.iload_n 2, 1) := by decide +kernel
theorem d43_39 : decode B43 39 = .ok (.iadd, 1) := by decide +kernel
theorem d43_40 : decode B43 40 = .ok (.putfield 79, 3) := by decide +kernel
theorem d43_43 : decode B43 43 = .ok (.aload_n 0, 1) := by decide +kernel
theorem d43_44 : decode B43 44 = .ok (.areturn, 1) := by decide +kernel
def Q_rm_apS (Z : State) (a : Addr) (b : Addr) (kb : ClassId) (cl : List Int32) (x : Addr) (xb : Addr) (kx_ : ClassId) (sl : List Int32) (cs : Int32) (sf : Value) (h0 : Heap) (n0 : Nat) (v : Option Value) (h : Heap) (L : List Loc) : Prop := ∃ (by_ : Addr) (ky : ClassId), v = some (.ref a) ∧ Fr n0 L ∧ Keep h0 h [a, b] ∧ OwnSB Z h a by_ ky (cl ++ sl) ∧ n0 ≤ by_ ∧ (by_ = b ∨ h0.size ≤ by_)
set_option maxRecDepth 65536 in
set_option maxHeartbeats 40000000 in
theorem rm_apS (l : Launch) (Z : State) (a0 : Array Value) (hw : ∀ d ∈ tables_1, d.before a0 Z = true) (ws : List Jvm.Cond) (a : Addr) (b : Addr) (kb : ClassId) (cl : List Int32) (x : Addr) (xb : Addr) (kx_ : ClassId) (sl : List Int32) (cs : Int32) (sf : Value) (h0 : Heap) (n0 : Nat) (Z0 : n0 ≤ h0.size) (S_a : OwnSB Z h0 a b kb cl) (S_x : OwnStr Z h0 x xb kx_ sl) (sC : OCS Z (.int cs)) (sA : OAD Z (.int (1 : Int32))) (sH : OHI Z (.int (0 : Int32))) (sL : OLO Z (.int (8 : Int32))) (sF : OSF Z sf) (E_x : Exa Z h0 x "java/lang/String") (Fc_x : Fld Z h0 x "java/lang/String" "coder" "B" (.int (0 : Int32))) (Fv_x : Fld Z h0 x "java/lang/String" "value" "[B" (.ref xb)) (V_xb : Arv Z h0 xb kx_ .byte (Int32.ofNat sl.length) (sl.map fun c => .int c.toInt8.toInt32) (.int (0 : Int32))) (hl18 : cl.length + sl.length ≤ 22) (hsl : sl.length ≤ 8) (hcS : ∀ c ∈ sl, OwnCh c) (hleS : ∀ c ∈ sl, ¬ ((255 : Int32) < c)) (hcs : ¬ (cs = (0 : Int32))) (hsf : sf.isRef = true) (ne_x_a : x ≠ a) (ne_x_b : x ≠ b) (ne_xb_a : xb ≠ a) (ne_xb_b : xb ≠ b) (ne_a_b : a ≠ b) (ne_b_a : b ≠ a) (g_a : n0 ≤ a) (g_b : n0 ≤ b) (O : Old Z n0 h0) :
  Met l Z M43 jdk_68_method_22_code 3 (some (.object "java/lang/AbstractStringBuilder")) ws (Rm 7 1 96 105) #[(.ref a), (.ref x)] h0 (Q_rm_apS Z a b kb cl x xb kx_ sl cs sf h0 n0) := by
 refine met_of (plainFor_of_name pn_java_lang_AbstractStringBuilder) (own := "java/lang/AbstractStringBuilder") rfl (fun m => ef_rm_apS m a x) ?_
 intro p e s m below meth c s₁ hx hby hml hown hnm hZ X0 e0 hret hlk
 have N0 := Fr.nil n0
 have K0 := Keep.refl h0 [a, b]
 show Goes p e below s _ _ _ (s₁.setTop (mkF m 0 #[sR a, sR x, .unset] []))
 obtain ⟨E_a, E_b, Fv_a, Fn_a, Fm_a, hcA, hsb⟩ := S_a
 rcases hsb with ⟨Fc_a, hleA, cap, hcap, hc2, V_b⟩ | ⟨Fc_a, hexA, cap, hcap, hc2, V_b⟩
 ·
  refine Goes.pre (U' := s₁.setTop (mkF m 10 #[sR a, sR x, .unset] [(.ref x)])) (fun t k => XS.aloadN X0.here hx rfl (hb hby d43_0) rfl rfl (XS.ifnonnullYes X0.here hx rfl (pc0 := 1) (pc' := 9) rfl (hb hby d43_1) rfl (by decide) (by decide) (XS.aloadN X0.here hx rfl (hb hby d43_9) rfl rfl k))) ?_
  obtain ⟨cq1, kq1, q1a, q1b, q1c⟩ := isOf hZ e0 S_x.1
  obtain ⟨_, _, ⟨T1, L1, k1, n1⟩, -, X1, ⟨Lc1, hQ1, l1, y1, z1⟩, st1⟩ := X0.virtualBack hx (y := M6) (z := M6) hown (mvT hZ (wq hw 219 rfl)) (mvT hZ (wq hw 36 rfl)) (notFace_of_selects (args := #[]) (mvT hZ (wq hw 38 rfl))) (mvT hZ (wq hw 38 rfl)) (mvT hZ (wq hw 37 rfl)) (by decide) (backOf (W := 0) (rm_len l Z a0 hw [] x xb kx_ sl cs h0 n0 Z0 S_x sC hcs (by omega) O) hZ (wq hw 39 rfl) (wq hw 8 rfl) (by decide) (by decide)) q1a q1c (g := (mkF m 10 #[sR a, sR x, .unset] [(.ref x)])) rfl (by rw [hml]; rfl) (Steps.refl _) (argsL := []) (rest := []) (lenOf pd__28_29I rfl) rfl (by show 2 * 0 + _ ≤ _; exact Nat.le_of_eq rfl) (hb hby d43_10) (fun _ _ => ⟨rfl, e0, (by decide : 0 + 0 ≤ _), (by decide : 0 + 0 ≤ _)⟩)
  dsimp only [Pt.U, Pt.locs, Pt.cells, Pt.slots] at X1 l1 y1 z1 st1 hQ1
  subst l1 y1 z1
  obtain ⟨rfl, N1q, HQ1⟩ := hQ1
  have N1 := Fr.app N0 N1q
  refine Goes.pre (U' := T1.setTop (mkF m 16 #[sR a, sR x, sI (Int32.ofNat sl.length)] [(.ref a), (.ref a)])) (fun t k => st1.trans (XS.istoreN X1.here hx rfl (hb hby d43_13) rfl (l' := #[sR a, sR x, sI (Int32.ofNat sl.length)]) rfl (XS.aloadN X1.here hx rfl (hb hby d43_14) rfl rfl (XS.aloadN X1.here hx rfl (hb hby d43_15) rfl rfl k)))) ?_
  obtain ⟨T2, X2, e2, st2⟩ := getF X1 hx hZ hown (host := "") (Or.inl (wq hw 71 rfl)) Via.refl HQ1 Fn_a (g := (mkF m 16 #[sR a, sR x, sI (Int32.ofNat sl.length)] [(.ref a), (.ref a)])) rfl rfl (hb hby d43_16)
  refine Goes.pre (U' := T2.setTop (mkF m 21 #[sR a, sR x, sI (Int32.ofNat sl.length)] [(.int ((Int32.ofNat cl.length) + (Int32.ofNat sl.length))), (.ref a)])) (fun t k => st2 t (XS.iloadN X2.here hx rfl (hb hby d43_19) rfl (XS.iadd X2.here hx rfl (hb hby d43_20) rfl k))) ?_
  rw [own_addk]
  have lt_a := E_a.lt
  have lt_b := E_b.lt
  have lt_x := S_x.lt
  have lt_xb := S_x.ltb
  obtain ⟨cq3, q3, q3'⟩ := E_a.cell
  obtain ⟨_, _, ⟨T3, L3, k3, n3⟩, -, X3, ⟨Lc3, hQ3, l3, y3, z3⟩, st3⟩ := X2.privateBack hx (y := M12) hown (mvT hZ (wq hw 73 rfl)) (mvT hZ (wq hw 74 rfl)) (mvT hZ (own_selfp (wq hw 76 rfl) (wq hw 74 rfl) (wq hw 75 rfl) (by decide) (by decide))) (Cond.privateMethod_at (mvP hZ (wq hw 75 rfl) (args := #[]))) (mvT hZ (wq hw 77 rfl)) (by decide) (backOf (W := 0) (rm_ens0 l Z a0 hw [] a b kb cap (cl.length + sl.length) (cl.map fun c => .int c.toInt8.toInt32) (Int32.ofNat cl.length) h0 n0 Z0 E_a E_b Fv_a Fc_a Fn_a Fm_a V_b hc2 (by omega) (by rw [List.length_map]; exact hcap) g_b ne_b_a g_a) hZ (wq hw 77 rfl) (wq hw 53 rfl) (by decide) (by decide)) (g := (mkF m 21 #[sR a, sR x, sI (Int32.ofNat sl.length)] [(.int (Int32.ofNat (cl.length + sl.length))), (.ref a)])) rfl (by rw [hml]; rfl) (Steps.refl _) (a := a) (by rw [e2]; exact q3) q3' (argsL := [(.int (Int32.ofNat (cl.length + sl.length)))]) (rest := []) (lenOf pd__28I_29V rfl) rfl (by show 2 * 0 + _ ≤ _; exact Nat.le_of_eq rfl) (hb hby d43_21) (fun _ _ => ⟨rfl, e2, (by decide : 0 + 1 ≤ _), (by decide : 0 + 96 ≤ _)⟩)
  dsimp only [Pt.U, Pt.locs, Pt.cells, Pt.slots] at X3 l3 y3 z3 st3 hQ3
  subst l3 y3 z3
  obtain ⟨bx2, kx2, cx2, rfl, N3q, KQ3, fo0_3, fo1_3, fo2_3, fo3_3, fo4_3, fo5_3, g_bx2, ml_bx2, hx3⟩ := hQ3
  have N3 := Fr.app N1 N3q
  have S_x := S_x.keep KQ3 (ninS ne_x_a nin0) (ninS ne_xb_a nin0)
  have E_x := E_x.keep KQ3
  have Fc_x := Fc_x.keep KQ3 (ninS ne_x_a nin0)
  have Fv_x := Fv_x.keep KQ3 (ninS ne_x_a nin0)
  have V_xb := V_xb.keep KQ3 (ninS ne_xb_a nin0)
  have E_a := E_a.keep KQ3
  have E_b := E_b.keep KQ3
  have V_b := V_b.keep KQ3 (ninS ne_b_a nin0)
  have Z4 : n0 ≤ T3.heap.size := Nat.le_trans Z0 KQ3.1
  have O := O.keep KQ3 (allS (P := fun x => n0 ≤ x) g_a all0)
  have K4 := K0.trans KQ3 (allS (P := fun x => x ∈ [a, b] ∨ h0.size ≤ x) (Or.inl (List.mem_of_getElem? (i := 0) rfl)) all0)
  have ne_a_bx2 : a ≠ bx2 := own_mayne ml_bx2 lt_a ne_a_b
  have ne_bx2_a := ne_a_bx2.symm
  have ne_x_bx2 : x ≠ bx2 := own_mayne ml_bx2 lt_x ne_x_b
  have ne_bx2_x := ne_x_bx2.symm
  have ne_xb_bx2 : xb ≠ bx2 := own_mayne ml_bx2 lt_xb ne_xb_b
  have ne_bx2_xb := ne_xb_bx2.symm
  have mz_bx2 : bx2 = b ∨ h0.size ≤ bx2 := own_may1 ml_bx2 (Nat.le_trans K0.1)
  have E_bx2 := fo0_3
  have Fv_a := fo1_3
  have Fc_a := fo2_3
  have Fn_a := fo3_3
  have Fm_a := fo4_3
  have V_bx2 := fo5_3
  refine Goes.pre (U' := T3.setTop (mkF m 24 #[sR a, sR x, sI (Int32.ofNat sl.length)] [])) (fun t k => st3.trans k) ?_
  obtain ⟨hx1, hx2, hx3⟩ := hx3
  refine Goes.pre (U' := T3.setTop (mkF m 26 #[sR a, sR x, sI (Int32.ofNat sl.length)] [(.ref a), (.ref a)])) (fun t k => XS.aloadN X3.here hx rfl (hb hby d43_24) rfl rfl (XS.aloadN X3.here hx rfl (hb hby d43_25) rfl rfl k)) ?_
  obtain ⟨T5, X5, e5, st5⟩ := getF X3 hx hZ hown (host := "") (Or.inl (wq hw 71 rfl)) Via.refl rfl Fn_a (g := (mkF m 26 #[sR a, sR x, sI (Int32.ofNat sl.length)] [(.ref a), (.ref a)])) rfl rfl (hb hby d43_26)
  refine Goes.pre (U' := T5.setTop (mkF m 30 #[sR a, sR x, sI (Int32.ofNat sl.length)] [(.ref x), (.int (Int32.ofNat cl.length)), (.ref a)])) (fun t k => st5 t (XS.aloadN X5.here hx rfl (hb hby d43_29) rfl rfl k)) ?_
  obtain ⟨cq6, q6, q6'⟩ := E_a.cell
  obtain ⟨_, _, ⟨T6, L6, k6, n6⟩, -, X6, ⟨Lc6, hQ6, l6, y6, z6⟩, st6⟩ := X5.privateBack hx (y := M47) hown (mvT hZ (wq hw 240 rfl)) (mvT hZ (wq hw 241 rfl)) (mvT hZ (own_selfp (wq hw 243 rfl) (wq hw 241 rfl) (wq hw 242 rfl) (by decide) (by decide))) (Cond.privateMethod_at (mvP hZ (wq hw 242 rfl) (args := #[]))) (mvT hZ (wq hw 244 rfl)) (by decide) (backOf (W := 0) (rm_psa0 l Z a0 hw [] a x xb kx_ sl bx2 kx2 cx2 cl cs sf T3.heap n0 Z4 E_a Fv_a Fc_a E_x Fc_x Fv_x V_xb V_bx2 sC sA sH sL sF hx2 hx1 hsl hcS hleS hcs hsf ne_xb_bx2 ne_x_bx2 ne_a_bx2 g_bx2 O) hZ (wq hw 244 rfl) (wq hw 53 rfl) (by decide) (by decide)) (g := (mkF m 30 #[sR a, sR x, sI (Int32.ofNat sl.length)] [(.ref x), (.int (Int32.ofNat cl.length)), (.ref a)])) rfl (by rw [hml]; rfl) (Steps.refl _) (a := a) (by rw [e5]; exact q6) q6' (argsL := [(.int (Int32.ofNat cl.length)), (.ref x)]) (rest := []) (lenOf pd__28ILjava_2flang_2fString_3b_29V rfl) rfl (by show 2 * 0 + _ ≤ _; exact Nat.le_of_eq rfl) (hb hby d43_30) (fun _ _ => ⟨rfl, e5, (by decide : 1 + 0 ≤ _), (by decide : 96 + 0 ≤ _)⟩)
  dsimp only [Pt.U, Pt.locs, Pt.cells, Pt.slots] at X6 l6 y6 z6 st6 hQ6
  subst l6 y6 z6
  obtain ⟨rfl, N6q, KQ6, fo0_6⟩ := hQ6
  have N6 := Fr.app N3 N6q
  have S_x := S_x.keep KQ6 (ninS ne_x_bx2 nin0) (ninS ne_xb_bx2 nin0)
  have E_x := E_x.keep KQ6
  have Fc_x := Fc_x.keep KQ6 (ninS ne_x_bx2 nin0)
  have Fv_x := Fv_x.keep KQ6 (ninS ne_x_bx2 nin0)
  have V_xb := V_xb.keep KQ6 (ninS ne_xb_bx2 nin0)
  have E_a := E_a.keep KQ6
  have E_bx2 := E_bx2.keep KQ6
  have Fv_a := Fv_a.keep KQ6 (ninS ne_a_bx2 nin0)
  have Fc_a := Fc_a.keep KQ6 (ninS ne_a_bx2 nin0)
  have Fn_a := Fn_a.keep KQ6 (ninS ne_a_bx2 nin0)
  have Fm_a := Fm_a.keep KQ6 (ninS ne_a_bx2 nin0)
  have Z7 : n0 ≤ T6.heap.size := Nat.le_trans Z4 KQ6.1
  have O := O.keep KQ6 (allS (P := fun x => n0 ≤ x) g_bx2 all0)
  have K7 := K4.trans KQ6 (allS (P := fun x => x ∈ [a, b] ∨ h0.size ≤ x) (own_mayk mz_bx2 (List.mem_of_getElem? (i := 1) rfl)) all0)
  have V_bx2 := fo0_6
  refine Goes.pre (U' := T6.setTop (mkF m 35 #[sR a, sR x, sI (Int32.ofNat sl.length)] [(.ref a), (.ref a)])) (fun t k => st6.trans (XS.aloadN X6.here hx rfl (hb hby d43_33) rfl rfl (XS.dup X6.here hx rfl (hb hby d43_34) rfl rfl k))) ?_
  obtain ⟨T8, X8, e8, st8⟩ := getF X6 hx hZ hown (host := "") (Or.inl (wq hw 71 rfl)) Via.refl rfl Fn_a (g := (mkF m 35 #[sR a, sR x, sI (Int32.ofNat sl.length)] [(.ref a), (.ref a)])) rfl rfl (hb hby d43_35)
  refine Goes.pre (U' := T8.setTop (mkF m 40 #[sR a, sR x, sI (Int32.ofNat sl.length)] [(.int ((Int32.ofNat cl.length) + (Int32.ofNat sl.length))), (.ref a)])) (fun t k => st8 t (XS.iloadN X8.here hx rfl (hb hby d43_38) rfl (XS.iadd X8.here hx rfl (hb hby d43_39) rfl k))) ?_
  obtain ⟨T9, h9, X9, e9, W9, st9⟩ := putF X8 hx hZ hown (host := "") (Or.inl (wq hw 71 rfl)) Via.refl e8 Fn_a E_a (Or.inl (wq hw 72 rfl)) (wq hw 33 rfl) (ty := .int) (by decide) rfl rfl (g := (mkF m 40 #[sR a, sR x, sI (Int32.ofNat sl.length)] [(.int ((Int32.ofNat cl.length) + (Int32.ofNat sl.length))), (.ref a)])) rfl rfl (hb hby d43_40)
  have S_x := S_x.keep (Keep.of_wr W9) (ninS ne_x_a nin0) (ninS ne_xb_a nin0)
  have E_x := E_x.wr W9
  have Fc_x := Fc_x.other W9 (Or.inl ne_x_a)
  have Fv_x := Fv_x.other W9 (Or.inl ne_x_a)
  have V_xb := V_xb.other W9 ne_xb_a
  have E_a := E_a.wr W9
  have E_bx2 := E_bx2.wr W9
  have Fv_a := Fv_a.other W9 (Or.inr (slot_ne (Or.inl (wq hw 58 rfl)) (Or.inl (wq hw 72 rfl)) (by decide) (t := (.array .byte)) (t' := .int) (by decide) (by decide)))
  have Fc_a := Fc_a.other W9 (Or.inr (slot_ne (Or.inl (wq hw 60 rfl)) (Or.inl (wq hw 72 rfl)) (by decide) (t := .byte) (t' := .int) (by decide) (by decide)))
  have Fm_a := Fm_a.other W9 (Or.inr (slot_ne (Or.inl (wq hw 315 rfl)) (Or.inl (wq hw 72 rfl)) (by decide) (t := .boolean) (t' := .int) (by decide) (by decide)))
  have V_bx2 := V_bx2.other W9 ne_bx2_a
  have Z9 : n0 ≤ h9.size := Nat.le_trans Z7 (Keep.of_wr W9).1
  have O := O.wr W9 g_a
  have Fn_a := Fn_a.same W9
  have K9 := K7.wr W9 (Or.inl (List.mem_of_getElem? (i := 0) rfl))
  have N9 := Fr.snoc X9 N6 g_a
  refine Goes.pre (U' := T9.setTop (mkF m 44 #[sR a, sR x, sI (Int32.ofNat sl.length)] [(.ref a)])) (fun t k => st9 t (XS.aloadN X9.here hx rfl (hb hby d43_43) rfl rfl k)) ?_
  refine Goes.ret X9 (v := (some (.ref a))) (fun h => by rw [hret] at h; cases h) hlk (by decide) (by decide) e9 (fun fs hr => retOut X9 hx hret rfl (Or.inr (Or.inr (Or.inr (Or.inr ⟨rfl, rfl, rfl⟩)))) (hb hby d43_44) hr) ?_
  rw [own_addk, ← List.length_append] at Fn_a
  exact ⟨bx2, kx2, rfl, N9, K9, ⟨E_a, E_bx2, Fv_a, Fn_a, Fm_a, own_appA hcA hcS, Or.inl ⟨Fc_a, own_appA hleA hleS, cx2, (by rw [List.length_append]; exact hx1), hx2, V_bx2⟩⟩, g_bx2, mz_bx2⟩
 ·
  refine Goes.pre (U' := s₁.setTop (mkF m 10 #[sR a, sR x, .unset] [(.ref x)])) (fun t k => XS.aloadN X0.here hx rfl (hb hby d43_0) rfl rfl (XS.ifnonnullYes X0.here hx rfl (pc0 := 1) (pc' := 9) rfl (hb hby d43_1) rfl (by decide) (by decide) (XS.aloadN X0.here hx rfl (hb hby d43_9) rfl rfl k))) ?_
  obtain ⟨cq10, kq10, q10a, q10b, q10c⟩ := isOf hZ e0 S_x.1
  obtain ⟨_, _, ⟨T10, L10, k10, n10⟩, -, X10, ⟨Lc10, hQ10, l10, y10, z10⟩, st10⟩ := X0.virtualBack hx (y := M6) (z := M6) hown (mvT hZ (wq hw 219 rfl)) (mvT hZ (wq hw 36 rfl)) (notFace_of_selects (args := #[]) (mvT hZ (wq hw 38 rfl))) (mvT hZ (wq hw 38 rfl)) (mvT hZ (wq hw 37 rfl)) (by decide) (backOf (W := 0) (rm_len l Z a0 hw [] x xb kx_ sl cs h0 n0 Z0 S_x sC hcs (by omega) O) hZ (wq hw 39 rfl) (wq hw 8 rfl) (by decide) (by decide)) q10a q10c (g := (mkF m 10 #[sR a, sR x, .unset] [(.ref x)])) rfl (by rw [hml]; rfl) (Steps.refl _) (argsL := []) (rest := []) (lenOf pd__28_29I rfl) rfl (by show 2 * 0 + _ ≤ _; exact Nat.le_of_eq rfl) (hb hby d43_10) (fun _ _ => ⟨rfl, e0, (by decide : 0 + 0 ≤ _), (by decide : 0 + 0 ≤ _)⟩)
  dsimp only [Pt.U, Pt.locs, Pt.cells, Pt.slots] at X10 l10 y10 z10 st10 hQ10
  subst l10 y10 z10
  obtain ⟨rfl, N10q, HQ10⟩ := hQ10
  have N10 := Fr.app N0 N10q
  refine Goes.pre (U' := T10.setTop (mkF m 16 #[sR a, sR x, sI (Int32.ofNat sl.length)] [(.ref a), (.ref a)])) (fun t k => st10.trans (XS.istoreN X10.here hx rfl (hb hby d43_13) rfl (l' := #[sR a, sR x, sI (Int32.ofNat sl.length)]) rfl (XS.aloadN X10.here hx rfl (hb hby d43_14) rfl rfl (XS.aloadN X10.here hx rfl (hb hby d43_15) rfl rfl k)))) ?_
  obtain ⟨T11, X11, e11, st11⟩ := getF X10 hx hZ hown (host := "") (Or.inl (wq hw 71 rfl)) Via.refl HQ10 Fn_a (g := (mkF m 16 #[sR a, sR x, sI (Int32.ofNat sl.length)] [(.ref a), (.ref a)])) rfl rfl (hb hby d43_16)
  refine Goes.pre (U' := T11.setTop (mkF m 21 #[sR a, sR x, sI (Int32.ofNat sl.length)] [(.int ((Int32.ofNat cl.length) + (Int32.ofNat sl.length))), (.ref a)])) (fun t k => st11 t (XS.iloadN X11.here hx rfl (hb hby d43_19) rfl (XS.iadd X11.here hx rfl (hb hby d43_20) rfl k))) ?_
  rw [own_addk]
  have lt_a := E_a.lt
  have lt_b := E_b.lt
  have lt_x := S_x.lt
  have lt_xb := S_x.ltb
  obtain ⟨cq12, q12, q12'⟩ := E_a.cell
  obtain ⟨_, _, ⟨T12, L12, k12, n12⟩, -, X12, ⟨Lc12, hQ12, l12, y12, z12⟩, st12⟩ := X11.privateBack hx (y := M12) hown (mvT hZ (wq hw 73 rfl)) (mvT hZ (wq hw 74 rfl)) (mvT hZ (own_selfp (wq hw 76 rfl) (wq hw 74 rfl) (wq hw 75 rfl) (by decide) (by decide))) (Cond.privateMethod_at (mvP hZ (wq hw 75 rfl) (args := #[]))) (mvT hZ (wq hw 77 rfl)) (by decide) (backOf (W := 0) (rm_ens1 l Z a0 hw [] a b kb cap (cl.length + sl.length) (cl.flatMap fun c => [.int (c >>> ((0 : Int32) &&& 31)).toInt8.toInt32, .int (c >>> ((8 : Int32) &&& 31)).toInt8.toInt32]) (Int32.ofNat cl.length) h0 n0 Z0 E_a E_b Fv_a Fc_a Fn_a Fm_a V_b hc2 (by omega) (by rw [own_fm2]; omega) g_b ne_b_a g_a) hZ (wq hw 77 rfl) (wq hw 53 rfl) (by decide) (by decide)) (g := (mkF m 21 #[sR a, sR x, sI (Int32.ofNat sl.length)] [(.int (Int32.ofNat (cl.length + sl.length))), (.ref a)])) rfl (by rw [hml]; rfl) (Steps.refl _) (a := a) (by rw [e11]; exact q12) q12' (argsL := [(.int (Int32.ofNat (cl.length + sl.length)))]) (rest := []) (lenOf pd__28I_29V rfl) rfl (by show 2 * 0 + _ ≤ _; exact Nat.le_of_eq rfl) (hb hby d43_21) (fun _ _ => ⟨rfl, e11, (by decide : 0 + 1 ≤ _), (by decide : 0 + 96 ≤ _)⟩)
  dsimp only [Pt.U, Pt.locs, Pt.cells, Pt.slots] at X12 l12 y12 z12 st12 hQ12
  subst l12 y12 z12
  obtain ⟨bx2, kx2, cx2, rfl, N12q, KQ12, fo0_12, fo1_12, fo2_12, fo3_12, fo4_12, fo5_12, g_bx2, ml_bx2, hx12⟩ := hQ12
  have N12 := Fr.app N10 N12q
  have S_x := S_x.keep KQ12 (ninS ne_x_a nin0) (ninS ne_xb_a nin0)
  have E_x := E_x.keep KQ12
  have Fc_x := Fc_x.keep KQ12 (ninS ne_x_a nin0)
  have Fv_x := Fv_x.keep KQ12 (ninS ne_x_a nin0)
  have V_xb := V_xb.keep KQ12 (ninS ne_xb_a nin0)
  have E_a := E_a.keep KQ12
  have E_b := E_b.keep KQ12
  have V_b := V_b.keep KQ12 (ninS ne_b_a nin0)
  have Z13 : n0 ≤ T12.heap.size := Nat.le_trans Z0 KQ12.1
  have O := O.keep KQ12 (allS (P := fun x => n0 ≤ x) g_a all0)
  have K13 := K0.trans KQ12 (allS (P := fun x => x ∈ [a, b] ∨ h0.size ≤ x) (Or.inl (List.mem_of_getElem? (i := 0) rfl)) all0)
  have ne_a_bx2 : a ≠ bx2 := own_mayne ml_bx2 lt_a ne_a_b
  have ne_bx2_a := ne_a_bx2.symm
  have ne_x_bx2 : x ≠ bx2 := own_mayne ml_bx2 lt_x ne_x_b
  have ne_bx2_x := ne_x_bx2.symm
  have ne_xb_bx2 : xb ≠ bx2 := own_mayne ml_bx2 lt_xb ne_xb_b
  have ne_bx2_xb := ne_xb_bx2.symm
  have mz_bx2 : bx2 = b ∨ h0.size ≤ bx2 := own_may1 ml_bx2 (Nat.le_trans K0.1)
  have E_bx2 := fo0_12
  have Fv_a := fo1_12
  have Fc_a := fo2_12
  have Fn_a := fo3_12
  have Fm_a := fo4_12
  have V_bx2 := fo5_12
  refine Goes.pre (U' := T12.setTop (mkF m 24 #[sR a, sR x, sI (Int32.ofNat sl.length)] [])) (fun t k => st12.trans k) ?_
  obtain ⟨hx1, hx2, hx3⟩ := hx12
  refine Goes.pre (U' := T12.setTop (mkF m 26 #[sR a, sR x, sI (Int32.ofNat sl.length)] [(.ref a), (.ref a)])) (fun t k => XS.aloadN X12.here hx rfl (hb hby d43_24) rfl rfl (XS.aloadN X12.here hx rfl (hb hby d43_25) rfl rfl k)) ?_
  obtain ⟨T14, X14, e14, st14⟩ := getF X12 hx hZ hown (host := "") (Or.inl (wq hw 71 rfl)) Via.refl rfl Fn_a (g := (mkF m 26 #[sR a, sR x, sI (Int32.ofNat sl.length)] [(.ref a), (.ref a)])) rfl rfl (hb hby d43_26)
  refine Goes.pre (U' := T14.setTop (mkF m 30 #[sR a, sR x, sI (Int32.ofNat sl.length)] [(.ref x), (.int (Int32.ofNat cl.length)), (.ref a)])) (fun t k => st14 t (XS.aloadN X14.here hx rfl (hb hby d43_29) rfl rfl k)) ?_
  obtain ⟨cq15, q15, q15'⟩ := E_a.cell
  obtain ⟨_, _, ⟨T15, L15, k15, n15⟩, -, X15, ⟨Lc15, hQ15, l15, y15, z15⟩, st15⟩ := X14.privateBack hx (y := M47) hown (mvT hZ (wq hw 240 rfl)) (mvT hZ (wq hw 241 rfl)) (mvT hZ (own_selfp (wq hw 243 rfl) (wq hw 241 rfl) (wq hw 242 rfl) (by decide) (by decide))) (Cond.privateMethod_at (mvP hZ (wq hw 242 rfl) (args := #[]))) (mvT hZ (wq hw 244 rfl)) (by decide) (backOf (W := 0) (rm_psa1 l Z a0 hw [] a x xb kx_ sl bx2 kx2 cx2 cl cs sf T12.heap n0 Z13 E_a Fv_a Fc_a E_x Fc_x Fv_x V_xb V_bx2 sC sA sH sL sF hx2 hx1 hsl hcS hleS hcs hsf ne_xb_bx2 ne_x_bx2 ne_a_bx2 g_bx2 O) hZ (wq hw 244 rfl) (wq hw 53 rfl) (by decide) (by decide)) (g := (mkF m 30 #[sR a, sR x, sI (Int32.ofNat sl.length)] [(.ref x), (.int (Int32.ofNat cl.length)), (.ref a)])) rfl (by rw [hml]; rfl) (Steps.refl _) (a := a) (by rw [e14]; exact q15) q15' (argsL := [(.int (Int32.ofNat cl.length)), (.ref x)]) (rest := []) (lenOf pd__28ILjava_2flang_2fString_3b_29V rfl) rfl (by show 2 * 0 + _ ≤ _; exact Nat.le_of_eq rfl) (hb hby d43_30) (fun _ _ => ⟨rfl, e14, (by decide : 1 + 0 ≤ _), (by decide : 96 + 0 ≤ _)⟩)
  dsimp only [Pt.U, Pt.locs, Pt.cells, Pt.slots] at X15 l15 y15 z15 st15 hQ15
  subst l15 y15 z15
  obtain ⟨rfl, N15q, KQ15, fo0_15⟩ := hQ15
  have N15 := Fr.app N12 N15q
  have S_x := S_x.keep KQ15 (ninS ne_x_bx2 nin0) (ninS ne_xb_bx2 nin0)
  have E_x := E_x.keep KQ15
  have Fc_x := Fc_x.keep KQ15 (ninS ne_x_bx2 nin0)
  have Fv_x := Fv_x.keep KQ15 (ninS ne_x_bx2 nin0)
  have V_xb := V_xb.keep KQ15 (ninS ne_xb_bx2 nin0)
  have E_a := E_a.keep KQ15
  have E_bx2 := E_bx2.keep KQ15
  have Fv_a := Fv_a.keep KQ15 (ninS ne_a_bx2 nin0)
  have Fc_a := Fc_a.keep KQ15 (ninS ne_a_bx2 nin0)
  have Fn_a := Fn_a.keep KQ15 (ninS ne_a_bx2 nin0)
  have Fm_a := Fm_a.keep KQ15 (ninS ne_a_bx2 nin0)
  have Z16 : n0 ≤ T15.heap.size := Nat.le_trans Z13 KQ15.1
  have O := O.keep KQ15 (allS (P := fun x => n0 ≤ x) g_bx2 all0)
  have K16 := K13.trans KQ15 (allS (P := fun x => x ∈ [a, b] ∨ h0.size ≤ x) (own_mayk mz_bx2 (List.mem_of_getElem? (i := 1) rfl)) all0)
  have V_bx2 := fo0_15
  refine Goes.pre (U' := T15.setTop (mkF m 35 #[sR a, sR x, sI (Int32.ofNat sl.length)] [(.ref a), (.ref a)])) (fun t k => st15.trans (XS.aloadN X15.here hx rfl (hb hby d43_33) rfl rfl (XS.dup X15.here hx rfl (hb hby d43_34) rfl rfl k))) ?_
  obtain ⟨T17, X17, e17, st17⟩ := getF X15 hx hZ hown (host := "") (Or.inl (wq hw 71 rfl)) Via.refl rfl Fn_a (g := (mkF m 35 #[sR a, sR x, sI (Int32.ofNat sl.length)] [(.ref a), (.ref a)])) rfl rfl (hb hby d43_35)
  refine Goes.pre (U' := T17.setTop (mkF m 40 #[sR a, sR x, sI (Int32.ofNat sl.length)] [(.int ((Int32.ofNat cl.length) + (Int32.ofNat sl.length))), (.ref a)])) (fun t k => st17 t (XS.iloadN X17.here hx rfl (hb hby d43_38) rfl (XS.iadd X17.here hx rfl (hb hby d43_39) rfl k))) ?_
  obtain ⟨T18, h18, X18, e18, W18, st18⟩ := putF X17 hx hZ hown (host := "") (Or.inl (wq hw 71 rfl)) Via.refl e17 Fn_a E_a (Or.inl (wq hw 72 rfl)) (wq hw 33 rfl) (ty := .int) (by decide) rfl rfl (g := (mkF m 40 #[sR a, sR x, sI (Int32.ofNat sl.length)] [(.int ((Int32.ofNat cl.length) + (Int32.ofNat sl.length))), (.ref a)])) rfl rfl (hb hby d43_40)
  have S_x := S_x.keep (Keep.of_wr W18) (ninS ne_x_a nin0) (ninS ne_xb_a nin0)
  have E_x := E_x.wr W18
  have Fc_x := Fc_x.other W18 (Or.inl ne_x_a)
  have Fv_x := Fv_x.other W18 (Or.inl ne_x_a)
  have V_xb := V_xb.other W18 ne_xb_a
  have E_a := E_a.wr W18
  have E_bx2 := E_bx2.wr W18
  have Fv_a := Fv_a.other W18 (Or.inr (slot_ne (Or.inl (wq hw 58 rfl)) (Or.inl (wq hw 72 rfl)) (by decide) (t := (.array .byte)) (t' := .int) (by decide) (by decide)))
  have Fc_a := Fc_a.other W18 (Or.inr (slot_ne (Or.inl (wq hw 60 rfl)) (Or.inl (wq hw 72 rfl)) (by decide) (t := .byte) (t' := .int) (by decide) (by decide)))
  have Fm_a := Fm_a.other W18 (Or.inr (slot_ne (Or.inl (wq hw 315 rfl)) (Or.inl (wq hw 72 rfl)) (by decide) (t := .boolean) (t' := .int) (by decide) (by decide)))
  have V_bx2 := V_bx2.other W18 ne_bx2_a
  have Z18 : n0 ≤ h18.size := Nat.le_trans Z16 (Keep.of_wr W18).1
  have O := O.wr W18 g_a
  have Fn_a := Fn_a.same W18
  have K18 := K16.wr W18 (Or.inl (List.mem_of_getElem? (i := 0) rfl))
  have N18 := Fr.snoc X18 N15 g_a
  refine Goes.pre (U' := T18.setTop (mkF m 44 #[sR a, sR x, sI (Int32.ofNat sl.length)] [(.ref a)])) (fun t k => st18 t (XS.aloadN X18.here hx rfl (hb hby d43_43) rfl rfl k)) ?_
  refine Goes.ret X18 (v := (some (.ref a))) (fun h => by rw [hret] at h; cases h) hlk (by decide) (by decide) e18 (fun fs hr => retOut X18 hx hret rfl (Or.inr (Or.inr (Or.inr (Or.inr ⟨rfl, rfl, rfl⟩)))) (hb hby d43_44) hr) ?_
  rw [own_addk, ← List.length_append] at Fn_a
  exact ⟨bx2, kx2, rfl, N18, K18, ⟨E_a, E_bx2, Fv_a, Fn_a, Fm_a, own_appA hcA hcS, Or.inr ⟨Fc_a, (let ⟨z, z1, z2⟩ := hexA; ⟨z, List.mem_append_left _ z1, z2⟩), cx2, (by rw [List.length_append]; exact hx1), hx2, V_bx2⟩⟩, g_bx2, mz_bx2⟩
theorem ef_rm_sbS (m : MethodId) (x0 : Addr) (x1 : Addr) : entryFrame m #[(.ref x0), (.ref x1)] 2 = mkF m 0 #[sR x0, sR x1] [] := by first | (simp [entryFrame, mkF, argsToLocals, Value.category]; done) | rfl
abbrev M42 : MethodName := ⟨"java/lang/StringBuilder", "append", "(Ljava/lang/String;)Ljava/lang/StringBuilder;"⟩
theorem d42_0 : decode B42 0 = .ok (.aload_n 0, 1) := by decide +kernel
theorem d42_1 : decode B42 1 = .ok (.aload_n 1, 1) := by decide +kernel
theorem d42_2 : decode B42 2 = .ok (.invokespecial 29, 3) := by decide +kernel
theorem pd__28Ljava_2flang_2fString_3b_29Ljava_2flang_2fAbstractStringBuilder_3b : parseMethodDescriptor "(Ljava/lang/String;)Ljava/lang/AbstractStringBuilder;" = some ⟨[(.object "java/lang/String")], some (.object "java/lang/AbstractStringBuilder")⟩ := by decide +kernel
theorem d42_5 : decode B42 5 = .ok (.pop, 1) := by decide +kernel
theorem d42_6 : decode B42 6 = .ok (.aload_n 0, 1) := by decide +kernel
theorem d42_7 : decode B42 7 = .ok (.areturn, 1) := by decide +kernel
def Q_rm_sbS (Z : State) (a : Addr) (b : Addr) (kb : ClassId) (cl : List Int32) (x : Addr) (xb : Addr) (kx_ : ClassId) (sl : List Int32) (cs : Int32) (sf : Value) (h0 : Heap) (n0 : Nat) (v : Option Value) (h : Heap) (L : List Loc) : Prop := ∃ (by_ : Addr) (ky : ClassId), v = some (.ref a) ∧ Fr n0 L ∧ Keep h0 h [a, b] ∧ OwnSB Z h a by_ ky (cl ++ sl) ∧ n0 ≤ by_ ∧ (by_ = b ∨ h0.size ≤ by_)
set_option maxRecDepth 65536 in
set_option maxHeartbeats 40000000 in
theorem rm_sbS (l : Launch) (Z : State) (a0 : Array Value) (hw : ∀ d ∈ tables_1, d.before a0 Z = true) (ws : List Jvm.Cond) (a : Addr) (b : Addr) (kb : ClassId) (cl : List Int32) (x : Addr) (xb : Addr) (kx_ : ClassId) (sl : List Int32) (cs : Int32) (sf : Value) (h0 : Heap) (n0 : Nat) (Z0 : n0 ≤ h0.size) (S_a : OwnSB Z h0 a b kb cl) (S_x : OwnStr Z h0 x xb kx_ sl) (sC : OCS Z (.int cs)) (sA : OAD Z (.int (1 : Int32))) (sH : OHI Z (.int (0 : Int32))) (sL : OLO Z (.int (8 : Int32))) (sF : OSF Z sf) (E_x : Exa Z h0 x "java/lang/String") (Fc_x : Fld Z h0 x "java/lang/String" "coder" "B" (.int (0 : Int32))) (Fv_x : Fld Z h0 x "java/lang/String" "value" "[B" (.ref xb)) (V_xb : Arv Z h0 xb kx_ .byte (Int32.ofNat sl.length) (sl.map fun c => .int c.toInt8.toInt32) (.int (0 : Int32))) (hl18 : cl.length + sl.length ≤ 22) (hsl : sl.length ≤ 8) (hcS : ∀ c ∈ sl, OwnCh c) (hleS : ∀ c ∈ sl, ¬ ((255 : Int32) < c)) (hcs : ¬ (cs = (0 : Int32))) (hsf : sf.isRef = true) (ne_x_a : x ≠ a) (ne_x_b : x ≠ b) (ne_xb_a : xb ≠ a) (ne_xb_b : xb ≠ b) (ne_a_b : a ≠ b) (ne_b_a : b ≠ a) (g_a : n0 ≤ a) (g_b : n0 ≤ b) (O : Old Z n0 h0) :
  Met l Z M42 jdk_67_method_7_code 2 (some (.object "java/lang/StringBuilder")) ws (Rm 8 1 96 119) #[(.ref a), (.ref x)] h0 (Q_rm_sbS Z a b kb cl x xb kx_ sl cs sf h0 n0) := by
 refine met_of (plainFor_of_name pn_java_lang_StringBuilder) (own := "java/lang/StringBuilder") rfl (fun m => ef_rm_sbS m a x) ?_
 intro p e s m below meth c s₁ hx hby hml hown hnm hZ X0 e0 hret hlk
 have N0 := Fr.nil n0
 have K0 := Keep.refl h0 [a, b]
 show Goes p e below s _ _ _ (s₁.setTop (mkF m 0 #[sR a, sR x] []))
 refine Goes.pre (U' := s₁.setTop (mkF m 2 #[sR a, sR x] [(.ref x), (.ref a)])) (fun t k => XS.aloadN X0.here hx rfl (hb hby d42_0) rfl rfl (XS.aloadN X0.here hx rfl (hb hby d42_1) rfl rfl k)) ?_
 have lt_a := S_a.lt
 have lt_b := S_a.ltb
 have lt_x := S_x.lt
 have lt_xb := S_x.ltb
 obtain ⟨_, _, ⟨T1, L1, k1, n1⟩, -, X1, ⟨Lc1, hQ1, l1, y1, z1⟩, st1⟩ := superBack X0 hx hZ (y := M43) hown (wq hw 215 rfl) (own_same (wq hw 216 rfl) (wq hw 76 rfl) rfl (by decide) (by decide)) (wq hw 216 rfl) (wq hw 68 rfl) (by decide) (backOf (W := 0) (rm_apS l Z a0 hw [] a b kb cl x xb kx_ sl cs sf h0 n0 Z0 S_a S_x sC sA sH sL sF E_x Fc_x Fv_x V_xb hl18 hsl hcS hleS hcs hsf ne_x_a ne_x_b ne_xb_a ne_xb_b ne_a_b ne_b_a g_a g_b O) hZ (wq hw 218 rfl) (wq hw 53 rfl) (by decide) (by decide)) e0 (Ins.self S_a.1) (g := (mkF m 2 #[sR a, sR x] [(.ref x), (.ref a)])) rfl (by rw [hml]; rfl) (wq hw 218 rfl) (argsL := [(.ref x)]) (rest := []) (lenOf pd__28Ljava_2flang_2fString_3b_29Ljava_2flang_2fAbstractStringBuilder_3b rfl) rfl (by show 2 * 0 + _ ≤ _; exact Nat.le_of_eq rfl) (hb hby d42_2) (fun _ _ => ⟨rfl, e0, (by decide : 0 + 1 ≤ _), (by decide : 0 + 96 ≤ _)⟩)
 dsimp only [Pt.U, Pt.locs, Pt.cells, Pt.slots] at X1 l1 y1 z1 st1 hQ1
 subst l1 y1 z1
 obtain ⟨by_1, ky1, rfl, N1q, KQ1, fo0_1, g_by_1, ml_by_1⟩ := hQ1
 have N1 := Fr.app N0 N1q
 have S_x := S_x.keep KQ1 (ninS ne_x_a (ninS ne_x_b nin0)) (ninS ne_xb_a (ninS ne_xb_b nin0))
 have E_x := E_x.keep KQ1
 have Fc_x := Fc_x.keep KQ1 (ninS ne_x_a (ninS ne_x_b nin0))
 have Fv_x := Fv_x.keep KQ1 (ninS ne_x_a (ninS ne_x_b nin0))
 have V_xb := V_xb.keep KQ1 (ninS ne_xb_a (ninS ne_xb_b nin0))
 have Z2 : n0 ≤ T1.heap.size := Nat.le_trans Z0 KQ1.1
 have O := O.keep KQ1 (allS (P := fun x => n0 ≤ x) g_a (allS (P := fun x => n0 ≤ x) g_b all0))
 have K2 := K0.trans KQ1 (allS (P := fun x => x ∈ [a, b] ∨ h0.size ≤ x) (Or.inl (List.mem_of_getElem? (i := 0) rfl)) (allS (P := fun x => x ∈ [a, b] ∨ h0.size ≤ x) (Or.inl (List.mem_of_getElem? (i := 1) rfl)) all0))
 have ne_a_by_1 : a ≠ by_1 := own_mayne ml_by_1 lt_a ne_a_b
 have ne_by_1_a := ne_a_by_1.symm
 have ne_x_by_1 : x ≠ by_1 := own_mayne ml_by_1 lt_x ne_x_b
 have ne_by_1_x := ne_x_by_1.symm
 have ne_xb_by_1 : xb ≠ by_1 := own_mayne ml_by_1 lt_xb ne_xb_b
 have ne_by_1_xb := ne_xb_by_1.symm
 have mz_by_1 : by_1 = b ∨ h0.size ≤ by_1 := own_may1 ml_by_1 (Nat.le_trans K0.1)
 have S_a := fo0_1
 refine Goes.pre (U' := T1.setTop (mkF m 7 #[sR a, sR x] [(.ref a)])) (fun t k => st1.trans (XS.pop X1.here hx rfl (hb hby d42_5) rfl rfl (XS.aloadN X1.here hx rfl (hb hby d42_6) rfl rfl k))) ?_
 refine Goes.ret X1 (v := (some (.ref a))) (fun h => by rw [hret] at h; cases h) hlk (by decide) (by decide) rfl (fun fs hr => retOut X1 hx hret rfl (Or.inr (Or.inr (Or.inr (Or.inr ⟨rfl, rfl, rfl⟩)))) (hb hby d42_7) hr) ?_
 exact ⟨by_1, ky1, rfl, N1, K2, S_a, g_by_1, mz_by_1⟩
theorem ef_rm_gv (m : MethodId) (x0 : Addr) : entryFrame m #[(.ref x0)] 1 = mkF m 0 #[sR x0] [] := by first | (simp [entryFrame, mkF, argsToLocals, Value.category]; done) | rfl
abbrev M18 : MethodName := ⟨"java/lang/AbstractStringBuilder", "getValue", "()[B"⟩
theorem d18_0 : decode B18 0 = .ok (.aload_n 0, 1) := by decide +kernel
theorem d18_1 : decode B18 1 = .ok (.getfield 15, 3) := by decide +kernel
theorem d18_4 : decode B18 4 = .ok (.areturn, 1) := by decide +kernel
def Q_rm_gv (Z : State) (a : Addr) (b : Addr) (h0 : Heap) (n0 : Nat) (v : Option Value) (h : Heap) (L : List Loc) : Prop := v = some (.ref b) ∧ Fr n0 L ∧ h = h0
set_option maxRecDepth 65536 in
set_option maxHeartbeats 40000000 in
theorem rm_gv (l : Launch) (Z : State) (a0 : Array Value) (hw : ∀ d ∈ tables_1, d.before a0 Z = true) (ws : List Jvm.Cond) (a : Addr) (b : Addr) (h0 : Heap) (n0 : Nat) (Z0 : n0 ≤ h0.size) (Fv_a : Fld Z h0 a "java/lang/AbstractStringBuilder" "value" "[B" (.ref b)) :
  Met l Z M18 jdk_68_method_64_code 1 (some (.array .byte)) ws (Rm 0 0 0 0) #[(.ref a)] h0 (Q_rm_gv Z a b h0 n0) := by
 refine met_of (plainFor_of_name pn_java_lang_AbstractStringBuilder) (own := "java/lang/AbstractStringBuilder") rfl (fun m => ef_rm_gv m a) ?_
 intro p e s m below meth c s₁ hx hby hml hown hnm hZ X0 e0 hret hlk
 have N0 := Fr.nil n0
 show Goes p e below s _ _ _ (s₁.setTop (mkF m 0 #[sR a] []))
 refine Goes.pre (U' := s₁.setTop (mkF m 1 #[sR a] [(.ref a)])) (fun t k => XS.aloadN X0.here hx rfl (hb hby d18_0) rfl rfl k) ?_
 obtain ⟨T1, X1, e1, st1⟩ := getF X0 hx hZ hown (host := "") (Or.inl (wq hw 57 rfl)) Via.refl e0 Fv_a (g := (mkF m 1 #[sR a] [(.ref a)])) rfl rfl (hb hby d18_1)
 refine Goes.pre (U' := T1.setTop (mkF m 4 #[sR a] [(.ref b)])) (fun t k => st1 t k) ?_
 refine Goes.ret X1 (v := (some (.ref b))) (fun h => by rw [hret] at h; cases h) hlk (by decide) (by decide) e1 (fun fs hr => retOut X1 hx hret rfl (Or.inr (Or.inr (Or.inr (Or.inr ⟨rfl, rfl, rfl⟩)))) (hb hby d18_4) hr) ?_
 exact ⟨rfl, N0, rfl⟩
theorem ef_rm_asl (m : MethodId) (x0 : Addr) : entryFrame m #[(.ref x0)] 1 = mkF m 0 #[sR x0] [] := by first | (simp [entryFrame, mkF, argsToLocals, Value.category]; done) | rfl
abbrev M20 : MethodName := ⟨"java/lang/AbstractStringBuilder", "length", "()I"⟩
theorem d20_0 : decode B20 0 = .ok (.aload_n 0, 1) := by decide +kernel
theorem d20_1 : decode B20 1 = .ok (.getfield 79, 3) := by decide +kernel
theorem d20_4 : decode B20 4 = .ok (.ireturn, 1) := by decide +kernel
def Q_rm_asl (Z : State) (a : Addr) (ct : Int32) (h0 : Heap) (n0 : Nat) (v : Option Value) (h : Heap) (L : List Loc) : Prop := v = some (.int ct) ∧ Fr n0 L ∧ h = h0
set_option maxRecDepth 65536 in
set_option maxHeartbeats 40000000 in
theorem rm_asl (l : Launch) (Z : State) (a0 : Array Value) (hw : ∀ d ∈ tables_1, d.before a0 Z = true) (ws : List Jvm.Cond) (a : Addr) (ct : Int32) (h0 : Heap) (n0 : Nat) (Z0 : n0 ≤ h0.size) (Fn_a : Fld Z h0 a "java/lang/AbstractStringBuilder" "count" "I" (.int ct)) :
  Met l Z M20 jdk_68_method_6_code 1 (some .int) ws (Rm 0 0 0 0) #[(.ref a)] h0 (Q_rm_asl Z a ct h0 n0) := by
 refine met_of (plainFor_of_name pn_java_lang_AbstractStringBuilder) (own := "java/lang/AbstractStringBuilder") rfl (fun m => ef_rm_asl m a) ?_
 intro p e s m below meth c s₁ hx hby hml hown hnm hZ X0 e0 hret hlk
 have N0 := Fr.nil n0
 show Goes p e below s _ _ _ (s₁.setTop (mkF m 0 #[sR a] []))
 refine Goes.pre (U' := s₁.setTop (mkF m 1 #[sR a] [(.ref a)])) (fun t k => XS.aloadN X0.here hx rfl (hb hby d20_0) rfl rfl k) ?_
 obtain ⟨T1, X1, e1, st1⟩ := getF X0 hx hZ hown (host := "") (Or.inl (wq hw 71 rfl)) Via.refl e0 Fn_a (g := (mkF m 1 #[sR a] [(.ref a)])) rfl rfl (hb hby d20_1)
 refine Goes.pre (U' := T1.setTop (mkF m 4 #[sR a] [(.int ct)])) (fun t k => st1 t k) ?_
 refine Goes.ret X1 (v := (some (.int ct))) (fun h => by rw [hret] at h; cases h) hlk (by decide) (by decide) e1 (fun fs hr => retI X1 hx hret (hb hby d20_4) hr) ?_
 exact ⟨rfl, N0, rfl⟩
theorem ef_rm_sbl (m : MethodId) (x0 : Addr) : entryFrame m #[(.ref x0)] 1 = mkF m 0 #[sR x0] [] := by first | (simp [entryFrame, mkF, argsToLocals, Value.category]; done) | rfl
abbrev M19 : MethodName := ⟨"java/lang/StringBuilder", "length", "()I"⟩
theorem d19_0 : decode B19 0 = .ok (.aload_n 0, 1) := by decide +kernel
theorem d19_1 : decode B19 1 = .ok (.invokespecial 343, 3) := by decide +kernel
theorem d19_4 : decode B19 4 = .ok (.ireturn, 1) := by decide +kernel
def Q_rm_sbl (Z : State) (a : Addr) (ct : Int32) (h0 : Heap) (n0 : Nat) (v : Option Value) (h : Heap) (L : List Loc) : Prop := v = some (.int ct) ∧ Fr n0 L ∧ h = h0
set_option maxRecDepth 65536 in
set_option maxHeartbeats 40000000 in
theorem rm_sbl (l : Launch) (Z : State) (a0 : Array Value) (hw : ∀ d ∈ tables_1, d.before a0 Z = true) (ws : List Jvm.Cond) (a : Addr) (ct : Int32) (h0 : Heap) (n0 : Nat) (Z0 : n0 ≤ h0.size) (E_a : Exa Z h0 a "java/lang/StringBuilder") (Fn_a : Fld Z h0 a "java/lang/AbstractStringBuilder" "count" "I" (.int ct)) :
  Met l Z M19 jdk_67_method_93_code 1 (some .int) ws (Rm 1 0 0 12) #[(.ref a)] h0 (Q_rm_sbl Z a ct h0 n0) := by
 refine met_of (plainFor_of_name pn_java_lang_StringBuilder) (own := "java/lang/StringBuilder") rfl (fun m => ef_rm_sbl m a) ?_
 intro p e s m below meth c s₁ hx hby hml hown hnm hZ X0 e0 hret hlk
 have N0 := Fr.nil n0
 show Goes p e below s _ _ _ (s₁.setTop (mkF m 0 #[sR a] []))
 refine Goes.pre (U' := s₁.setTop (mkF m 1 #[sR a] [(.ref a)])) (fun t k => XS.aloadN X0.here hx rfl (hb hby d19_0) rfl rfl k) ?_
 obtain ⟨_, _, ⟨T1, L1, k1, n1⟩, -, X1, ⟨Lc1, hQ1, l1, y1, z1⟩, st1⟩ := superBack X0 hx hZ (y := M20) hown (wq hw 112 rfl) (own_same (wq hw 108 rfl) (wq hw 76 rfl) rfl (by decide) (by decide)) (wq hw 108 rfl) (wq hw 68 rfl) (by decide) (backOf (W := 0) (rm_asl l Z a0 hw [] a ct h0 n0 Z0 Fn_a) hZ (wq hw 113 rfl) (wq hw 53 rfl) (by decide) (by decide)) e0 (Ins.self E_a) (g := (mkF m 1 #[sR a] [(.ref a)])) rfl (by rw [hml]; rfl) (wq hw 113 rfl) (argsL := []) (rest := []) (lenOf pd__28_29I rfl) rfl (by show 2 * 0 + _ ≤ _; exact Nat.le_of_eq rfl) (hb hby d19_1) (fun _ _ => ⟨rfl, e0, (by decide : 0 + 0 ≤ _), (by decide : 0 + 0 ≤ _)⟩)
 dsimp only [Pt.U, Pt.locs, Pt.cells, Pt.slots] at X1 l1 y1 z1 st1 hQ1
 subst l1 y1 z1
 obtain ⟨rfl, N1q, HQ1⟩ := hQ1
 have N1 := Fr.app N0 N1q
 refine Goes.pre (U' := T1.setTop (mkF m 4 #[sR a] [(.int ct)])) (fun t k => st1.trans k) ?_
 refine Goes.ret X1 (v := (some (.int ct))) (fun h => by rw [hret] at h; cases h) hlk (by decide) (by decide) HQ1 (fun fs hr => retI X1 hx hret (hb hby d19_4) hr) ?_
 exact ⟨rfl, N1, rfl⟩
theorem ef_rm_siA (m : MethodId) (x0 : Addr) (x1 : Addr) : entryFrame m #[(.ref x0), (.ref x1), .null] 5 = mkF m 0 #[sR x0, sR x1, .val .null, .unset, .unset] [] := by first | (simp [entryFrame, mkF, argsToLocals, Value.category]; done) | rfl
abbrev M17 : MethodName := ⟨"java/lang/String", "<init>", "(Ljava/lang/AbstractStringBuilder;Ljava/lang/Void;)V"⟩
theorem d17_0 : decode B17 0 = .ok (.aload_n 0, 1) := by decide +kernel
theorem d17_1 : decode B17 1 = .ok (.invokespecial 1, 3) := by decide +kernel
theorem d17_4 : decode B17 4 = .ok (.aload_n 1, 1) := by decide +kernel
theorem d17_5 : decode B17 5 = .ok (.invokevirtual 552, 3) := by decide +kernel
theorem pd__28_29_5bB : parseMethodDescriptor "()[B" = some ⟨[], some (.array .byte)⟩ := by decide +kernel
theorem d17_8 : decode B17 8 = .ok (.astore_n 3, 1) := by decide +kernel
theorem d17_9 : decode B17 9 = .ok (.aload_n 1, 1) := by decide +kernel
theorem d17_10 : decode B17 10 = .ok (.invokevirtual 549, 3) := by decide +kernel
theorem d17_13 : decode B17 13 = .ok (.istore 4, 2) := by decide +kernel
theorem d17_15 : decode B17 15 = .ok (.aload_n 1, 1) := by decide +kernel
theorem d17_16 : decode B17 16 = .ok (.invokevirtual 1047, 3) := by decide +kernel
theorem d17_19 : decode B17 19 = .ok (.ifCond .eq 22, 3) := by decide +kernel
theorem d17_22 : decode B17 22 = .ok (.aload_n 0, 1) := by decide +kernel
theorem d17_23 : decode B17 23 = .ok (.iconst 0, 1) := by decide +kernel
theorem d17_24 : decode B17 24 = .ok (.putfield 15, 3) := by decide +kernel
theorem d17_27 : decode B17 27 = .ok (.aload_n 0, 1) := by decide +kernel
theorem d17_28 : decode B17 28 = .ok (.aload_n 3, 1) := by decide +kernel
theorem d17_29 : decode B17 29 = .ok (.iconst 0, 1) := by decide +kernel
theorem d17_30 : decode B17 30 = .ok (.iload 4, 2) := by decide +kernel
theorem d17_32 : decode B17 32 = .ok (.invokestatic 54, 3) := by decide +kernel
theorem d17_35 : decode B17 35 = .ok (.putfield 9, 3) := by decide +kernel
theorem d17_38 : decode B17 38 = .ok (.goto 59, 3) := by decide +kernel
theorem d17_97 : decode B17 97 = .ok (.return_, 1) := by decide +kernel
theorem d17_41 : decode B17 41 = .ok (.getstatic 38, 3) := by decide +kernel
theorem d17_44 : decode B17 44 = .ok (.ifCond .eq 35, 3) := by decide +kernel
theorem d17_47 : decode B17 47 = .ok (.aload_n 1, 1) := by decide +kernel
theorem d17_48 : decode B17 48 = .ok (.getfield 1048, 3) := by decide +kernel
theorem d17_51 : decode B17 51 = .ok (.ifCond .eq 28, 3) := by decide +kernel
theorem d17_79 : decode B17 79 = .ok (.aload_n 0, 1) := by decide +kernel
theorem d17_80 : decode B17 80 = .ok (.iconst 1, 1) := by decide +kernel
theorem d17_81 : decode B17 81 = .ok (.putfield 15, 3) := by decide +kernel
theorem d17_84 : decode B17 84 = .ok (.aload_n 0, 1) := by decide +kernel
theorem d17_85 : decode B17 85 = .ok (.aload_n 3, 1) := by decide +kernel
theorem d17_86 : decode B17 86 = .ok (.iconst 0, 1) := by decide +kernel
theorem d17_87 : decode B17 87 = .ok (.iload 4, 2) := by decide +kernel
theorem d17_89 : decode B17 89 = .ok (.iconst 1, 1) := by decide +kernel
theorem d17_90 : decode B17 90 = .ok (.ishl, 1) := by decide +kernel
theorem d17_91 : decode B17 91 = .ok (.invokestatic 54, 3) := by decide +kernel
theorem d17_94 : decode B17 94 = .ok (.putfield 9, 3) := by decide +kernel
def Q_rm_siA (Z : State) (z : Addr) (a : Addr) (b : Addr) (kb : ClassId) (cl : List Int32) (cs : Int32) (h0 : Heap) (n0 : Nat) (v : Option Value) (h : Heap) (L : List Loc) : Prop := ∃ (zb : Addr) (kz : ClassId), v = none ∧ Fr n0 L ∧ Keep h0 h [z] ∧ OwnStr Z h z zb kz cl ∧ n0 ≤ zb ∧ h0.size ≤ zb
set_option maxRecDepth 65536 in
set_option maxHeartbeats 40000000 in
theorem rm_siA (l : Launch) (Z : State) (a0 : Array Value) (hw : ∀ d ∈ tables_1, d.before a0 Z = true) (ws : List Jvm.Cond) (z : Addr) (a : Addr) (b : Addr) (kb : ClassId) (cl : List Int32) (cs : Int32) (h0 : Heap) (n0 : Nat) (Z0 : n0 ≤ h0.size) (E_z : Exa Z h0 z "java/lang/String") (Fv_z : Fld Z h0 z "java/lang/String" "value" "[B" .null) (Fc_z : Fld Z h0 z "java/lang/String" "coder" "B" (.int (0 : Int32))) (S_a : OwnSB Z h0 a b kb cl) (sC : OCS Z (.int cs)) (hl23 : cl.length ≤ 23) (hcs : ¬ (cs = (0 : Int32))) (ne_a_z : a ≠ z) (ne_b_z : b ≠ z) (g_z : n0 ≤ z) (O : Old Z n0 h0) :
  Met l Z M17 jdk_42_method_150_code 5 none ws (Rm 3 1 96 49) #[(.ref z), (.ref a), .null] h0 (Q_rm_siA Z z a b kb cl cs h0 n0) := by
 refine met_of (plainFor_of_name pn_java_lang_String) (own := "java/lang/String") rfl (fun m => ef_rm_siA m z a) ?_
 intro p e s m below meth c s₁ hx hby hml hown hnm hZ X0 e0 hret hlk
 have N0 := Fr.nil n0
 have K0 := Keep.refl h0 [z]
 show Goes p e below s _ _ _ (s₁.setTop (mkF m 0 #[sR z, sR a, .val .null, .unset, .unset] []))
 obtain ⟨E_a, E_b, Fv_a, Fn_a, Fm_a, hcA, hsb⟩ := S_a
 rcases hsb with ⟨Fc_a, hleA, cap, hcap, hc2, V_b⟩ | ⟨Fc_a, hexA, cap, hcap, hc2, V_b⟩
 ·
  refine Goes.pre (U' := s₁.setTop (mkF m 1 #[sR z, sR a, .val .null, .unset, .unset] [(.ref z)])) (fun t k => XS.aloadN X0.here hx rfl (hb hby d17_0) rfl rfl k) ?_
  obtain ⟨T1, X1, e1, st1⟩ := initO X0 hx hZ hown (wq hw 17 rfl) (wq hw 18 rfl) (wq hw 19 rfl) e0 (g := (mkF m 1 #[sR z, sR a, .val .null, .unset, .unset] [(.ref z)])) rfl (by rw [hml]; rfl) rfl (hb hby d17_1) (by decide) (W := 0) (by show 2 * 0 + _ ≤ _; exact Nat.le_of_eq rfl) (by decide)
  refine Goes.pre (U' := T1.setTop (mkF m 5 #[sR z, sR a, .val .null, .unset, .unset] [(.ref a)])) (fun t k => st1 t (XS.aloadN X1.here hx rfl (hb hby d17_4) rfl rfl k)) ?_
  obtain ⟨cq2, kq2, q2a, q2b, q2c⟩ := isOf hZ e1 E_a
  obtain ⟨_, _, ⟨T2, L2, k2, n2⟩, -, X2, ⟨Lc2, hQ2, l2, y2, z2⟩, st2⟩ := X1.virtualBack hx (y := M18) (z := M18) hown (mvT hZ (wq hw 101 rfl)) (mvT hZ (wq hw 102 rfl)) (notFace_of_selects (args := #[]) (mvT hZ (wq hw 104 rfl))) (mvT hZ (wq hw 104 rfl)) (mvT hZ (wq hw 103 rfl)) (by decide) (backOf (W := 0) (rm_gv l Z a0 hw [] a b h0 n0 Z0 Fv_a) hZ (wq hw 105 rfl) (wq hw 53 rfl) (by decide) (by decide)) q2a q2c (g := (mkF m 5 #[sR z, sR a, .val .null, .unset, .unset] [(.ref a)])) rfl (by rw [hml]; rfl) (Steps.refl _) (argsL := []) (rest := []) (lenOf pd__28_29_5bB rfl) rfl (by show 2 * 0 + _ ≤ _; exact Nat.le_of_eq rfl) (hb hby d17_5) (fun _ _ => ⟨rfl, e1, (by decide : 0 + 0 ≤ _), (by decide : 0 + 0 ≤ _)⟩)
  dsimp only [Pt.U, Pt.locs, Pt.cells, Pt.slots] at X2 l2 y2 z2 st2 hQ2
  subst l2 y2 z2
  obtain ⟨rfl, N2q, HQ2⟩ := hQ2
  have N2 := Fr.app N0 N2q
  refine Goes.pre (U' := T2.setTop (mkF m 10 #[sR z, sR a, .val .null, sR b, .unset] [(.ref a)])) (fun t k => st2.trans (XS.astoreN X2.here hx rfl (hb hby d17_8) rfl rfl (l' := #[sR z, sR a, .val .null, sR b, .unset]) rfl (XS.aloadN X2.here hx rfl (hb hby d17_9) rfl rfl k))) ?_
  obtain ⟨cq3, kq3, q3a, q3b, q3c⟩ := isOf hZ HQ2 E_a
  obtain ⟨_, _, ⟨T3, L3, k3, n3⟩, -, X3, ⟨Lc3, hQ3, l3, y3, z3⟩, st3⟩ := X2.virtualBack hx (y := M20) (z := M19) hown (mvT hZ (wq hw 106 rfl)) (mvT hZ (wq hw 107 rfl)) (own_nface (args := #[]) (mvT hZ (wq hw 81 rfl)) rfl) (mvT hZ (wq hw 109 rfl)) (mvT hZ (wq hw 110 rfl)) (by decide) (backOf (W := 0) (rm_sbl l Z a0 hw [] a (Int32.ofNat cl.length) h0 n0 Z0 E_a Fn_a) hZ (wq hw 111 rfl) (wq hw 34 rfl) (by decide) (by decide)) q3a q3c (g := (mkF m 10 #[sR z, sR a, .val .null, sR b, .unset] [(.ref a)])) rfl (by rw [hml]; rfl) (Steps.refl _) (argsL := []) (rest := []) (lenOf pd__28_29I rfl) rfl (by show 2 * 0 + _ ≤ _; exact Nat.le_of_eq rfl) (hb hby d17_10) (fun _ _ => ⟨rfl, HQ2, (by decide : 0 + 0 ≤ _), (by decide : 0 + 0 ≤ _)⟩)
  dsimp only [Pt.U, Pt.locs, Pt.cells, Pt.slots] at X3 l3 y3 z3 st3 hQ3
  subst l3 y3 z3
  obtain ⟨rfl, N3q, HQ3⟩ := hQ3
  have N3 := Fr.app N2 N3q
  refine Goes.pre (U' := T3.setTop (mkF m 16 #[sR z, sR a, .val .null, sR b, sI (Int32.ofNat cl.length)] [(.ref a)])) (fun t k => st3.trans (XS.istore X3.here hx rfl (hb hby d17_13) rfl (l' := #[sR z, sR a, .val .null, sR b, sI (Int32.ofNat cl.length)]) rfl (XS.aloadN X3.here hx rfl (hb hby d17_15) rfl rfl k))) ?_
  obtain ⟨cq4, kq4, q4a, q4b, q4c⟩ := isOf hZ HQ3 E_a
  obtain ⟨_, _, ⟨T4, L4, k4, n4⟩, -, X4, ⟨Lc4, hQ4, l4, y4, z4⟩, st4⟩ := X3.virtualBack hx (y := M13) (z := M13) hown (mvT hZ (wq hw 114 rfl)) (mvT hZ (wq hw 79 rfl)) (notFace_of_selects (args := #[]) (mvT hZ (wq hw 81 rfl))) (mvT hZ (wq hw 81 rfl)) (mvT hZ (wq hw 80 rfl)) (by decide) (backOf (W := 0) (rm_aL0 l Z a0 hw [] a cs h0 n0 Z0 sC Fc_a hcs O) hZ (wq hw 82 rfl) (wq hw 53 rfl) (by decide) (by decide)) q4a q4c (g := (mkF m 16 #[sR z, sR a, .val .null, sR b, sI (Int32.ofNat cl.length)] [(.ref a)])) rfl (by rw [hml]; rfl) (Steps.refl _) (argsL := []) (rest := []) (lenOf pd__28_29Z rfl) rfl (by show 2 * 0 + _ ≤ _; exact Nat.le_of_eq rfl) (hb hby d17_16) (fun _ _ => ⟨rfl, HQ3, (by decide : 0 + 0 ≤ _), (by decide : 0 + 0 ≤ _)⟩)
  dsimp only [Pt.U, Pt.locs, Pt.cells, Pt.slots] at X4 l4 y4 z4 st4 hQ4
  subst l4 y4 z4
  obtain ⟨rfl, N4q, HQ4⟩ := hQ4
  have N4 := Fr.app N3 N4q
  refine Goes.pre (U' := T4.setTop (mkF m 19 #[sR z, sR a, .val .null, sR b, sI (Int32.ofNat cl.length)] [(.int (1 : Int32))])) (fun t k => st4.trans k) ?_
  have hc19 : ¬ ((1 : Int32) = (0 : Int32)) := by decide
  refine Goes.pre (U' := T4.setTop (mkF m 24 #[sR z, sR a, .val .null, sR b, sI (Int32.ofNat cl.length)] [(.int (0 : Int32)), (.ref z)])) (fun t k => XS.ifNo X4.here hx rfl (hb hby d17_19) rfl ((if0 _ _).trans (feq hc19).1) (XS.aloadN X4.here hx rfl (hb hby d17_22) rfl rfl (XS.iconst X4.here hx rfl (hb hby d17_23) k))) ?_
  obtain ⟨T5, h5, X5, e5, W5, st5⟩ := putFN X4 hx hZ hown (wq hw 27 rfl) Via.refl HQ4 Fc_z E_z (Or.inr ⟨(wq hw 23 rfl), rfl, hnm⟩) (wq hw 7 rfl) (ty := .byte) (v' := (.int (0 : Int32))) (by decide) rfl (by decide) (g := (mkF m 24 #[sR z, sR a, .val .null, sR b, sI (Int32.ofNat cl.length)] [(.int (0 : Int32)), (.ref z)])) rfl rfl (hb hby d17_24)
  have E_z := E_z.wr W5
  have Fv_z := Fv_z.other W5 (Or.inr (slot_ne (Or.inr (wq hw 22 rfl)) (Or.inr (wq hw 23 rfl)) (by decide) (t := (.array .byte)) (t' := .byte) (by decide) (by decide)))
  have E_a := E_a.wr W5
  have E_b := E_b.wr W5
  have Fv_a := Fv_a.other W5 (Or.inl ne_a_z)
  have Fn_a := Fn_a.other W5 (Or.inl ne_a_z)
  have Fm_a := Fm_a.other W5 (Or.inl ne_a_z)
  have Fc_a := Fc_a.other W5 (Or.inl ne_a_z)
  have V_b := V_b.other W5 ne_b_z
  have Z5 : n0 ≤ h5.size := Nat.le_trans Z0 (Keep.of_wr W5).1
  have O := O.wr W5 g_z
  have Fc_z := Fc_z.same W5
  have K5 := K0.wr W5 (Or.inl (List.mem_of_getElem? (i := 0) rfl))
  have N5 := Fr.snoc X5 N4 g_z
  refine Goes.pre (U' := T5.setTop (mkF m 32 #[sR z, sR a, .val .null, sR b, sI (Int32.ofNat cl.length)] [(.int (Int32.ofNat cl.length)), (.int (0 : Int32)), (.ref b), (.ref z)])) (fun t k => st5 t (XS.aloadN X5.here hx rfl (hb hby d17_27) rfl rfl (XS.aloadN X5.here hx rfl (hb hby d17_28) rfl rfl (XS.iconst X5.here hx rfl (hb hby d17_29) (XS.iload X5.here hx rfl (hb hby d17_30) rfl k))))) ?_
  have lt_a := E_a.lt
  have lt_b := E_b.lt
  have lt_z := E_z.lt
  obtain ⟨_, _, ⟨T6, L6, k6, n6⟩, -, X6, ⟨Lc6, hQ6, l6, y6, z6⟩, st6⟩ := Jvm.LawKit.callS X5 hx (y := M21) hown (mvT hZ (wq hw 115 rfl)) (mvT hZ (wq hw 116 rfl)) (mvT hZ (wq hw 117 rfl)) (mvT hZ (wq hw 118 rfl)) (by decide) (backOf (W := 1) (rm_cor l Z a0 hw [] b kb cap cl.length (cl.map fun c => .int c.toInt8.toInt32) h5 n0 Z5 E_b V_b hcap (by omega) (by rw [List.length_map])) hZ (wq hw 118 rfl) (wq hw 117 rfl) (by decide) (by decide)) (g := (mkF m 32 #[sR z, sR a, .val .null, sR b, sI (Int32.ofNat cl.length)] [(.int (Int32.ofNat cl.length)), (.int (0 : Int32)), (.ref b), (.ref z)])) rfl (by rw [hml]; rfl) (argsL := [(.ref b), (.int (0 : Int32)), (.int (Int32.ofNat cl.length))]) (rest := [(.ref z)]) (lenOf pd__28_5bBII_29_5bB rfl) rfl (by show 2 * 0 + _ ≤ _; exact Nat.le_of_eq rfl) (hb hby d17_32) (fun _ _ => ⟨rfl, e5, (by decide : 0 + 1 ≤ _), (by decide : 0 + 96 ≤ _)⟩)
  dsimp only [Pt.U, Pt.locs, Pt.cells, Pt.slots] at X6 l6 y6 z6 st6 hQ6
  subst l6 y6 z6
  obtain ⟨r6, kr6, rfl, N6q, KQ6, fo0_6, g_r6, sl_r6⟩ := hQ6
  have N6 := Fr.app N5 N6q
  have E_z := E_z.keep KQ6
  have Fv_z := Fv_z.keep KQ6 nin0
  have Fc_z := Fc_z.keep KQ6 nin0
  have E_a := E_a.keep KQ6
  have E_b := E_b.keep KQ6
  have Fv_a := Fv_a.keep KQ6 nin0
  have Fn_a := Fn_a.keep KQ6 nin0
  have Fm_a := Fm_a.keep KQ6 nin0
  have Fc_a := Fc_a.keep KQ6 nin0
  have V_b := V_b.keep KQ6 nin0
  have Z7 : n0 ≤ T6.heap.size := Nat.le_trans Z5 KQ6.1
  have O := O.keep KQ6 all0
  have K7 := K5.trans KQ6 all0
  have ne_a_r6 : a ≠ r6 := Nat.ne_of_lt (Nat.lt_of_lt_of_le lt_a sl_r6)
  have ne_r6_a := ne_a_r6.symm
  have ne_b_r6 : b ≠ r6 := Nat.ne_of_lt (Nat.lt_of_lt_of_le lt_b sl_r6)
  have ne_r6_b := ne_b_r6.symm
  have ne_z_r6 : z ≠ r6 := Nat.ne_of_lt (Nat.lt_of_lt_of_le lt_z sl_r6)
  have ne_r6_z := ne_z_r6.symm
  have sz_r6 : h0.size ≤ r6 := Nat.le_trans K5.1 sl_r6
  have V_r6 := fo0_6
  refine Goes.pre (U' := T6.setTop (mkF m 35 #[sR z, sR a, .val .null, sR b, sI (Int32.ofNat cl.length)] [(.ref r6), (.ref z)])) (fun t k => st6 t k) ?_
  obtain ⟨T8, h8, X8, e8, W8, st8⟩ := putF X6 hx hZ hown (host := "") (Or.inl (wq hw 26 rfl)) Via.refl rfl Fv_z E_z (Or.inr ⟨(wq hw 22 rfl), rfl, hnm⟩) (wq hw 7 rfl) (ty := (.array .byte)) (by decide) rfl rfl (g := (mkF m 35 #[sR z, sR a, .val .null, sR b, sI (Int32.ofNat cl.length)] [(.ref r6), (.ref z)])) rfl rfl (hb hby d17_35)
  have E_z := E_z.wr W8
  have Fc_z := Fc_z.other W8 (Or.inr (slot_ne (Or.inr (wq hw 23 rfl)) (Or.inr (wq hw 22 rfl)) (by decide) (t := .byte) (t' := (.array .byte)) (by decide) (by decide)))
  have E_a := E_a.wr W8
  have E_b := E_b.wr W8
  have Fv_a := Fv_a.other W8 (Or.inl ne_a_z)
  have Fn_a := Fn_a.other W8 (Or.inl ne_a_z)
  have Fm_a := Fm_a.other W8 (Or.inl ne_a_z)
  have Fc_a := Fc_a.other W8 (Or.inl ne_a_z)
  have V_b := V_b.other W8 ne_b_z
  have V_r6 := V_r6.other W8 ne_r6_z
  have Z8 : n0 ≤ h8.size := Nat.le_trans Z7 (Keep.of_wr W8).1
  have O := O.wr W8 g_z
  have Fv_z := Fv_z.same W8
  have K8 := K7.wr W8 (Or.inl (List.mem_of_getElem? (i := 0) rfl))
  have N8 := Fr.snoc X8 N6 g_z
  refine Goes.pre (U' := T8.setTop (mkF m 97 #[sR z, sR a, .val .null, sR b, sI (Int32.ofNat cl.length)] [])) (fun t k => st8 t (XS.goto X8.here hx rfl (pc0 := 38) (pc' := 97) rfl (hb hby d17_38) (by decide) (by decide) k)) ?_
  refine Goes.ret X8 (v := none) (fun _ => rfl) hlk (by decide) (by decide) e8 (fun fs hr => X8.returnOut hx hret (hb hby d17_97) hr) ?_
  exact ⟨r6, kr6, rfl, N8, K8, ⟨E_z, Fv_z, hcA, Or.inl ⟨Fc_z, V_r6, hleA⟩⟩, g_r6, sz_r6⟩
 ·
  refine Goes.pre (U' := s₁.setTop (mkF m 1 #[sR z, sR a, .val .null, .unset, .unset] [(.ref z)])) (fun t k => XS.aloadN X0.here hx rfl (hb hby d17_0) rfl rfl k) ?_
  obtain ⟨T9, X9, e9, st9⟩ := initO X0 hx hZ hown (wq hw 17 rfl) (wq hw 18 rfl) (wq hw 19 rfl) e0 (g := (mkF m 1 #[sR z, sR a, .val .null, .unset, .unset] [(.ref z)])) rfl (by rw [hml]; rfl) rfl (hb hby d17_1) (by decide) (W := 0) (by show 2 * 0 + _ ≤ _; exact Nat.le_of_eq rfl) (by decide)
  refine Goes.pre (U' := T9.setTop (mkF m 5 #[sR z, sR a, .val .null, .unset, .unset] [(.ref a)])) (fun t k => st9 t (XS.aloadN X9.here hx rfl (hb hby d17_4) rfl rfl k)) ?_
  obtain ⟨cq10, kq10, q10a, q10b, q10c⟩ := isOf hZ e9 E_a
  obtain ⟨_, _, ⟨T10, L10, k10, n10⟩, -, X10, ⟨Lc10, hQ10, l10, y10, z10⟩, st10⟩ := X9.virtualBack hx (y := M18) (z := M18) hown (mvT hZ (wq hw 101 rfl)) (mvT hZ (wq hw 102 rfl)) (notFace_of_selects (args := #[]) (mvT hZ (wq hw 104 rfl))) (mvT hZ (wq hw 104 rfl)) (mvT hZ (wq hw 103 rfl)) (by decide) (backOf (W := 0) (rm_gv l Z a0 hw [] a b h0 n0 Z0 Fv_a) hZ (wq hw 105 rfl) (wq hw 53 rfl) (by decide) (by decide)) q10a q10c (g := (mkF m 5 #[sR z, sR a, .val .null, .unset, .unset] [(.ref a)])) rfl (by rw [hml]; rfl) (Steps.refl _) (argsL := []) (rest := []) (lenOf pd__28_29_5bB rfl) rfl (by show 2 * 0 + _ ≤ _; exact Nat.le_of_eq rfl) (hb hby d17_5) (fun _ _ => ⟨rfl, e9, (by decide : 0 + 0 ≤ _), (by decide : 0 + 0 ≤ _)⟩)
  dsimp only [Pt.U, Pt.locs, Pt.cells, Pt.slots] at X10 l10 y10 z10 st10 hQ10
  subst l10 y10 z10
  obtain ⟨rfl, N10q, HQ10⟩ := hQ10
  have N10 := Fr.app N0 N10q
  refine Goes.pre (U' := T10.setTop (mkF m 10 #[sR z, sR a, .val .null, sR b, .unset] [(.ref a)])) (fun t k => st10.trans (XS.astoreN X10.here hx rfl (hb hby d17_8) rfl rfl (l' := #[sR z, sR a, .val .null, sR b, .unset]) rfl (XS.aloadN X10.here hx rfl (hb hby d17_9) rfl rfl k))) ?_
  obtain ⟨cq11, kq11, q11a, q11b, q11c⟩ := isOf hZ HQ10 E_a
  obtain ⟨_, _, ⟨T11, L11, k11, n11⟩, -, X11, ⟨Lc11, hQ11, l11, y11, z11⟩, st11⟩ := X10.virtualBack hx (y := M20) (z := M19) hown (mvT hZ (wq hw 106 rfl)) (mvT hZ (wq hw 107 rfl)) (own_nface (args := #[]) (mvT hZ (wq hw 81 rfl)) rfl) (mvT hZ (wq hw 109 rfl)) (mvT hZ (wq hw 110 rfl)) (by decide) (backOf (W := 0) (rm_sbl l Z a0 hw [] a (Int32.ofNat cl.length) h0 n0 Z0 E_a Fn_a) hZ (wq hw 111 rfl) (wq hw 34 rfl) (by decide) (by decide)) q11a q11c (g := (mkF m 10 #[sR z, sR a, .val .null, sR b, .unset] [(.ref a)])) rfl (by rw [hml]; rfl) (Steps.refl _) (argsL := []) (rest := []) (lenOf pd__28_29I rfl) rfl (by show 2 * 0 + _ ≤ _; exact Nat.le_of_eq rfl) (hb hby d17_10) (fun _ _ => ⟨rfl, HQ10, (by decide : 0 + 0 ≤ _), (by decide : 0 + 0 ≤ _)⟩)
  dsimp only [Pt.U, Pt.locs, Pt.cells, Pt.slots] at X11 l11 y11 z11 st11 hQ11
  subst l11 y11 z11
  obtain ⟨rfl, N11q, HQ11⟩ := hQ11
  have N11 := Fr.app N10 N11q
  refine Goes.pre (U' := T11.setTop (mkF m 16 #[sR z, sR a, .val .null, sR b, sI (Int32.ofNat cl.length)] [(.ref a)])) (fun t k => st11.trans (XS.istore X11.here hx rfl (hb hby d17_13) rfl (l' := #[sR z, sR a, .val .null, sR b, sI (Int32.ofNat cl.length)]) rfl (XS.aloadN X11.here hx rfl (hb hby d17_15) rfl rfl k))) ?_
  obtain ⟨cq12, kq12, q12a, q12b, q12c⟩ := isOf hZ HQ11 E_a
  obtain ⟨_, _, ⟨T12, L12, k12, n12⟩, -, X12, ⟨Lc12, hQ12, l12, y12, z12⟩, st12⟩ := X11.virtualBack hx (y := M13) (z := M13) hown (mvT hZ (wq hw 114 rfl)) (mvT hZ (wq hw 79 rfl)) (notFace_of_selects (args := #[]) (mvT hZ (wq hw 81 rfl))) (mvT hZ (wq hw 81 rfl)) (mvT hZ (wq hw 80 rfl)) (by decide) (backOf (W := 0) (rm_aL1 l Z a0 hw [] a cs h0 n0 Z0 sC Fc_a hcs O) hZ (wq hw 82 rfl) (wq hw 53 rfl) (by decide) (by decide)) q12a q12c (g := (mkF m 16 #[sR z, sR a, .val .null, sR b, sI (Int32.ofNat cl.length)] [(.ref a)])) rfl (by rw [hml]; rfl) (Steps.refl _) (argsL := []) (rest := []) (lenOf pd__28_29Z rfl) rfl (by show 2 * 0 + _ ≤ _; exact Nat.le_of_eq rfl) (hb hby d17_16) (fun _ _ => ⟨rfl, HQ11, (by decide : 0 + 0 ≤ _), (by decide : 0 + 0 ≤ _)⟩)
  dsimp only [Pt.U, Pt.locs, Pt.cells, Pt.slots] at X12 l12 y12 z12 st12 hQ12
  subst l12 y12 z12
  obtain ⟨rfl, N12q, HQ12⟩ := hQ12
  have N12 := Fr.app N11 N12q
  refine Goes.pre (U' := T12.setTop (mkF m 19 #[sR z, sR a, .val .null, sR b, sI (Int32.ofNat cl.length)] [(.int (0 : Int32))])) (fun t k => st12.trans k) ?_
  have hc19 : (0 : Int32) = (0 : Int32) := rfl
  refine Goes.pre (U' := T12.setTop (mkF m 41 #[sR z, sR a, .val .null, sR b, sI (Int32.ofNat cl.length)] [])) (fun t k => XS.ifYes X12.here hx rfl (pc0 := 19) (pc' := 41) rfl (hb hby d17_19) rfl ((if0 _ _).trans (teq hc19).1) (by decide) (by decide) k) ?_
  obtain ⟨T13, X13, e13, st13⟩ := getS2 X12 hx hZ hown (host := "") (Or.inl (wq hw 45 rfl)) Via.refl HQ12 (sC.ext O.2) (g := (mkF m 41 #[sR z, sR a, .val .null, sR b, sI (Int32.ofNat cl.length)] [])) rfl (hb hby d17_41)
  refine Goes.pre (U' := T13.setTop (mkF m 44 #[sR z, sR a, .val .null, sR b, sI (Int32.ofNat cl.length)] [(.int cs)])) (fun t k => st13 t k) ?_
  have hc44 : ¬ (cs = (0 : Int32)) := hcs
  refine Goes.pre (U' := T13.setTop (mkF m 48 #[sR z, sR a, .val .null, sR b, sI (Int32.ofNat cl.length)] [(.ref a)])) (fun t k => XS.ifNo X13.here hx rfl (hb hby d17_44) rfl ((if0 _ _).trans (feq hc44).1) (XS.aloadN X13.here hx rfl (hb hby d17_47) rfl rfl k)) ?_
  obtain ⟨T14, X14, e14, st14⟩ := getF X13 hx hZ hown (host := "") (Or.inl (wq hw 314 rfl)) Via.refl e13 Fm_a (g := (mkF m 48 #[sR z, sR a, .val .null, sR b, sI (Int32.ofNat cl.length)] [(.ref a)])) rfl rfl (hb hby d17_48)
  refine Goes.pre (U' := T14.setTop (mkF m 51 #[sR z, sR a, .val .null, sR b, sI (Int32.ofNat cl.length)] [(.int (0 : Int32))])) (fun t k => st14 t k) ?_
  have hc51 : (0 : Int32) = (0 : Int32) := rfl
  refine Goes.pre (U' := T14.setTop (mkF m 81 #[sR z, sR a, .val .null, sR b, sI (Int32.ofNat cl.length)] [(.int (1 : Int32)), (.ref z)])) (fun t k => XS.ifYes X14.here hx rfl (pc0 := 51) (pc' := 79) rfl (hb hby d17_51) rfl ((if0 _ _).trans (teq hc51).1) (by decide) (by decide) (XS.aloadN X14.here hx rfl (hb hby d17_79) rfl rfl (XS.iconst X14.here hx rfl (hb hby d17_80) k))) ?_
  obtain ⟨T15, h15, X15, e15, W15, st15⟩ := putFN X14 hx hZ hown (wq hw 27 rfl) Via.refl e14 Fc_z E_z (Or.inr ⟨(wq hw 23 rfl), rfl, hnm⟩) (wq hw 7 rfl) (ty := .byte) (v' := (.int (1 : Int32))) (by decide) rfl (by decide) (g := (mkF m 81 #[sR z, sR a, .val .null, sR b, sI (Int32.ofNat cl.length)] [(.int (1 : Int32)), (.ref z)])) rfl rfl (hb hby d17_81)
  have E_z := E_z.wr W15
  have Fv_z := Fv_z.other W15 (Or.inr (slot_ne (Or.inr (wq hw 22 rfl)) (Or.inr (wq hw 23 rfl)) (by decide) (t := (.array .byte)) (t' := .byte) (by decide) (by decide)))
  have E_a := E_a.wr W15
  have E_b := E_b.wr W15
  have Fv_a := Fv_a.other W15 (Or.inl ne_a_z)
  have Fn_a := Fn_a.other W15 (Or.inl ne_a_z)
  have Fm_a := Fm_a.other W15 (Or.inl ne_a_z)
  have Fc_a := Fc_a.other W15 (Or.inl ne_a_z)
  have V_b := V_b.other W15 ne_b_z
  have Z15 : n0 ≤ h15.size := Nat.le_trans Z0 (Keep.of_wr W15).1
  have O := O.wr W15 g_z
  have Fc_z := Fc_z.same W15
  have K15 := K0.wr W15 (Or.inl (List.mem_of_getElem? (i := 0) rfl))
  have N15 := Fr.snoc X15 N12 g_z
  refine Goes.pre (U' := T15.setTop (mkF m 91 #[sR z, sR a, .val .null, sR b, sI (Int32.ofNat cl.length)] [(.int ((Int32.ofNat cl.length) <<< ((1 : Int32) &&& 31))), (.int (0 : Int32)), (.ref b), (.ref z)])) (fun t k => st15 t (XS.aloadN X15.here hx rfl (hb hby d17_84) rfl rfl (XS.aloadN X15.here hx rfl (hb hby d17_85) rfl rfl (XS.iconst X15.here hx rfl (hb hby d17_86) (XS.iload X15.here hx rfl (hb hby d17_87) rfl (XS.iconst X15.here hx rfl (hb hby d17_89) (XS.ishl X15.here hx rfl (hb hby d17_90) rfl k))))))) ?_
  rw [← own_shl _ (by omega)]
  have lt_a := E_a.lt
  have lt_b := E_b.lt
  have lt_z := E_z.lt
  obtain ⟨_, _, ⟨T16, L16, k16, n16⟩, -, X16, ⟨Lc16, hQ16, l16, y16, z16⟩, st16⟩ := Jvm.LawKit.callS X15 hx (y := M21) hown (mvT hZ (wq hw 115 rfl)) (mvT hZ (wq hw 116 rfl)) (mvT hZ (wq hw 117 rfl)) (mvT hZ (wq hw 118 rfl)) (by decide) (backOf (W := 1) (rm_cor l Z a0 hw [] b kb (2 * cap) (2 * cl.length) (cl.flatMap fun c => [.int (c >>> ((0 : Int32) &&& 31)).toInt8.toInt32, .int (c >>> ((8 : Int32) &&& 31)).toInt8.toInt32]) h15 n0 Z15 E_b V_b (by omega) (by omega) (own_fm2 _ _ _)) hZ (wq hw 118 rfl) (wq hw 117 rfl) (by decide) (by decide)) (g := (mkF m 91 #[sR z, sR a, .val .null, sR b, sI (Int32.ofNat cl.length)] [(.int (Int32.ofNat (2 * cl.length))), (.int (0 : Int32)), (.ref b), (.ref z)])) rfl (by rw [hml]; rfl) (argsL := [(.ref b), (.int (0 : Int32)), (.int (Int32.ofNat (2 * cl.length)))]) (rest := [(.ref z)]) (lenOf pd__28_5bBII_29_5bB rfl) rfl (by show 2 * 0 + _ ≤ _; exact Nat.le_of_eq rfl) (hb hby d17_91) (fun _ _ => ⟨rfl, e15, (by decide : 0 + 1 ≤ _), (by decide : 0 + 96 ≤ _)⟩)
  dsimp only [Pt.U, Pt.locs, Pt.cells, Pt.slots] at X16 l16 y16 z16 st16 hQ16
  subst l16 y16 z16
  obtain ⟨r16, kr16, rfl, N16q, KQ16, fo0_16, g_r16, sl_r16⟩ := hQ16
  have N16 := Fr.app N15 N16q
  have E_z := E_z.keep KQ16
  have Fv_z := Fv_z.keep KQ16 nin0
  have Fc_z := Fc_z.keep KQ16 nin0
  have E_a := E_a.keep KQ16
  have E_b := E_b.keep KQ16
  have Fv_a := Fv_a.keep KQ16 nin0
  have Fn_a := Fn_a.keep KQ16 nin0
  have Fm_a := Fm_a.keep KQ16 nin0
  have Fc_a := Fc_a.keep KQ16 nin0
  have V_b := V_b.keep KQ16 nin0
  have Z17 : n0 ≤ T16.heap.size := Nat.le_trans Z15 KQ16.1
  have O := O.keep KQ16 all0
  have K17 := K15.trans KQ16 all0
  have ne_a_r16 : a ≠ r16 := Nat.ne_of_lt (Nat.lt_of_lt_of_le lt_a sl_r16)
  have ne_r16_a := ne_a_r16.symm
  have ne_b_r16 : b ≠ r16 := Nat.ne_of_lt (Nat.lt_of_lt_of_le lt_b sl_r16)
  have ne_r16_b := ne_b_r16.symm
  have ne_z_r16 : z ≠ r16 := Nat.ne_of_lt (Nat.lt_of_lt_of_le lt_z sl_r16)
  have ne_r16_z := ne_z_r16.symm
  have sz_r16 : h0.size ≤ r16 := Nat.le_trans K15.1 sl_r16
  have V_r16 := fo0_16
  refine Goes.pre (U' := T16.setTop (mkF m 94 #[sR z, sR a, .val .null, sR b, sI (Int32.ofNat cl.length)] [(.ref r16), (.ref z)])) (fun t k => st16 t k) ?_
  obtain ⟨T18, h18, X18, e18, W18, st18⟩ := putF X16 hx hZ hown (host := "") (Or.inl (wq hw 26 rfl)) Via.refl rfl Fv_z E_z (Or.inr ⟨(wq hw 22 rfl), rfl, hnm⟩) (wq hw 7 rfl) (ty := (.array .byte)) (by decide) rfl rfl (g := (mkF m 94 #[sR z, sR a, .val .null, sR b, sI (Int32.ofNat cl.length)] [(.ref r16), (.ref z)])) rfl rfl (hb hby d17_94)
  have E_z := E_z.wr W18
  have Fc_z := Fc_z.other W18 (Or.inr (slot_ne (Or.inr (wq hw 23 rfl)) (Or.inr (wq hw 22 rfl)) (by decide) (t := .byte) (t' := (.array .byte)) (by decide) (by decide)))
  have E_a := E_a.wr W18
  have E_b := E_b.wr W18
  have Fv_a := Fv_a.other W18 (Or.inl ne_a_z)
  have Fn_a := Fn_a.other W18 (Or.inl ne_a_z)
  have Fm_a := Fm_a.other W18 (Or.inl ne_a_z)
  have Fc_a := Fc_a.other W18 (Or.inl ne_a_z)
  have V_b := V_b.other W18 ne_b_z
  have V_r16 := V_r16.other W18 ne_r16_z
  have Z18 : n0 ≤ h18.size := Nat.le_trans Z17 (Keep.of_wr W18).1
  have O := O.wr W18 g_z
  have Fv_z := Fv_z.same W18
  have K18 := K17.wr W18 (Or.inl (List.mem_of_getElem? (i := 0) rfl))
  have N18 := Fr.snoc X18 N16 g_z
  refine Goes.pre (U' := T18.setTop (mkF m 97 #[sR z, sR a, .val .null, sR b, sI (Int32.ofNat cl.length)] [])) (fun t k => st18 t k) ?_
  refine Goes.ret X18 (v := none) (fun _ => rfl) hlk (by decide) (by decide) e18 (fun fs hr => X18.returnOut hx hret (hb hby d17_97) hr) ?_
  exact ⟨r16, kr16, rfl, N18, K18, ⟨E_z, Fv_z, hcA, Or.inr ⟨Fc_z, V_r16, hexA⟩⟩, g_r16, sz_r16⟩
theorem ef_rm_siB (m : MethodId) (x0 : Addr) (x1 : Addr) : entryFrame m #[(.ref x0), (.ref x1)] 2 = mkF m 0 #[sR x0, sR x1] [] := by first | (simp [entryFrame, mkF, argsToLocals, Value.category]; done) | rfl
abbrev M16 : MethodName := ⟨"java/lang/String", "<init>", "(Ljava/lang/StringBuilder;)V"⟩
theorem d16_0 : decode B16 0 = .ok (.aload_n 0, 1) := by decide +kernel
theorem d16_1 : decode B16 1 = .ok (.aload_n 1, 1) := by decide +kernel
theorem d16_2 : decode B16 2 = .ok (.aconst_null, 1) := by decide +kernel
theorem d16_3 : decode B16 3 = .ok (.invokespecial 489, 3) := by decide +kernel
theorem pd__28Ljava_2flang_2fAbstractStringBuilder_3bLjava_2flang_2fVoid_3b_29V : parseMethodDescriptor "(Ljava/lang/AbstractStringBuilder;Ljava/lang/Void;)V" = some ⟨[(.object "java/lang/AbstractStringBuilder"), (.object "java/lang/Void")], none⟩ := by decide +kernel
theorem d16_6 : decode B16 6 = .ok (.return_, 1) := by decide +kernel
def Q_rm_siB (Z : State) (z : Addr) (a : Addr) (b : Addr) (kb : ClassId) (cl : List Int32) (cs : Int32) (h0 : Heap) (n0 : Nat) (v : Option Value) (h : Heap) (L : List Loc) : Prop := ∃ (zb : Addr) (kz : ClassId), v = none ∧ Fr n0 L ∧ Keep h0 h [z] ∧ OwnStr Z h z zb kz cl ∧ n0 ≤ zb ∧ h0.size ≤ zb
set_option maxRecDepth 65536 in
set_option maxHeartbeats 40000000 in
theorem rm_siB (l : Launch) (Z : State) (a0 : Array Value) (hw : ∀ d ∈ tables_1, d.before a0 Z = true) (ws : List Jvm.Cond) (z : Addr) (a : Addr) (b : Addr) (kb : ClassId) (cl : List Int32) (cs : Int32) (h0 : Heap) (n0 : Nat) (Z0 : n0 ≤ h0.size) (E_z : Exa Z h0 z "java/lang/String") (Fv_z : Fld Z h0 z "java/lang/String" "value" "[B" .null) (Fc_z : Fld Z h0 z "java/lang/String" "coder" "B" (.int (0 : Int32))) (S_a : OwnSB Z h0 a b kb cl) (sC : OCS Z (.int cs)) (hl23 : cl.length ≤ 23) (hcs : ¬ (cs = (0 : Int32))) (ne_a_z : a ≠ z) (ne_b_z : b ≠ z) (g_z : n0 ≤ z) (O : Old Z n0 h0) :
  Met l Z M16 jdk_42_method_53_code 2 none ws (Rm 4 1 96 65) #[(.ref z), (.ref a)] h0 (Q_rm_siB Z z a b kb cl cs h0 n0) := by
 refine met_of (plainFor_of_name pn_java_lang_String) (own := "java/lang/String") rfl (fun m => ef_rm_siB m z a) ?_
 intro p e s m below meth c s₁ hx hby hml hown hnm hZ X0 e0 hret hlk
 have N0 := Fr.nil n0
 have K0 := Keep.refl h0 [z]
 show Goes p e below s _ _ _ (s₁.setTop (mkF m 0 #[sR z, sR a] []))
 refine Goes.pre (U' := s₁.setTop (mkF m 3 #[sR z, sR a] [.null, (.ref a), (.ref z)])) (fun t k => XS.aloadN X0.here hx rfl (hb hby d16_0) rfl rfl (XS.aloadN X0.here hx rfl (hb hby d16_1) rfl rfl (XS.aconstNull X0.here hx rfl (hb hby d16_2) k))) ?_
 have lt_a := S_a.lt
 have lt_b := S_a.ltb
 have lt_z := E_z.lt
 obtain ⟨_, _, ⟨T1, L1, k1, n1⟩, -, X1, ⟨Lc1, hQ1, l1, y1, z1⟩, st1⟩ := X0.specialBack hx (y := M17) rfl hown (mvT hZ (wq hw 98 rfl)) (mvT hZ (wq hw 99 rfl)) (mvT hZ (wq hw 100 rfl)) (by decide) (backOf (W := 0) (rm_siA l Z a0 hw [] z a b kb cl cs h0 n0 Z0 E_z Fv_z Fc_z S_a sC hl23 hcs ne_a_z ne_b_z g_z O) hZ (wq hw 100 rfl) (wq hw 8 rfl) (by decide) (by decide)) (g := (mkF m 3 #[sR z, sR a] [.null, (.ref a), (.ref z)])) rfl (by rw [hml]; rfl) (Steps.refl _) (a := z) (argsL := [(.ref a), .null]) (rest := []) (lenOf pd__28Ljava_2flang_2fAbstractStringBuilder_3bLjava_2flang_2fVoid_3b_29V rfl) rfl (by show 2 * 0 + _ ≤ _; exact Nat.le_of_eq rfl) (hb hby d16_3) (fun _ _ => ⟨rfl, e0, (by decide : 0 + 1 ≤ _), (by decide : 0 + 96 ≤ _)⟩)
 dsimp only [Pt.U, Pt.locs, Pt.cells, Pt.slots] at X1 l1 y1 z1 st1 hQ1
 subst l1 y1 z1
 obtain ⟨zb1, kz1, rfl, N1q, KQ1, fo0_1, g_zb1, sl_zb1⟩ := hQ1
 have N1 := Fr.app N0 N1q
 have E_z := E_z.keep KQ1
 have S_a := S_a.keep KQ1 (ninS ne_a_z nin0) (ninS ne_b_z nin0)
 have Z2 : n0 ≤ T1.heap.size := Nat.le_trans Z0 KQ1.1
 have O := O.keep KQ1 (allS (P := fun x => n0 ≤ x) g_z all0)
 have K2 := K0.trans KQ1 (allS (P := fun x => x ∈ [z] ∨ h0.size ≤ x) (Or.inl (List.mem_of_getElem? (i := 0) rfl)) all0)
 have ne_a_zb1 : a ≠ zb1 := Nat.ne_of_lt (Nat.lt_of_lt_of_le lt_a sl_zb1)
 have ne_zb1_a := ne_a_zb1.symm
 have ne_b_zb1 : b ≠ zb1 := Nat.ne_of_lt (Nat.lt_of_lt_of_le lt_b sl_zb1)
 have ne_zb1_b := ne_b_zb1.symm
 have ne_z_zb1 : z ≠ zb1 := Nat.ne_of_lt (Nat.lt_of_lt_of_le lt_z sl_zb1)
 have ne_zb1_z := ne_z_zb1.symm
 have sz_zb1 : h0.size ≤ zb1 := Nat.le_trans K0.1 sl_zb1
 have S_z := fo0_1
 refine Goes.pre (U' := T1.setTop (mkF m 6 #[sR z, sR a] [])) (fun t k => st1.trans k) ?_
 refine Goes.ret X1 (v := none) (fun _ => rfl) hlk (by decide) (by decide) rfl (fun fs hr => X1.returnOut hx hret (hb hby d16_6) hr) ?_
 exact ⟨zb1, kz1, rfl, N1, K2, S_z, g_zb1, sz_zb1⟩
theorem ef_rm_sbT (m : MethodId) (x0 : Addr) : entryFrame m #[(.ref x0)] 1 = mkF m 0 #[sR x0] [] := by first | (simp [entryFrame, mkF, argsToLocals, Value.category]; done) | rfl
abbrev M15 : MethodName := ⟨"java/lang/StringBuilder", "toString", "()Ljava/lang/String;"⟩
theorem d15_0 : decode B15 0 = .ok (.new 18, 3) := by decide +kernel
theorem d15_3 : decode B15 3 = .ok (.dup, 1) := by decide +kernel
theorem d15_4 : decode B15 4 = .ok (.aload_n 0, 1) := by decide +kernel
theorem d15_5 : decode B15 5 = .ok (.invokespecial 137, 3) := by decide +kernel
theorem pd__28Ljava_2flang_2fStringBuilder_3b_29V : parseMethodDescriptor "(Ljava/lang/StringBuilder;)V" = some ⟨[(.object "java/lang/StringBuilder")], none⟩ := by decide +kernel
theorem d15_8 : decode B15 8 = .ok (.areturn, 1) := by decide +kernel
def Q_rm_sbT (Z : State) (a : Addr) (b : Addr) (kb : ClassId) (cl : List Int32) (cs : Int32) (h0 : Heap) (n0 : Nat) (v : Option Value) (h : Heap) (L : List Loc) : Prop := ∃ (z : Addr) (zb : Addr) (kz : ClassId), v = some (.ref z) ∧ Fr n0 L ∧ Keep h0 h [] ∧ OwnStr Z h z zb kz cl ∧ n0 ≤ z ∧ h0.size ≤ z ∧ n0 ≤ zb ∧ h0.size ≤ zb
set_option maxRecDepth 65536 in
set_option maxHeartbeats 40000000 in
theorem rm_sbT (l : Launch) (Z : State) (a0 : Array Value) (hw : ∀ d ∈ tables_1, d.before a0 Z = true) (ws : List Jvm.Cond) (a : Addr) (b : Addr) (kb : ClassId) (cl : List Int32) (cs : Int32) (h0 : Heap) (n0 : Nat) (Z0 : n0 ≤ h0.size) (S_a : OwnSB Z h0 a b kb cl) (sC : OCS Z (.int cs)) (hl23 : cl.length ≤ 23) (hcs : ¬ (cs = (0 : Int32))) (O : Old Z n0 h0) :
  Met l Z M15 jdk_67_method_42_code 1 (some (.object "java/lang/String")) ws (Rm 5 2 100 79) #[(.ref a)] h0 (Q_rm_sbT Z a b kb cl cs h0 n0) := by
 refine met_of (plainFor_of_name pn_java_lang_StringBuilder) (own := "java/lang/StringBuilder") rfl (fun m => ef_rm_sbT m a) ?_
 intro p e s m below meth c s₁ hx hby hml hown hnm hZ X0 e0 hret hlk
 have N0 := Fr.nil n0
 have K0 := Keep.refl h0 []
 show Goes p e below s _ _ _ (s₁.setTop (mkF m 0 #[sR a] []))
 obtain ⟨T1, h1, X1, e1, E1, A1, D1, -, st1⟩ := newO X0 hx hZ hown (wq hw 94 rfl) (wq hw 7 rfl) (wq hw 8 rfl) e0 (g := (mkF m 0 #[sR a] [])) rfl (hb hby d15_0) (by decide) (by decide)
 obtain ⟨nb1, g1⟩ : ∃ z, z = h0.size := ⟨_, rfl⟩
 rw [← g1] at A1 D1 st1
 have ne_a_nb1 : a ≠ nb1 := Nat.ne_of_lt (Nat.lt_of_lt_of_le S_a.lt (Nat.le_of_eq g1.symm))
 have ne_nb1_a := ne_a_nb1.symm
 have ne_b_nb1 : b ≠ nb1 := Nat.ne_of_lt (Nat.lt_of_lt_of_le S_a.ltb (Nat.le_of_eq g1.symm))
 have ne_nb1_b := ne_b_nb1.symm
 have g_nb1 : n0 ≤ nb1 := Nat.le_trans Z0 (Nat.le_of_eq g1.symm)
 have sz_nb1 : h0.size ≤ nb1 := Nat.le_trans K0.1 (Nat.le_of_eq g1.symm)
 have S_a := S_a.ext E1
 have O := O.ext E1
 have Z1 : n0 ≤ h1.size := Nat.le_trans Z0 E1.1
 have K1 := K0.ext E1
 have E_nb1 := A1
 have Fv_nb1 : Fld Z h1 nb1 "java/lang/String" "value" "[B" .null := D1 (Or.inr (wq hw 22 rfl)) (ty := (.array .byte)) (by decide)
 have Fc_nb1 : Fld Z h1 nb1 "java/lang/String" "coder" "B" (.int (0 : Int32)) := D1 (Or.inr (wq hw 23 rfl)) (ty := .byte) (by decide)
 refine Goes.pre (U' := T1.setTop (mkF m 5 #[sR a] [(.ref a), (.ref nb1), (.ref nb1)])) (fun t k => st1 t (XS.dup X1.here hx rfl (hb hby d15_3) rfl rfl (XS.aloadN X1.here hx rfl (hb hby d15_4) rfl rfl k))) ?_
 have lt_a := S_a.lt
 have lt_b := S_a.ltb
 have lt_nb1 := E_nb1.lt
 obtain ⟨_, _, ⟨T2, L2, k2, n2⟩, -, X2, ⟨Lc2, hQ2, l2, y2, z2⟩, st2⟩ := X1.specialBack hx (y := M16) rfl hown (mvT hZ (wq hw 95 rfl)) (mvT hZ (wq hw 96 rfl)) (mvT hZ (wq hw 97 rfl)) (by decide) (backOf (W := 1) (rm_siB l Z a0 hw [] nb1 a b kb cl cs h1 n0 Z1 E_nb1 Fv_nb1 Fc_nb1 S_a sC hl23 hcs ne_a_nb1 ne_b_nb1 g_nb1 O) hZ (wq hw 97 rfl) (wq hw 8 rfl) (by decide) (by decide)) (g := (mkF m 5 #[sR a] [(.ref a), (.ref nb1), (.ref nb1)])) rfl (by rw [hml]; rfl) (Steps.refl _) (a := nb1) (argsL := [(.ref a)]) (rest := [(.ref nb1)]) (lenOf pd__28Ljava_2flang_2fStringBuilder_3b_29V rfl) rfl (by show 2 * 0 + _ ≤ _; exact Nat.le_of_eq rfl) (hb hby d15_5) (fun _ _ => ⟨rfl, e1, (by decide : 1 + 1 ≤ _), (by decide : 4 + 96 ≤ _)⟩)
 dsimp only [Pt.U, Pt.locs, Pt.cells, Pt.slots] at X2 l2 y2 z2 st2 hQ2
 subst l2 y2 z2
 obtain ⟨zb2, kz2, rfl, N2q, KQ2, fo0_2, g_zb2, sl_zb2⟩ := hQ2
 have N2 := Fr.app N0 N2q
 have S_a := S_a.keep KQ2 (ninS ne_a_nb1 nin0) (ninS ne_b_nb1 nin0)
 have E_nb1 := E_nb1.keep KQ2
 have Z3 : n0 ≤ T2.heap.size := Nat.le_trans Z1 KQ2.1
 have O := O.keep KQ2 (allS (P := fun x => n0 ≤ x) g_nb1 all0)
 have K3 := K1.trans KQ2 (allS (P := fun x => x ∈ [] ∨ h0.size ≤ x) (Or.inr sz_nb1) all0)
 have ne_a_zb2 : a ≠ zb2 := Nat.ne_of_lt (Nat.lt_of_lt_of_le lt_a sl_zb2)
 have ne_zb2_a := ne_a_zb2.symm
 have ne_b_zb2 : b ≠ zb2 := Nat.ne_of_lt (Nat.lt_of_lt_of_le lt_b sl_zb2)
 have ne_zb2_b := ne_b_zb2.symm
 have ne_nb1_zb2 : nb1 ≠ zb2 := Nat.ne_of_lt (Nat.lt_of_lt_of_le lt_nb1 sl_zb2)
 have ne_zb2_nb1 := ne_nb1_zb2.symm
 have sz_zb2 : h0.size ≤ zb2 := Nat.le_trans K1.1 sl_zb2
 have S_nb1 := fo0_2
 refine Goes.pre (U' := T2.setTop (mkF m 8 #[sR a] [(.ref nb1)])) (fun t k => st2.trans k) ?_
 refine Goes.ret X2 (v := (some (.ref nb1))) (fun h => by rw [hret] at h; cases h) hlk (by decide) (by decide) rfl (fun fs hr => retOut X2 hx hret rfl (Or.inr (Or.inr (Or.inr (Or.inr ⟨rfl, rfl, rfl⟩)))) (hb hby d15_8) hr) ?_
 exact ⟨nb1, zb2, kz2, rfl, N2, K3, S_nb1, g_nb1, sz_nb1, g_zb2, sz_zb2⟩
theorem ef_rm_canI (m : MethodId) (x0 : Int32) : entryFrame m #[(.int x0)] 1 = mkF m 0 #[sI x0] [] := by first | (simp [entryFrame, mkF, argsToLocals, Value.category]; done) | rfl
abbrev M35 : MethodName := ⟨"java/lang/StringLatin1", "canEncode", "(I)Z"⟩
theorem d35_0 : decode B35 0 = .ok (.iload_n 0, 1) := by decide +kernel
theorem d35_1 : decode B35 1 = .ok (.ifCond .lt 14, 3) := by decide +kernel
theorem d35_15 : decode B35 15 = .ok (.iconst 0, 1) := by decide +kernel
theorem d35_16 : decode B35 16 = .ok (.ireturn, 1) := by decide +kernel
theorem d35_4 : decode B35 4 = .ok (.iload_n 0, 1) := by decide +kernel
theorem d35_5 : decode B35 5 = .ok (.sipush 255, 3) := by decide +kernel
theorem d35_8 : decode B35 8 = .ok (.if_icmp .gt 7, 3) := by decide +kernel
theorem d35_11 : decode B35 11 = .ok (.iconst 1, 1) := by decide +kernel
theorem d35_12 : decode B35 12 = .ok (.goto 4, 3) := by decide +kernel
def own_canI (q0_ : Int32) : Int32 := (if q0_ < (0 : Int32) then (0 : Int32) else (if (255 : Int32) < q0_ then (0 : Int32) else (1 : Int32)))
def Q_rm_canI (Z : State) (q0_ : Int32) (h0 : Heap) (n0 : Nat) (v : Option Value) (h : Heap) (L : List Loc) : Prop := v = some (.int (own_canI q0_)) ∧ Fr n0 L ∧ h = h0
set_option maxRecDepth 65536 in
set_option maxHeartbeats 40000000 in
theorem rm_canI (l : Launch) (Z : State) (a0 : Array Value) (hw : ∀ d ∈ tables_1, d.before a0 Z = true) (ws : List Jvm.Cond) (q0_ : Int32) (h0 : Heap) (n0 : Nat) (Z0 : n0 ≤ h0.size)  :
  Met l Z M35 jdk_43_method_4_code 1 (some .boolean) ws (Rm 0 0 0 0) #[(.int q0_)] h0 (Q_rm_canI Z q0_ h0 n0) := by
 refine met_of (plainFor_of_name pn_java_lang_StringLatin1) (own := "java/lang/StringLatin1") rfl (fun m => ef_rm_canI m q0_) ?_
 intro p e s m below meth c s₁ hx hby hml hown hnm hZ X0 e0 hret hlk
 have N0 := Fr.nil n0
 show Goes p e below s _ _ _ (s₁.setTop (mkF m 0 #[sI q0_] []))
 refine Goes.pre (U' := s₁.setTop (mkF m 1 #[sI q0_] [(.int q0_)])) (fun t k => XS.iloadN X0.here hx rfl (hb hby d35_0) rfl k) ?_
 by_cases hc1 : q0_ < (0 : Int32)
 ·
  refine Goes.pre (U' := s₁.setTop (mkF m 16 #[sI q0_] [(.int (0 : Int32))])) (fun t k => XS.ifYes X0.here hx rfl (pc0 := 1) (pc' := 15) rfl (hb hby d35_1) rfl ((if0 _ _).trans (tlt hc1).1) (by decide) (by decide) (XS.iconst X0.here hx rfl (hb hby d35_15) k)) ?_
  refine Goes.ret X0 (v := (some (.int (0 : Int32)))) (fun h => by rw [hret] at h; cases h) hlk (by decide) (by decide) e0 (fun fs hr => retN X0 hx (t := .boolean) hret (by simp) (hb hby d35_16) hr) ?_
  exact ⟨congrArg (fun z => some (Value.int z)) (show (0 : Int32) = own_canI q0_ from (show own_canI q0_ = (0 : Int32) from by unfold own_canI; rw [if_pos hc1]).symm), N0, rfl⟩
 ·
  refine Goes.pre (U' := s₁.setTop (mkF m 8 #[sI q0_] [(.int (255 : Int32)), (.int q0_)])) (fun t k => XS.ifNo X0.here hx rfl (hb hby d35_1) rfl ((if0 _ _).trans (flt hc1).1) (XS.iloadN X0.here hx rfl (hb hby d35_4) rfl (XS.sipush X0.here hx rfl (hb hby d35_5) k))) ?_
  by_cases hc8 : (255 : Int32) < q0_
  ·
   refine Goes.pre (U' := s₁.setTop (mkF m 16 #[sI q0_] [(.int (0 : Int32))])) (fun t k => XS.icmpYes X0.here hx rfl (pc0 := 8) (pc' := 15) rfl (hb hby d35_8) rfl (tlt hc8).2.2.1 (by decide) (by decide) (XS.iconst X0.here hx rfl (hb hby d35_15) k)) ?_
   refine Goes.ret X0 (v := (some (.int (0 : Int32)))) (fun h => by rw [hret] at h; cases h) hlk (by decide) (by decide) e0 (fun fs hr => retN X0 hx (t := .boolean) hret (by simp) (hb hby d35_16) hr) ?_
   exact ⟨congrArg (fun z => some (Value.int z)) (show (0 : Int32) = own_canI q0_ from (show own_canI q0_ = (0 : Int32) from by unfold own_canI; rw [if_neg hc1, if_pos hc8]).symm), N0, rfl⟩
  ·
   refine Goes.pre (U' := s₁.setTop (mkF m 16 #[sI q0_] [(.int (1 : Int32))])) (fun t k => XS.icmpNo X0.here hx rfl (hb hby d35_8) rfl (flt hc8).2.2.1 (XS.iconst X0.here hx rfl (hb hby d35_11) (XS.goto X0.here hx rfl (pc0 := 12) (pc' := 16) rfl (hb hby d35_12) (by decide) (by decide) k))) ?_
   refine Goes.ret X0 (v := (some (.int (1 : Int32)))) (fun h => by rw [hret] at h; cases h) hlk (by decide) (by decide) e0 (fun fs hr => retN X0 hx (t := .boolean) hret (by simp) (hb hby d35_16) hr) ?_
   exact ⟨congrArg (fun z => some (Value.int z)) (show (1 : Int32) = own_canI q0_ from (show own_canI q0_ = (1 : Int32) from by unfold own_canI; rw [if_neg hc1, if_neg hc8]).symm), N0, rfl⟩
theorem ef_rm_max00 (m : MethodId) (x0 : Int32) (x1 : Int32) : entryFrame m #[(.int x0), (.int x1)] 2 = mkF m 0 #[sI x0, sI x1] [] := by first | (simp [entryFrame, mkF, argsToLocals, Value.category]; done) | rfl
def Q_rm_max00 (Z : State)  (h0 : Heap) (n0 : Nat) (v : Option Value) (h : Heap) (L : List Loc) : Prop := v = some (.int (0 : Int32)) ∧ Fr n0 L ∧ h = h0
set_option maxRecDepth 65536 in
set_option maxHeartbeats 40000000 in
theorem rm_max00 (l : Launch) (Z : State) (a0 : Array Value) (hw : ∀ d ∈ tables_1, d.before a0 Z = true) (ws : List Jvm.Cond)  (h0 : Heap) (n0 : Nat) (Z0 : n0 ≤ h0.size)  :
  Met l Z M36 jdk_29_method_65_code 2 (some .int) ws (Rm 0 0 0 0) #[(.int (0 : Int32)), (.int (0 : Int32))] h0 (Q_rm_max00 Z  h0 n0) := by
 refine met_of (Jvm.Free.JP.mathPlain rfl (by decide +kernel)) (own := "java/lang/Math") rfl (fun m => ef_rm_max00 m (0 : Int32) (0 : Int32)) ?_
 intro p e s m below meth c s₁ hx hby hml hown hnm hZ X0 e0 hret hlk
 have N0 := Fr.nil n0
 show Goes p e below s _ _ _ (s₁.setTop (mkF m 0 #[sI (0 : Int32), sI (0 : Int32)] []))
 refine Goes.pre (U' := s₁.setTop (mkF m 2 #[sI (0 : Int32), sI (0 : Int32)] [(.int (0 : Int32)), (.int (0 : Int32))])) (fun t k => XS.iloadN X0.here hx rfl (hb hby d36_0) rfl (XS.iloadN X0.here hx rfl (hb hby d36_1) rfl k)) ?_
 have hc2 : ¬ ((0 : Int32) < (0 : Int32)) := by decide
 refine Goes.pre (U' := s₁.setTop (mkF m 10 #[sI (0 : Int32), sI (0 : Int32)] [(.int (0 : Int32))])) (fun t k => XS.icmpNo X0.here hx rfl (hb hby d36_2) rfl (flt hc2).1 (XS.iloadN X0.here hx rfl (hb hby d36_5) rfl (XS.goto X0.here hx rfl (pc0 := 6) (pc' := 10) rfl (hb hby d36_6) (by decide) (by decide) k))) ?_
 refine Goes.ret X0 (v := (some (.int (0 : Int32)))) (fun h => by rw [hret] at h; cases h) hlk (by decide) (by decide) e0 (fun fs hr => retI X0 hx hret (hb hby d36_10) hr) ?_
 exact ⟨rfl, N0, rfl⟩
theorem ef_rm_min99 (m : MethodId) (x0 : Int32) (x1 : Int32) : entryFrame m #[(.int x0), (.int x1)] 2 = mkF m 0 #[sI x0, sI x1] [] := by first | (simp [entryFrame, mkF, argsToLocals, Value.category]; done) | rfl
def Q_rm_min99 (Z : State)  (h0 : Heap) (n0 : Nat) (v : Option Value) (h : Heap) (L : List Loc) : Prop := v = some (.int (9 : Int32)) ∧ Fr n0 L ∧ h = h0
set_option maxRecDepth 65536 in
set_option maxHeartbeats 40000000 in
theorem rm_min99 (l : Launch) (Z : State) (a0 : Array Value) (hw : ∀ d ∈ tables_1, d.before a0 Z = true) (ws : List Jvm.Cond)  (h0 : Heap) (n0 : Nat) (Z0 : n0 ≤ h0.size)  :
  Met l Z M37 jdk_29_method_69_code 2 (some .int) ws (Rm 0 0 0 0) #[(.int (9 : Int32)), (.int (9 : Int32))] h0 (Q_rm_min99 Z  h0 n0) := by
 refine met_of (Jvm.Free.JP.mathPlain rfl (by decide +kernel)) (own := "java/lang/Math") rfl (fun m => ef_rm_min99 m (9 : Int32) (9 : Int32)) ?_
 intro p e s m below meth c s₁ hx hby hml hown hnm hZ X0 e0 hret hlk
 have N0 := Fr.nil n0
 show Goes p e below s _ _ _ (s₁.setTop (mkF m 0 #[sI (9 : Int32), sI (9 : Int32)] []))
 refine Goes.pre (U' := s₁.setTop (mkF m 2 #[sI (9 : Int32), sI (9 : Int32)] [(.int (9 : Int32)), (.int (9 : Int32))])) (fun t k => XS.iloadN X0.here hx rfl (hb hby d37_0) rfl (XS.iloadN X0.here hx rfl (hb hby d37_1) rfl k)) ?_
 have hc2 : ¬ ((9 : Int32) < (9 : Int32)) := by decide
 refine Goes.pre (U' := s₁.setTop (mkF m 10 #[sI (9 : Int32), sI (9 : Int32)] [(.int (9 : Int32))])) (fun t k => XS.icmpNo X0.here hx rfl (hb hby d37_2) rfl (flt hc2).2.2.1 (XS.iloadN X0.here hx rfl (hb hby d37_5) rfl (XS.goto X0.here hx rfl (pc0 := 6) (pc' := 10) rfl (hb hby d37_6) (by decide) (by decide) k))) ?_
 refine Goes.ret X0 (v := (some (.int (9 : Int32)))) (fun h => by rw [hret] at h; cases h) hlk (by decide) (by decide) e0 (fun fs hr => retI X0 hx hret (hb hby d37_10) hr) ?_
 exact ⟨rfl, N0, rfl⟩
theorem ef_rm_ioc (m : MethodId) (x0 : Addr) (x1 : Int32) (x2 : Int32) (x3 : Int32) : entryFrame m #[(.ref x0), (.int x1), (.int x2), (.int x3)] 6 = mkF m 0 #[sR x0, sI x1, sI x2, sI x3, .unset, .unset] [] := by first | (simp [entryFrame, mkF, argsToLocals, Value.category]; done) | rfl
abbrev M38 : MethodName := ⟨"java/lang/StringLatin1", "indexOfChar", "([BIII)I"⟩
theorem d38_0 : decode B38 0 = .ok (.iload_n 1, 1) := by decide +kernel
theorem d38_1 : decode B38 1 = .ok (.i2b, 1) := by decide +kernel
theorem d38_2 : decode B38 2 = .ok (.istore 4, 2) := by decide +kernel
theorem d38_4 : decode B38 4 = .ok (.iload_n 2, 1) := by decide +kernel
theorem d38_5 : decode B38 5 = .ok (.istore 5, 2) := by decide +kernel
theorem d38_7 : decode B38 7 = .ok (.iload 5, 2) := by decide +kernel
theorem d38_9 : decode B38 9 = .ok (.iload_n 3, 1) := by decide +kernel
theorem d38_10 : decode B38 10 = .ok (.if_icmp .ge 21, 3) := by decide +kernel
theorem d38_13 : decode B38 13 = .ok (.aload_n 0, 1) := by decide +kernel
theorem d38_14 : decode B38 14 = .ok (.iload 5, 2) := by decide +kernel
theorem d38_16 : decode B38 16 = .ok (.baload, 1) := by decide +kernel
theorem d38_17 : decode B38 17 = .ok (.iload 4, 2) := by decide +kernel
theorem d38_19 : decode B38 19 = .ok (.if_icmp .ne 6, 3) := by decide +kernel
theorem d38_22 : decode B38 22 = .ok (.iload 5, 2) := by decide +kernel
theorem d38_24 : decode B38 24 = .ok (.ireturn, 1) := by decide +kernel
theorem d38_25 : decode B38 25 = .ok (.iinc 5 1, 3) := by decide +kernel
theorem d38_28 : decode B38 28 = .ok (.goto (-21), 3) := by decide +kernel
theorem d38_31 : decode B38 31 = .ok (.iconst (-1), 1) := by decide +kernel
theorem d38_32 : decode B38 32 = .ok (.ireturn, 1) := by decide +kernel
def own_ioc (ch : Int32) : Int32 := (if (60 : Int32) = (ch.toInt8.toInt32) then (0 : Int32) else (if (62 : Int32) = (ch.toInt8.toInt32) then (1 : Int32) else (if (34 : Int32) = (ch.toInt8.toInt32) then (2 : Int32) else (if (123 : Int32) = (ch.toInt8.toInt32) then (3 : Int32) else (if (125 : Int32) = (ch.toInt8.toInt32) then (4 : Int32) else (if (124 : Int32) = (ch.toInt8.toInt32) then (5 : Int32) else (if (94 : Int32) = (ch.toInt8.toInt32) then (6 : Int32) else (if (96 : Int32) = (ch.toInt8.toInt32) then (7 : Int32) else (if (92 : Int32) = (ch.toInt8.toInt32) then (8 : Int32) else (-1 : Int32))))))))))
def Q_rm_ioc (Z : State) (b : Addr) (kb : ClassId) (ch : Int32) (h0 : Heap) (n0 : Nat) (v : Option Value) (h : Heap) (L : List Loc) : Prop := v = some (.int (own_ioc ch)) ∧ Fr n0 L ∧ h = h0
set_option maxRecDepth 65536 in
set_option maxHeartbeats 40000000 in
theorem rm_ioc (l : Launch) (Z : State) (a0 : Array Value) (hw : ∀ d ∈ tables_1, d.before a0 Z = true) (ws : List Jvm.Cond) (b : Addr) (kb : ClassId) (ch : Int32) (h0 : Heap) (n0 : Nat) (Z0 : n0 ≤ h0.size) (V_b : Arv Z h0 b kb .byte (9 : Int32) [(.int (60 : Int32)), (.int (62 : Int32)), (.int (34 : Int32)), (.int (123 : Int32)), (.int (125 : Int32)), (.int (124 : Int32)), (.int (94 : Int32)), (.int (96 : Int32)), (.int (92 : Int32))] (.int (0 : Int32))) :
  Met l Z M38 jdk_43_method_23_code 6 (some .int) ws (Rm 0 0 0 0) #[(.ref b), (.int ch), (.int (0 : Int32)), (.int (9 : Int32))] h0 (Q_rm_ioc Z b kb ch h0 n0) := by
 refine met_of (plainFor_of_name pn_java_lang_StringLatin1) (own := "java/lang/StringLatin1") rfl (fun m => ef_rm_ioc m b ch (0 : Int32) (9 : Int32)) ?_
 intro p e s m below meth c s₁ hx hby hml hown hnm hZ X0 e0 hret hlk
 have N0 := Fr.nil n0
 show Goes p e below s _ _ _ (s₁.setTop (mkF m 0 #[sR b, sI ch, sI (0 : Int32), sI (9 : Int32), .unset, .unset] []))
 refine Goes.pre (U' := s₁.setTop (mkF m 10 #[sR b, sI ch, sI (0 : Int32), sI (9 : Int32), sI (ch.toInt8.toInt32), sI (0 : Int32)] [(.int (9 : Int32)), (.int (0 : Int32))])) (fun t k => XS.iloadN X0.here hx rfl (hb hby d38_0) rfl (XS.i2b X0.here hx rfl (hb hby d38_1) rfl (XS.istore X0.here hx rfl (hb hby d38_2) rfl (l' := #[sR b, sI ch, sI (0 : Int32), sI (9 : Int32), sI (ch.toInt8.toInt32), .unset]) rfl (XS.iloadN X0.here hx rfl (hb hby d38_4) rfl (XS.istore X0.here hx rfl (hb hby d38_5) rfl (l' := #[sR b, sI ch, sI (0 : Int32), sI (9 : Int32), sI (ch.toInt8.toInt32), sI (0 : Int32)]) rfl (XS.iload X0.here hx rfl (hb hby d38_7) rfl (XS.iloadN X0.here hx rfl (hb hby d38_9) rfl k))))))) ?_
 have hc10 : (0 : Int32) < (9 : Int32) := by decide
 refine Goes.pre (U' := s₁.setTop (mkF m 16 #[sR b, sI ch, sI (0 : Int32), sI (9 : Int32), sI (ch.toInt8.toInt32), sI (0 : Int32)] [(.int (0 : Int32)), (.ref b)])) (fun t k => XS.icmpNo X0.here hx rfl (hb hby d38_10) rfl (tlt hc10).2.1 (XS.aloadN X0.here hx rfl (hb hby d38_13) rfl rfl (XS.iload X0.here hx rfl (hb hby d38_14) rfl k))) ?_
 obtain ⟨cl1, Ar1, q1, Sz1, Ng1, Hs1, Ft1⟩ := id V_b
 have hin1 := inb_of (j := (0 : Int32)) Sz1 ⟨by decide, by decide⟩
 refine Goes.pre (U' := s₁.setTop (mkF m 19 #[sR b, sI ch, sI (0 : Int32), sI (9 : Int32), sI (ch.toInt8.toInt32), sI (0 : Int32)] [(.int (ch.toInt8.toInt32)), (.int (60 : Int32))])) (fun t k => X0.baloadBytes hx (j := (0 : Int32)) (v := (.int (60 : Int32))) (by rw [e0]; exact Ar1.1) (State.isArrayOf_alike hZ.alike Ar1.2.1) Ar1.2.2 hin1 (Has.at Hs1 hin1 rfl) (g := (mkF m 16 #[sR b, sI ch, sI (0 : Int32), sI (9 : Int32), sI (ch.toInt8.toInt32), sI (0 : Int32)] [(.int (0 : Int32)), (.ref b)])) rfl rfl (hb hby d38_16) _ (XS.iload X0.here hx rfl (hb hby d38_17) rfl k)) ?_
 by_cases hc19 : (60 : Int32) = (ch.toInt8.toInt32)
 ·
  refine Goes.pre (U' := s₁.setTop (mkF m 24 #[sR b, sI ch, sI (0 : Int32), sI (9 : Int32), sI (ch.toInt8.toInt32), sI (0 : Int32)] [(.int (0 : Int32))])) (fun t k => XS.icmpNo X0.here hx rfl (hb hby d38_19) rfl (teq hc19).2 (XS.iload X0.here hx rfl (hb hby d38_22) rfl k)) ?_
  refine Goes.ret X0 (v := (some (.int (0 : Int32)))) (fun h => by rw [hret] at h; cases h) hlk (by decide) (by decide) e0 (fun fs hr => retI X0 hx hret (hb hby d38_24) hr) ?_
  exact ⟨congrArg (fun z => some (Value.int z)) (show (0 : Int32) = own_ioc ch from (show own_ioc ch = (0 : Int32) from by unfold own_ioc; rw [if_pos hc19]).symm), N0, rfl⟩
 ·
  refine Goes.pre (U' := s₁.setTop (mkF m 28 #[sR b, sI ch, sI (0 : Int32), sI (9 : Int32), sI (ch.toInt8.toInt32), .val (.int ((0 : Int32) + (1 : Int32)))] [])) (fun t k => XS.icmpYes X0.here hx rfl (pc0 := 19) (pc' := 25) rfl (hb hby d38_19) rfl (feq hc19).2 (by decide) (by decide) (XT.iincV X0.here hx rfl (1 : Int32) (hb hby d38_25) (by decide) rfl (l' := #[sR b, sI ch, sI (0 : Int32), sI (9 : Int32), sI (ch.toInt8.toInt32), .val (.int ((0 : Int32) + (1 : Int32)))]) rfl k)) ?_
  rw [(by decide : ((0 : Int32) + (1 : Int32)) = (1 : Int32))]
  refine Goes.pre (U' := s₁.setTop (mkF m 10 #[sR b, sI ch, sI (0 : Int32), sI (9 : Int32), sI (ch.toInt8.toInt32), sI (1 : Int32)] [(.int (9 : Int32)), (.int (1 : Int32))])) (fun t k => XS.goto X0.here hx rfl (pc0 := 28) (pc' := 7) rfl (hb hby d38_28) (by decide) (by decide) (XS.iload X0.here hx rfl (hb hby d38_7) rfl (XS.iloadN X0.here hx rfl (hb hby d38_9) rfl k))) ?_
  have hc10 : (1 : Int32) < (9 : Int32) := by decide
  refine Goes.pre (U' := s₁.setTop (mkF m 16 #[sR b, sI ch, sI (0 : Int32), sI (9 : Int32), sI (ch.toInt8.toInt32), sI (1 : Int32)] [(.int (1 : Int32)), (.ref b)])) (fun t k => XS.icmpNo X0.here hx rfl (hb hby d38_10) rfl (tlt hc10).2.1 (XS.aloadN X0.here hx rfl (hb hby d38_13) rfl rfl (XS.iload X0.here hx rfl (hb hby d38_14) rfl k))) ?_
  obtain ⟨cl2, Ar2, q2, Sz2, Ng2, Hs2, Ft2⟩ := id V_b
  have hin2 := inb_of (j := (1 : Int32)) Sz2 ⟨by decide, by decide⟩
  refine Goes.pre (U' := s₁.setTop (mkF m 19 #[sR b, sI ch, sI (0 : Int32), sI (9 : Int32), sI (ch.toInt8.toInt32), sI (1 : Int32)] [(.int (ch.toInt8.toInt32)), (.int (62 : Int32))])) (fun t k => X0.baloadBytes hx (j := (1 : Int32)) (v := (.int (62 : Int32))) (by rw [e0]; exact Ar2.1) (State.isArrayOf_alike hZ.alike Ar2.2.1) Ar2.2.2 hin2 (Has.at Hs2 hin2 rfl) (g := (mkF m 16 #[sR b, sI ch, sI (0 : Int32), sI (9 : Int32), sI (ch.toInt8.toInt32), sI (1 : Int32)] [(.int (1 : Int32)), (.ref b)])) rfl rfl (hb hby d38_16) _ (XS.iload X0.here hx rfl (hb hby d38_17) rfl k)) ?_
  by_cases hc19_2 : (62 : Int32) = (ch.toInt8.toInt32)
  ·
   refine Goes.pre (U' := s₁.setTop (mkF m 24 #[sR b, sI ch, sI (0 : Int32), sI (9 : Int32), sI (ch.toInt8.toInt32), sI (1 : Int32)] [(.int (1 : Int32))])) (fun t k => XS.icmpNo X0.here hx rfl (hb hby d38_19) rfl (teq hc19_2).2 (XS.iload X0.here hx rfl (hb hby d38_22) rfl k)) ?_
   refine Goes.ret X0 (v := (some (.int (1 : Int32)))) (fun h => by rw [hret] at h; cases h) hlk (by decide) (by decide) e0 (fun fs hr => retI X0 hx hret (hb hby d38_24) hr) ?_
   exact ⟨congrArg (fun z => some (Value.int z)) (show (1 : Int32) = own_ioc ch from (show own_ioc ch = (1 : Int32) from by unfold own_ioc; rw [if_neg hc19, if_pos hc19_2]).symm), N0, rfl⟩
  ·
   refine Goes.pre (U' := s₁.setTop (mkF m 28 #[sR b, sI ch, sI (0 : Int32), sI (9 : Int32), sI (ch.toInt8.toInt32), .val (.int ((1 : Int32) + (1 : Int32)))] [])) (fun t k => XS.icmpYes X0.here hx rfl (pc0 := 19) (pc' := 25) rfl (hb hby d38_19) rfl (feq hc19_2).2 (by decide) (by decide) (XT.iincV X0.here hx rfl (1 : Int32) (hb hby d38_25) (by decide) rfl (l' := #[sR b, sI ch, sI (0 : Int32), sI (9 : Int32), sI (ch.toInt8.toInt32), .val (.int ((1 : Int32) + (1 : Int32)))]) rfl k)) ?_
   rw [(by decide : ((1 : Int32) + (1 : Int32)) = (2 : Int32))]
   refine Goes.pre (U' := s₁.setTop (mkF m 10 #[sR b, sI ch, sI (0 : Int32), sI (9 : Int32), sI (ch.toInt8.toInt32), sI (2 : Int32)] [(.int (9 : Int32)), (.int (2 : Int32))])) (fun t k => XS.goto X0.here hx rfl (pc0 := 28) (pc' := 7) rfl (hb hby d38_28) (by decide) (by decide) (XS.iload X0.here hx rfl (hb hby d38_7) rfl (XS.iloadN X0.here hx rfl (hb hby d38_9) rfl k))) ?_
   have hc10 : (2 : Int32) < (9 : Int32) := by decide
   refine Goes.pre (U' := s₁.setTop (mkF m 16 #[sR b, sI ch, sI (0 : Int32), sI (9 : Int32), sI (ch.toInt8.toInt32), sI (2 : Int32)] [(.int (2 : Int32)), (.ref b)])) (fun t k => XS.icmpNo X0.here hx rfl (hb hby d38_10) rfl (tlt hc10).2.1 (XS.aloadN X0.here hx rfl (hb hby d38_13) rfl rfl (XS.iload X0.here hx rfl (hb hby d38_14) rfl k))) ?_
   obtain ⟨cl3, Ar3, q3, Sz3, Ng3, Hs3, Ft3⟩ := id V_b
   have hin3 := inb_of (j := (2 : Int32)) Sz3 ⟨by decide, by decide⟩
   refine Goes.pre (U' := s₁.setTop (mkF m 19 #[sR b, sI ch, sI (0 : Int32), sI (9 : Int32), sI (ch.toInt8.toInt32), sI (2 : Int32)] [(.int (ch.toInt8.toInt32)), (.int (34 : Int32))])) (fun t k => X0.baloadBytes hx (j := (2 : Int32)) (v := (.int (34 : Int32))) (by rw [e0]; exact Ar3.1) (State.isArrayOf_alike hZ.alike Ar3.2.1) Ar3.2.2 hin3 (Has.at Hs3 hin3 rfl) (g := (mkF m 16 #[sR b, sI ch, sI (0 : Int32), sI (9 : Int32), sI (ch.toInt8.toInt32), sI (2 : Int32)] [(.int (2 : Int32)), (.ref b)])) rfl rfl (hb hby d38_16) _ (XS.iload X0.here hx rfl (hb hby d38_17) rfl k)) ?_
   by_cases hc19_3 : (34 : Int32) = (ch.toInt8.toInt32)
   ·
    refine Goes.pre (U' := s₁.setTop (mkF m 24 #[sR b, sI ch, sI (0 : Int32), sI (9 : Int32), sI (ch.toInt8.toInt32), sI (2 : Int32)] [(.int (2 : Int32))])) (fun t k => XS.icmpNo X0.here hx rfl (hb hby d38_19) rfl (teq hc19_3).2 (XS.iload X0.here hx rfl (hb hby d38_22) rfl k)) ?_
    refine Goes.ret X0 (v := (some (.int (2 : Int32)))) (fun h => by rw [hret] at h; cases h) hlk (by decide) (by decide) e0 (fun fs hr => retI X0 hx hret (hb hby d38_24) hr) ?_
    exact ⟨congrArg (fun z => some (Value.int z)) (show (2 : Int32) = own_ioc ch from (show own_ioc ch = (2 : Int32) from by unfold own_ioc; rw [if_neg hc19, if_neg hc19_2, if_pos hc19_3]).symm), N0, rfl⟩
   ·
    refine Goes.pre (U' := s₁.setTop (mkF m 28 #[sR b, sI ch, sI (0 : Int32), sI (9 : Int32), sI (ch.toInt8.toInt32), .val (.int ((2 : Int32) + (1 : Int32)))] [])) (fun t k => XS.icmpYes X0.here hx rfl (pc0 := 19) (pc' := 25) rfl (hb hby d38_19) rfl (feq hc19_3).2 (by decide) (by decide) (XT.iincV X0.here hx rfl (1 : Int32) (hb hby d38_25) (by decide) rfl (l' := #[sR b, sI ch, sI (0 : Int32), sI (9 : Int32), sI (ch.toInt8.toInt32), .val (.int ((2 : Int32) + (1 : Int32)))]) rfl k)) ?_
    rw [(by decide : ((2 : Int32) + (1 : Int32)) = (3 : Int32))]
    refine Goes.pre (U' := s₁.setTop (mkF m 10 #[sR b, sI ch, sI (0 : Int32), sI (9 : Int32), sI (ch.toInt8.toInt32), sI (3 : Int32)] [(.int (9 : Int32)), (.int (3 : Int32))])) (fun t k => XS.goto X0.here hx rfl (pc0 := 28) (pc' := 7) rfl (hb hby d38_28) (by decide) (by decide) (XS.iload X0.here hx rfl (hb hby d38_7) rfl (XS.iloadN X0.here hx rfl (hb hby d38_9) rfl k))) ?_
    have hc10 : (3 : Int32) < (9 : Int32) := by decide
    refine Goes.pre (U' := s₁.setTop (mkF m 16 #[sR b, sI ch, sI (0 : Int32), sI (9 : Int32), sI (ch.toInt8.toInt32), sI (3 : Int32)] [(.int (3 : Int32)), (.ref b)])) (fun t k => XS.icmpNo X0.here hx rfl (hb hby d38_10) rfl (tlt hc10).2.1 (XS.aloadN X0.here hx rfl (hb hby d38_13) rfl rfl (XS.iload X0.here hx rfl (hb hby d38_14) rfl k))) ?_
    obtain ⟨cl4, Ar4, q4, Sz4, Ng4, Hs4, Ft4⟩ := id V_b
    have hin4 := inb_of (j := (3 : Int32)) Sz4 ⟨by decide, by decide⟩
    refine Goes.pre (U' := s₁.setTop (mkF m 19 #[sR b, sI ch, sI (0 : Int32), sI (9 : Int32), sI (ch.toInt8.toInt32), sI (3 : Int32)] [(.int (ch.toInt8.toInt32)), (.int (123 : Int32))])) (fun t k => X0.baloadBytes hx (j := (3 : Int32)) (v := (.int (123 : Int32))) (by rw [e0]; exact Ar4.1) (State.isArrayOf_alike hZ.alike Ar4.2.1) Ar4.2.2 hin4 (Has.at Hs4 hin4 rfl) (g := (mkF m 16 #[sR b, sI ch, sI (0 : Int32), sI (9 : Int32), sI (ch.toInt8.toInt32), sI (3 : Int32)] [(.int (3 : Int32)), (.ref b)])) rfl rfl (hb hby d38_16) _ (XS.iload X0.here hx rfl (hb hby d38_17) rfl k)) ?_
    by_cases hc19_4 : (123 : Int32) = (ch.toInt8.toInt32)
    ·
     refine Goes.pre (U' := s₁.setTop (mkF m 24 #[sR b, sI ch, sI (0 : Int32), sI (9 : Int32), sI (ch.toInt8.toInt32), sI (3 : Int32)] [(.int (3 : Int32))])) (fun t k => XS.icmpNo X0.here hx rfl (hb hby d38_19) rfl (teq hc19_4).2 (XS.iload X0.here hx rfl (hb hby d38_22) rfl k)) ?_
     refine Goes.ret X0 (v := (some (.int (3 : Int32)))) (fun h => by rw [hret] at h; cases h) hlk (by decide) (by decide) e0 (fun fs hr => retI X0 hx hret (hb hby d38_24) hr) ?_
     exact ⟨congrArg (fun z => some (Value.int z)) (show (3 : Int32) = own_ioc ch from (show own_ioc ch = (3 : Int32) from by unfold own_ioc; rw [if_neg hc19, if_neg hc19_2, if_neg hc19_3, if_pos hc19_4]).symm), N0, rfl⟩
    ·
     refine Goes.pre (U' := s₁.setTop (mkF m 28 #[sR b, sI ch, sI (0 : Int32), sI (9 : Int32), sI (ch.toInt8.toInt32), .val (.int ((3 : Int32) + (1 : Int32)))] [])) (fun t k => XS.icmpYes X0.here hx rfl (pc0 := 19) (pc' := 25) rfl (hb hby d38_19) rfl (feq hc19_4).2 (by decide) (by decide) (XT.iincV X0.here hx rfl (1 : Int32) (hb hby d38_25) (by decide) rfl (l' := #[sR b, sI ch, sI (0 : Int32), sI (9 : Int32), sI (ch.toInt8.toInt32), .val (.int ((3 : Int32) + (1 : Int32)))]) rfl k)) ?_
     rw [(by decide : ((3 : Int32) + (1 : Int32)) = (4 : Int32))]
     refine Goes.pre (U' := s₁.setTop (mkF m 10 #[sR b, sI ch, sI (0 : Int32), sI (9 : Int32), sI (ch.toInt8.toInt32), sI (4 : Int32)] [(.int (9 : Int32)), (.int (4 : Int32))])) (fun t k => XS.goto X0.here hx rfl (pc0 := 28) (pc' := 7) rfl (hb hby d38_28) (by decide) (by decide) (XS.iload X0.here hx rfl (hb hby d38_7) rfl (XS.iloadN X0.here hx rfl (hb hby d38_9) rfl k))) ?_
     have hc10 : (4 : Int32) < (9 : Int32) := by decide
     refine Goes.pre (U' := s₁.setTop (mkF m 16 #[sR b, sI ch, sI (0 : Int32), sI (9 : Int32), sI (ch.toInt8.toInt32), sI (4 : Int32)] [(.int (4 : Int32)), (.ref b)])) (fun t k => XS.icmpNo X0.here hx rfl (hb hby d38_10) rfl (tlt hc10).2.1 (XS.aloadN X0.here hx rfl (hb hby d38_13) rfl rfl (XS.iload X0.here hx rfl (hb hby d38_14) rfl k))) ?_
     obtain ⟨cl5, Ar5, q5, Sz5, Ng5, Hs5, Ft5⟩ := id V_b
     have hin5 := inb_of (j := (4 : Int32)) Sz5 ⟨by decide, by decide⟩
     refine Goes.pre (U' := s₁.setTop (mkF m 19 #[sR b, sI ch, sI (0 : Int32), sI (9 : Int32), sI (ch.toInt8.toInt32), sI (4 : Int32)] [(.int (ch.toInt8.toInt32)), (.int (125 : Int32))])) (fun t k => X0.baloadBytes hx (j := (4 : Int32)) (v := (.int (125 : Int32))) (by rw [e0]; exact Ar5.1) (State.isArrayOf_alike hZ.alike Ar5.2.1) Ar5.2.2 hin5 (Has.at Hs5 hin5 rfl) (g := (mkF m 16 #[sR b, sI ch, sI (0 : Int32), sI (9 : Int32), sI (ch.toInt8.toInt32), sI (4 : Int32)] [(.int (4 : Int32)), (.ref b)])) rfl rfl (hb hby d38_16) _ (XS.iload X0.here hx rfl (hb hby d38_17) rfl k)) ?_
     by_cases hc19_5 : (125 : Int32) = (ch.toInt8.toInt32)
     ·
      refine Goes.pre (U' := s₁.setTop (mkF m 24 #[sR b, sI ch, sI (0 : Int32), sI (9 : Int32), sI (ch.toInt8.toInt32), sI (4 : Int32)] [(.int (4 : Int32))])) (fun t k => XS.icmpNo X0.here hx rfl (hb hby d38_19) rfl (teq hc19_5).2 (XS.iload X0.here hx rfl (hb hby d38_22) rfl k)) ?_
      refine Goes.ret X0 (v := (some (.int (4 : Int32)))) (fun h => by rw [hret] at h; cases h) hlk (by decide) (by decide) e0 (fun fs hr => retI X0 hx hret (hb hby d38_24) hr) ?_
      exact ⟨congrArg (fun z => some (Value.int z)) (show (4 : Int32) = own_ioc ch from (show own_ioc ch = (4 : Int32) from by unfold own_ioc; rw [if_neg hc19, if_neg hc19_2, if_neg hc19_3, if_neg hc19_4, if_pos hc19_5]).symm), N0, rfl⟩
     ·
      refine Goes.pre (U' := s₁.setTop (mkF m 28 #[sR b, sI ch, sI (0 : Int32), sI (9 : Int32), sI (ch.toInt8.toInt32), .val (.int ((4 : Int32) + (1 : Int32)))] [])) (fun t k => XS.icmpYes X0.here hx rfl (pc0 := 19) (pc' := 25) rfl (hb hby d38_19) rfl (feq hc19_5).2 (by decide) (by decide) (XT.iincV X0.here hx rfl (1 : Int32) (hb hby d38_25) (by decide) rfl (l' := #[sR b, sI ch, sI (0 : Int32), sI (9 : Int32), sI (ch.toInt8.toInt32), .val (.int ((4 : Int32) + (1 : Int32)))]) rfl k)) ?_
      rw [(by decide : ((4 : Int32) + (1 : Int32)) = (5 : Int32))]
      refine Goes.pre (U' := s₁.setTop (mkF m 10 #[sR b, sI ch, sI (0 : Int32), sI (9 : Int32), sI (ch.toInt8.toInt32), sI (5 : Int32)] [(.int (9 : Int32)), (.int (5 : Int32))])) (fun t k => XS.goto X0.here hx rfl (pc0 := 28) (pc' := 7) rfl (hb hby d38_28) (by decide) (by decide) (XS.iload X0.here hx rfl (hb hby d38_7) rfl (XS.iloadN X0.here hx rfl (hb hby d38_9) rfl k))) ?_
      have hc10 : (5 : Int32) < (9 : Int32) := by decide
      refine Goes.pre (U' := s₁.setTop (mkF m 16 #[sR b, sI ch, sI (0 : Int32), sI (9 : Int32), sI (ch.toInt8.toInt32), sI (5 : Int32)] [(.int (5 : Int32)), (.ref b)])) (fun t k => XS.icmpNo X0.here hx rfl (hb hby d38_10) rfl (tlt hc10).2.1 (XS.aloadN X0.here hx rfl (hb hby d38_13) rfl rfl (XS.iload X0.here hx rfl (hb hby d38_14) rfl k))) ?_
      obtain ⟨cl6, Ar6, q6, Sz6, Ng6, Hs6, Ft6⟩ := id V_b
      have hin6 := inb_of (j := (5 : Int32)) Sz6 ⟨by decide, by decide⟩
      refine Goes.pre (U' := s₁.setTop (mkF m 19 #[sR b, sI ch, sI (0 : Int32), sI (9 : Int32), sI (ch.toInt8.toInt32), sI (5 : Int32)] [(.int (ch.toInt8.toInt32)), (.int (124 : Int32))])) (fun t k => X0.baloadBytes hx (j := (5 : Int32)) (v := (.int (124 : Int32))) (by rw [e0]; exact Ar6.1) (State.isArrayOf_alike hZ.alike Ar6.2.1) Ar6.2.2 hin6 (Has.at Hs6 hin6 rfl) (g := (mkF m 16 #[sR b, sI ch, sI (0 : Int32), sI (9 : Int32), sI (ch.toInt8.toInt32), sI (5 : Int32)] [(.int (5 : Int32)), (.ref b)])) rfl rfl (hb hby d38_16) _ (XS.iload X0.here hx rfl (hb hby d38_17) rfl k)) ?_
      by_cases hc19_6 : (124 : Int32) = (ch.toInt8.toInt32)
      ·
       refine Goes.pre (U' := s₁.setTop (mkF m 24 #[sR b, sI ch, sI (0 : Int32), sI (9 : Int32), sI (ch.toInt8.toInt32), sI (5 : Int32)] [(.int (5 : Int32))])) (fun t k => XS.icmpNo X0.here hx rfl (hb hby d38_19) rfl (teq hc19_6).2 (XS.iload X0.here hx rfl (hb hby d38_22) rfl k)) ?_
       refine Goes.ret X0 (v := (some (.int (5 : Int32)))) (fun h => by rw [hret] at h; cases h) hlk (by decide) (by decide) e0 (fun fs hr => retI X0 hx hret (hb hby d38_24) hr) ?_
       exact ⟨congrArg (fun z => some (Value.int z)) (show (5 : Int32) = own_ioc ch from (show own_ioc ch = (5 : Int32) from by unfold own_ioc; rw [if_neg hc19, if_neg hc19_2, if_neg hc19_3, if_neg hc19_4, if_neg hc19_5, if_pos hc19_6]).symm), N0, rfl⟩
      ·
       refine Goes.pre (U' := s₁.setTop (mkF m 28 #[sR b, sI ch, sI (0 : Int32), sI (9 : Int32), sI (ch.toInt8.toInt32), .val (.int ((5 : Int32) + (1 : Int32)))] [])) (fun t k => XS.icmpYes X0.here hx rfl (pc0 := 19) (pc' := 25) rfl (hb hby d38_19) rfl (feq hc19_6).2 (by decide) (by decide) (XT.iincV X0.here hx rfl (1 : Int32) (hb hby d38_25) (by decide) rfl (l' := #[sR b, sI ch, sI (0 : Int32), sI (9 : Int32), sI (ch.toInt8.toInt32), .val (.int ((5 : Int32) + (1 : Int32)))]) rfl k)) ?_
       rw [(by decide : ((5 : Int32) + (1 : Int32)) = (6 : Int32))]
       refine Goes.pre (U' := s₁.setTop (mkF m 10 #[sR b, sI ch, sI (0 : Int32), sI (9 : Int32), sI (ch.toInt8.toInt32), sI (6 : Int32)] [(.int (9 : Int32)), (.int (6 : Int32))])) (fun t k => XS.goto X0.here hx rfl (pc0 := 28) (pc' := 7) rfl (hb hby d38_28) (by decide) (by decide) (XS.iload X0.here hx rfl (hb hby d38_7) rfl (XS.iloadN X0.here hx rfl (hb hby d38_9) rfl k))) ?_
       have hc10 : (6 : Int32) < (9 : Int32) := by decide
       refine Goes.pre (U' := s₁.setTop (mkF m 16 #[sR b, sI ch, sI (0 : Int32), sI (9 : Int32), sI (ch.toInt8.toInt32), sI (6 : Int32)] [(.int (6 : Int32)), (.ref b)])) (fun t k => XS.icmpNo X0.here hx rfl (hb hby d38_10) rfl (tlt hc10).2.1 (XS.aloadN X0.here hx rfl (hb hby d38_13) rfl rfl (XS.iload X0.here hx rfl (hb hby d38_14) rfl k))) ?_
       obtain ⟨cl7, Ar7, q7, Sz7, Ng7, Hs7, Ft7⟩ := id V_b
       have hin7 := inb_of (j := (6 : Int32)) Sz7 ⟨by decide, by decide⟩
       refine Goes.pre (U' := s₁.setTop (mkF m 19 #[sR b, sI ch, sI (0 : Int32), sI (9 : Int32), sI (ch.toInt8.toInt32), sI (6 : Int32)] [(.int (ch.toInt8.toInt32)), (.int (94 : Int32))])) (fun t k => X0.baloadBytes hx (j := (6 : Int32)) (v := (.int (94 : Int32))) (by rw [e0]; exact Ar7.1) (State.isArrayOf_alike hZ.alike Ar7.2.1) Ar7.2.2 hin7 (Has.at Hs7 hin7 rfl) (g := (mkF m 16 #[sR b, sI ch, sI (0 : Int32), sI (9 : Int32), sI (ch.toInt8.toInt32), sI (6 : Int32)] [(.int (6 : Int32)), (.ref b)])) rfl rfl (hb hby d38_16) _ (XS.iload X0.here hx rfl (hb hby d38_17) rfl k)) ?_
       by_cases hc19_7 : (94 : Int32) = (ch.toInt8.toInt32)
       ·
        refine Goes.pre (U' := s₁.setTop (mkF m 24 #[sR b, sI ch, sI (0 : Int32), sI (9 : Int32), sI (ch.toInt8.toInt32), sI (6 : Int32)] [(.int (6 : Int32))])) (fun t k => XS.icmpNo X0.here hx rfl (hb hby d38_19) rfl (teq hc19_7).2 (XS.iload X0.here hx rfl (hb hby d38_22) rfl k)) ?_
        refine Goes.ret X0 (v := (some (.int (6 : Int32)))) (fun h => by rw [hret] at h; cases h) hlk (by decide) (by decide) e0 (fun fs hr => retI X0 hx hret (hb hby d38_24) hr) ?_
        exact ⟨congrArg (fun z => some (Value.int z)) (show (6 : Int32) = own_ioc ch from (show own_ioc ch = (6 : Int32) from by unfold own_ioc; rw [if_neg hc19, if_neg hc19_2, if_neg hc19_3, if_neg hc19_4, if_neg hc19_5, if_neg hc19_6, if_pos hc19_7]).symm), N0, rfl⟩
       ·
        refine Goes.pre (U' := s₁.setTop (mkF m 28 #[sR b, sI ch, sI (0 : Int32), sI (9 : Int32), sI (ch.toInt8.toInt32), .val (.int ((6 : Int32) + (1 : Int32)))] [])) (fun t k => XS.icmpYes X0.here hx rfl (pc0 := 19) (pc' := 25) rfl (hb hby d38_19) rfl (feq hc19_7).2 (by decide) (by decide) (XT.iincV X0.here hx rfl (1 : Int32) (hb hby d38_25) (by decide) rfl (l' := #[sR b, sI ch, sI (0 : Int32), sI (9 : Int32), sI (ch.toInt8.toInt32), .val (.int ((6 : Int32) + (1 : Int32)))]) rfl k)) ?_
        rw [(by decide : ((6 : Int32) + (1 : Int32)) = (7 : Int32))]
        refine Goes.pre (U' := s₁.setTop (mkF m 10 #[sR b, sI ch, sI (0 : Int32), sI (9 : Int32), sI (ch.toInt8.toInt32), sI (7 : Int32)] [(.int (9 : Int32)), (.int (7 : Int32))])) (fun t k => XS.goto X0.here hx rfl (pc0 := 28) (pc' := 7) rfl (hb hby d38_28) (by decide) (by decide) (XS.iload X0.here hx rfl (hb hby d38_7) rfl (XS.iloadN X0.here hx rfl (hb hby d38_9) rfl k))) ?_
        have hc10 : (7 : Int32) < (9 : Int32) := by decide
        refine Goes.pre (U' := s₁.setTop (mkF m 16 #[sR b, sI ch, sI (0 : Int32), sI (9 : Int32), sI (ch.toInt8.toInt32), sI (7 : Int32)] [(.int (7 : Int32)), (.ref b)])) (fun t k => XS.icmpNo X0.here hx rfl (hb hby d38_10) rfl (tlt hc10).2.1 (XS.aloadN X0.here hx rfl (hb hby d38_13) rfl rfl (XS.iload X0.here hx rfl (hb hby d38_14) rfl k))) ?_
        obtain ⟨cl8, Ar8, q8, Sz8, Ng8, Hs8, Ft8⟩ := id V_b
        have hin8 := inb_of (j := (7 : Int32)) Sz8 ⟨by decide, by decide⟩
        refine Goes.pre (U' := s₁.setTop (mkF m 19 #[sR b, sI ch, sI (0 : Int32), sI (9 : Int32), sI (ch.toInt8.toInt32), sI (7 : Int32)] [(.int (ch.toInt8.toInt32)), (.int (96 : Int32))])) (fun t k => X0.baloadBytes hx (j := (7 : Int32)) (v := (.int (96 : Int32))) (by rw [e0]; exact Ar8.1) (State.isArrayOf_alike hZ.alike Ar8.2.1) Ar8.2.2 hin8 (Has.at Hs8 hin8 rfl) (g := (mkF m 16 #[sR b, sI ch, sI (0 : Int32), sI (9 : Int32), sI (ch.toInt8.toInt32), sI (7 : Int32)] [(.int (7 : Int32)), (.ref b)])) rfl rfl (hb hby d38_16) _ (XS.iload X0.here hx rfl (hb hby d38_17) rfl k)) ?_
        by_cases hc19_8 : (96 : Int32) = (ch.toInt8.toInt32)
        ·
         refine Goes.pre (U' := s₁.setTop (mkF m 24 #[sR b, sI ch, sI (0 : Int32), sI (9 : Int32), sI (ch.toInt8.toInt32), sI (7 : Int32)] [(.int (7 : Int32))])) (fun t k => XS.icmpNo X0.here hx rfl (hb hby d38_19) rfl (teq hc19_8).2 (XS.iload X0.here hx rfl (hb hby d38_22) rfl k)) ?_
         refine Goes.ret X0 (v := (some (.int (7 : Int32)))) (fun h => by rw [hret] at h; cases h) hlk (by decide) (by decide) e0 (fun fs hr => retI X0 hx hret (hb hby d38_24) hr) ?_
         exact ⟨congrArg (fun z => some (Value.int z)) (show (7 : Int32) = own_ioc ch from (show own_ioc ch = (7 : Int32) from by unfold own_ioc; rw [if_neg hc19, if_neg hc19_2, if_neg hc19_3, if_neg hc19_4, if_neg hc19_5, if_neg hc19_6, if_neg hc19_7, if_pos hc19_8]).symm), N0, rfl⟩
        ·
         refine Goes.pre (U' := s₁.setTop (mkF m 28 #[sR b, sI ch, sI (0 : Int32), sI (9 : Int32), sI (ch.toInt8.toInt32), .val (.int ((7 : Int32) + (1 : Int32)))] [])) (fun t k => XS.icmpYes X0.here hx rfl (pc0 := 19) (pc' := 25) rfl (hb hby d38_19) rfl (feq hc19_8).2 (by decide) (by decide) (XT.iincV X0.here hx rfl (1 : Int32) (hb hby d38_25) (by decide) rfl (l' := #[sR b, sI ch, sI (0 : Int32), sI (9 : Int32), sI (ch.toInt8.toInt32), .val (.int ((7 : Int32) + (1 : Int32)))]) rfl k)) ?_
         rw [(by decide : ((7 : Int32) + (1 : Int32)) = (8 : Int32))]
         refine Goes.pre (U' := s₁.setTop (mkF m 10 #[sR b, sI ch, sI (0 : Int32), sI (9 : Int32), sI (ch.toInt8.toInt32), sI (8 : Int32)] [(.int (9 : Int32)), (.int (8 : Int32))])) (fun t k => XS.goto X0.here hx rfl (pc0 := 28) (pc' := 7) rfl (hb hby d38_28) (by decide) (by decide) (XS.iload X0.here hx rfl (hb hby d38_7) rfl (XS.iloadN X0.here hx rfl (hb hby d38_9) rfl k))) ?_
         have hc10 : (8 : Int32) < (9 : Int32) := by decide
         refine Goes.pre (U' := s₁.setTop (mkF m 16 #[sR b, sI ch, sI (0 : Int32), sI (9 : Int32), sI (ch.toInt8.toInt32), sI (8 : Int32)] [(.int (8 : Int32)), (.ref b)])) (fun t k => XS.icmpNo X0.here hx rfl (hb hby d38_10) rfl (tlt hc10).2.1 (XS.aloadN X0.here hx rfl (hb hby d38_13) rfl rfl (XS.iload X0.here hx rfl (hb hby d38_14) rfl k))) ?_
         obtain ⟨cl9, Ar9, q9, Sz9, Ng9, Hs9, Ft9⟩ := id V_b
         have hin9 := inb_of (j := (8 : Int32)) Sz9 ⟨by decide, by decide⟩
         refine Goes.pre (U' := s₁.setTop (mkF m 19 #[sR b, sI ch, sI (0 : Int32), sI (9 : Int32), sI (ch.toInt8.toInt32), sI (8 : Int32)] [(.int (ch.toInt8.toInt32)), (.int (92 : Int32))])) (fun t k => X0.baloadBytes hx (j := (8 : Int32)) (v := (.int (92 : Int32))) (by rw [e0]; exact Ar9.1) (State.isArrayOf_alike hZ.alike Ar9.2.1) Ar9.2.2 hin9 (Has.at Hs9 hin9 rfl) (g := (mkF m 16 #[sR b, sI ch, sI (0 : Int32), sI (9 : Int32), sI (ch.toInt8.toInt32), sI (8 : Int32)] [(.int (8 : Int32)), (.ref b)])) rfl rfl (hb hby d38_16) _ (XS.iload X0.here hx rfl (hb hby d38_17) rfl k)) ?_
         by_cases hc19_9 : (92 : Int32) = (ch.toInt8.toInt32)
         ·
          refine Goes.pre (U' := s₁.setTop (mkF m 24 #[sR b, sI ch, sI (0 : Int32), sI (9 : Int32), sI (ch.toInt8.toInt32), sI (8 : Int32)] [(.int (8 : Int32))])) (fun t k => XS.icmpNo X0.here hx rfl (hb hby d38_19) rfl (teq hc19_9).2 (XS.iload X0.here hx rfl (hb hby d38_22) rfl k)) ?_
          refine Goes.ret X0 (v := (some (.int (8 : Int32)))) (fun h => by rw [hret] at h; cases h) hlk (by decide) (by decide) e0 (fun fs hr => retI X0 hx hret (hb hby d38_24) hr) ?_
          exact ⟨congrArg (fun z => some (Value.int z)) (show (8 : Int32) = own_ioc ch from (show own_ioc ch = (8 : Int32) from by unfold own_ioc; rw [if_neg hc19, if_neg hc19_2, if_neg hc19_3, if_neg hc19_4, if_neg hc19_5, if_neg hc19_6, if_neg hc19_7, if_neg hc19_8, if_pos hc19_9]).symm), N0, rfl⟩
         ·
          refine Goes.pre (U' := s₁.setTop (mkF m 28 #[sR b, sI ch, sI (0 : Int32), sI (9 : Int32), sI (ch.toInt8.toInt32), .val (.int ((8 : Int32) + (1 : Int32)))] [])) (fun t k => XS.icmpYes X0.here hx rfl (pc0 := 19) (pc' := 25) rfl (hb hby d38_19) rfl (feq hc19_9).2 (by decide) (by decide) (XT.iincV X0.here hx rfl (1 : Int32) (hb hby d38_25) (by decide) rfl (l' := #[sR b, sI ch, sI (0 : Int32), sI (9 : Int32), sI (ch.toInt8.toInt32), .val (.int ((8 : Int32) + (1 : Int32)))]) rfl k)) ?_
          rw [(by decide : ((8 : Int32) + (1 : Int32)) = (9 : Int32))]
          refine Goes.pre (U' := s₁.setTop (mkF m 10 #[sR b, sI ch, sI (0 : Int32), sI (9 : Int32), sI (ch.toInt8.toInt32), sI (9 : Int32)] [(.int (9 : Int32)), (.int (9 : Int32))])) (fun t k => XS.goto X0.here hx rfl (pc0 := 28) (pc' := 7) rfl (hb hby d38_28) (by decide) (by decide) (XS.iload X0.here hx rfl (hb hby d38_7) rfl (XS.iloadN X0.here hx rfl (hb hby d38_9) rfl k))) ?_
          have hc10 : ¬ ((9 : Int32) < (9 : Int32)) := by decide
          refine Goes.pre (U' := s₁.setTop (mkF m 32 #[sR b, sI ch, sI (0 : Int32), sI (9 : Int32), sI (ch.toInt8.toInt32), sI (9 : Int32)] [(.int (-1 : Int32))])) (fun t k => XS.icmpYes X0.here hx rfl (pc0 := 10) (pc' := 31) rfl (hb hby d38_10) rfl (flt hc10).2.1 (by decide) (by decide) (XS.iconst X0.here hx rfl (hb hby d38_31) k)) ?_
          refine Goes.ret X0 (v := (some (.int (-1 : Int32)))) (fun h => by rw [hret] at h; cases h) hlk (by decide) (by decide) e0 (fun fs hr => retI X0 hx hret (hb hby d38_32) hr) ?_
          exact ⟨congrArg (fun z => some (Value.int z)) (show (-1 : Int32) = own_ioc ch from (show own_ioc ch = (-1 : Int32) from by unfold own_ioc; rw [if_neg hc19, if_neg hc19_2, if_neg hc19_3, if_neg hc19_4, if_neg hc19_5, if_neg hc19_6, if_neg hc19_7, if_neg hc19_8, if_neg hc19_9]).symm), N0, rfl⟩
theorem ef_rm_iol (m : MethodId) (x0 : Addr) (x1 : Int32) (x2 : Int32) (x3 : Int32) : entryFrame m #[(.ref x0), (.int x1), (.int x2), (.int x3)] 4 = mkF m 0 #[sR x0, sI x1, sI x2, sI x3] [] := by first | (simp [entryFrame, mkF, argsToLocals, Value.category]; done) | rfl
abbrev M34 : MethodName := ⟨"java/lang/StringLatin1", "indexOf", "([BIII)I"⟩
theorem d34_0 : decode B34 0 = .ok (.iload_n 1, 1) := by decide +kernel
theorem d34_1 : decode B34 1 = .ok (.invokestatic 88, 3) := by decide +kernel
theorem pd__28I_29Z : parseMethodDescriptor "(I)Z" = some ⟨[.int], some .boolean⟩ := by decide +kernel
theorem d34_4 : decode B34 4 = .ok (.ifCond .ne 5, 3) := by decide +kernel
theorem d34_7 : decode B34 7 = .ok (.iconst (-1), 1) := by decide +kernel
theorem d34_8 : decode B34 8 = .ok (.ireturn, 1) := by decide +kernel
theorem d34_9 : decode B34 9 = .ok (.iload_n 2, 1) := by decide +kernel
theorem d34_10 : decode B34 10 = .ok (.iconst 0, 1) := by decide +kernel
theorem d34_11 : decode B34 11 = .ok (.invokestatic 92, 3) := by decide +kernel
theorem d34_14 : decode B34 14 = .ok (.istore_n 2, 1) := by decide +kernel
theorem d34_15 : decode B34 15 = .ok (.iload_n 3, 1) := by decide +kernel
theorem d34_16 : decode B34 16 = .ok (.aload_n 0, 1) := by decide +kernel
theorem d34_17 : decode B34 17 = .ok (.arraylength, 1) := by decide +kernel
theorem d34_18 : decode B34 18 = .ok (.invokestatic 38, 3) := by decide +kernel
theorem d34_21 : decode B34 21 = .ok (.istore_n 3, 1) := by decide +kernel
theorem d34_22 : decode B34 22 = .ok (.iload_n 2, 1) := by decide +kernel
theorem d34_23 : decode B34 23 = .ok (.iload_n 3, 1) := by decide +kernel
theorem d34_24 : decode B34 24 = .ok (.if_icmp .lt 5, 3) := by decide +kernel
theorem d34_29 : decode B34 29 = .ok (.aload_n 0, 1) := by decide +kernel
theorem d34_30 : decode B34 30 = .ok (.iload_n 1, 1) := by decide +kernel
theorem d34_31 : decode B34 31 = .ok (.iload_n 2, 1) := by decide +kernel
theorem d34_32 : decode B34 32 = .ok (.iload_n 3, 1) := by decide +kernel
theorem d34_33 : decode B34 33 = .ok (.invokestatic 95, 3) := by decide +kernel
theorem pd__28_5bBIII_29I : parseMethodDescriptor "([BIII)I" = some ⟨[(.array .byte), .int, .int, .int], some .int⟩ := by decide +kernel
theorem d34_36 : decode B34 36 = .ok (.ireturn, 1) := by decide +kernel
def own_iol (ch : Int32) : Int32 := (if (own_canI ch) = (0 : Int32) then (-1 : Int32) else (own_ioc ch))
def Q_rm_iol (Z : State) (b : Addr) (kb : ClassId) (ch : Int32) (h0 : Heap) (n0 : Nat) (v : Option Value) (h : Heap) (L : List Loc) : Prop := v = some (.int (own_iol ch)) ∧ Fr n0 L ∧ h = h0
set_option maxRecDepth 65536 in
set_option maxHeartbeats 40000000 in
theorem rm_iol (l : Launch) (Z : State) (a0 : Array Value) (hw : ∀ d ∈ tables_1, d.before a0 Z = true) (ws : List Jvm.Cond) (b : Addr) (kb : ClassId) (ch : Int32) (h0 : Heap) (n0 : Nat) (Z0 : n0 ≤ h0.size) (V_b : Arv Z h0 b kb .byte (9 : Int32) [(.int (60 : Int32)), (.int (62 : Int32)), (.int (34 : Int32)), (.int (123 : Int32)), (.int (125 : Int32)), (.int (124 : Int32)), (.int (94 : Int32)), (.int (96 : Int32)), (.int (92 : Int32))] (.int (0 : Int32))) :
  Met l Z M34 jdk_43_method_22_code 4 (some .int) ws (Rm 1 0 0 17) #[(.ref b), (.int ch), (.int (0 : Int32)), (.int (9 : Int32))] h0 (Q_rm_iol Z b kb ch h0 n0) := by
 refine met_of (plainFor_of_name pn_java_lang_StringLatin1) (own := "java/lang/StringLatin1") rfl (fun m => ef_rm_iol m b ch (0 : Int32) (9 : Int32)) ?_
 intro p e s m below meth c s₁ hx hby hml hown hnm hZ X0 e0 hret hlk
 have N0 := Fr.nil n0
 show Goes p e below s _ _ _ (s₁.setTop (mkF m 0 #[sR b, sI ch, sI (0 : Int32), sI (9 : Int32)] []))
 refine Goes.pre (U' := s₁.setTop (mkF m 1 #[sR b, sI ch, sI (0 : Int32), sI (9 : Int32)] [(.int ch)])) (fun t k => XS.iloadN X0.here hx rfl (hb hby d34_0) rfl k) ?_
 obtain ⟨_, _, ⟨T1, L1, k1, n1⟩, -, X1, ⟨Lc1, hQ1, l1, y1, z1⟩, st1⟩ := Jvm.LawKit.callS X0 hx (y := M35) hown (mvT hZ (wq hw 187 rfl)) (mvT hZ (wq hw 188 rfl)) (mvT hZ (wq hw 85 rfl)) (mvT hZ (wq hw 189 rfl)) (by decide) (backOf (W := 0) (rm_canI l Z a0 hw [] ch h0 n0 Z0) hZ (wq hw 189 rfl) (wq hw 85 rfl) (by decide) (by decide)) (g := (mkF m 1 #[sR b, sI ch, sI (0 : Int32), sI (9 : Int32)] [(.int ch)])) rfl (by rw [hml]; rfl) (argsL := [(.int ch)]) (rest := []) (lenOf pd__28I_29Z rfl) rfl (by show 2 * 0 + _ ≤ _; exact Nat.le_of_eq rfl) (hb hby d34_1) (fun _ _ => ⟨rfl, e0, (by decide : 0 + 0 ≤ _), (by decide : 0 + 0 ≤ _)⟩)
 dsimp only [Pt.U, Pt.locs, Pt.cells, Pt.slots] at X1 l1 y1 z1 st1 hQ1
 subst l1 y1 z1
 obtain ⟨rfl, N1q, HQ1⟩ := hQ1
 have N1 := Fr.app N0 N1q
 refine Goes.pre (U' := T1.setTop (mkF m 4 #[sR b, sI ch, sI (0 : Int32), sI (9 : Int32)] [(.int (own_canI ch))])) (fun t k => st1 t k) ?_
 by_cases hc4 : (own_canI ch) = (0 : Int32)
 ·
  refine Goes.pre (U' := T1.setTop (mkF m 8 #[sR b, sI ch, sI (0 : Int32), sI (9 : Int32)] [(.int (-1 : Int32))])) (fun t k => XS.ifNo X1.here hx rfl (hb hby d34_4) rfl ((if0 _ _).trans (teq hc4).2) (XS.iconst X1.here hx rfl (hb hby d34_7) k)) ?_
  refine Goes.ret X1 (v := (some (.int (-1 : Int32)))) (fun h => by rw [hret] at h; cases h) hlk (by decide) (by decide) HQ1 (fun fs hr => retI X1 hx hret (hb hby d34_8) hr) ?_
  exact ⟨congrArg (fun z => some (Value.int z)) (show (-1 : Int32) = own_iol ch from (show own_iol ch = (-1 : Int32) from by unfold own_iol; rw [if_pos hc4]).symm), N1, rfl⟩
 ·
  refine Goes.pre (U' := T1.setTop (mkF m 11 #[sR b, sI ch, sI (0 : Int32), sI (9 : Int32)] [(.int (0 : Int32)), (.int (0 : Int32))])) (fun t k => XS.ifYes X1.here hx rfl (pc0 := 4) (pc' := 9) rfl (hb hby d34_4) rfl ((if0 _ _).trans (feq hc4).2) (by decide) (by decide) (XS.iloadN X1.here hx rfl (hb hby d34_9) rfl (XS.iconst X1.here hx rfl (hb hby d34_10) k))) ?_
  obtain ⟨_, _, ⟨T2, L2, k2, n2⟩, -, X2, ⟨Lc2, hQ2, l2, y2, z2⟩, st2⟩ := Jvm.LawKit.callS X1 hx (y := M36) hown (mvT hZ (wq hw 190 rfl)) (mvT hZ (wq hw 191 rfl)) (mvT hZ (wq hw 192 rfl)) (mvT hZ (wq hw 193 rfl)) (by decide) (backOf (W := 0) (rm_max00 l Z a0 hw []  h0 n0 Z0 ) hZ (wq hw 193 rfl) (wq hw 192 rfl) (by decide) (by decide)) (g := (mkF m 11 #[sR b, sI ch, sI (0 : Int32), sI (9 : Int32)] [(.int (0 : Int32)), (.int (0 : Int32))])) rfl (by rw [hml]; rfl) (argsL := [(.int (0 : Int32)), (.int (0 : Int32))]) (rest := []) (lenOf pd__28II_29I rfl) rfl (by show 2 * 0 + _ ≤ _; exact Nat.le_of_eq rfl) (hb hby d34_11) (fun _ _ => ⟨rfl, HQ1, (by decide : 0 + 0 ≤ _), (by decide : 0 + 0 ≤ _)⟩)
  dsimp only [Pt.U, Pt.locs, Pt.cells, Pt.slots] at X2 l2 y2 z2 st2 hQ2
  subst l2 y2 z2
  obtain ⟨rfl, N2q, HQ2⟩ := hQ2
  have N2 := Fr.app N1 N2q
  refine Goes.pre (U' := T2.setTop (mkF m 17 #[sR b, sI ch, sI (0 : Int32), sI (9 : Int32)] [(.ref b), (.int (9 : Int32))])) (fun t k => st2 t (XS.istoreN X2.here hx rfl (hb hby d34_14) rfl (l' := #[sR b, sI ch, sI (0 : Int32), sI (9 : Int32)]) rfl (XS.iloadN X2.here hx rfl (hb hby d34_15) rfl (XS.aloadN X2.here hx rfl (hb hby d34_16) rfl rfl k)))) ?_
  obtain ⟨cl3, Ar3, q3, Sz3, Ng3, -, -⟩ := id V_b
  have ln3 := len_of Sz3 Ng3
  refine Goes.pre (U' := T2.setTop (mkF m 18 #[sR b, sI ch, sI (0 : Int32), sI (9 : Int32)] [(.int (9 : Int32)), (.int (9 : Int32))])) (fun t k => X2.arraylength hx (by rw [HQ2]; exact Ar3.1) (State.isArrayOf_alike hZ.alike Ar3.2.1) (g := (mkF m 17 #[sR b, sI ch, sI (0 : Int32), sI (9 : Int32)] [(.ref b), (.int (9 : Int32))])) rfl rfl (hb hby d34_17) _ (by rw [ln3]; exact k)) ?_
  obtain ⟨_, _, ⟨T4, L4, k4, n4⟩, -, X4, ⟨Lc4, hQ4, l4, y4, z4⟩, st4⟩ := Jvm.LawKit.callS X2 hx (y := M37) hown (mvT hZ (wq hw 194 rfl)) (mvT hZ (wq hw 195 rfl)) (mvT hZ (wq hw 192 rfl)) (mvT hZ (wq hw 196 rfl)) (by decide) (backOf (W := 0) (rm_min99 l Z a0 hw []  h0 n0 Z0 ) hZ (wq hw 196 rfl) (wq hw 192 rfl) (by decide) (by decide)) (g := (mkF m 18 #[sR b, sI ch, sI (0 : Int32), sI (9 : Int32)] [(.int (9 : Int32)), (.int (9 : Int32))])) rfl (by rw [hml]; rfl) (argsL := [(.int (9 : Int32)), (.int (9 : Int32))]) (rest := []) (lenOf pd__28II_29I rfl) rfl (by show 2 * 0 + _ ≤ _; exact Nat.le_of_eq rfl) (hb hby d34_18) (fun _ _ => ⟨rfl, HQ2, (by decide : 0 + 0 ≤ _), (by decide : 0 + 0 ≤ _)⟩)
  dsimp only [Pt.U, Pt.locs, Pt.cells, Pt.slots] at X4 l4 y4 z4 st4 hQ4
  subst l4 y4 z4
  obtain ⟨rfl, N4q, HQ4⟩ := hQ4
  have N4 := Fr.app N2 N4q
  refine Goes.pre (U' := T4.setTop (mkF m 24 #[sR b, sI ch, sI (0 : Int32), sI (9 : Int32)] [(.int (9 : Int32)), (.int (0 : Int32))])) (fun t k => st4 t (XS.istoreN X4.here hx rfl (hb hby d34_21) rfl (l' := #[sR b, sI ch, sI (0 : Int32), sI (9 : Int32)]) rfl (XS.iloadN X4.here hx rfl (hb hby d34_22) rfl (XS.iloadN X4.here hx rfl (hb hby d34_23) rfl k)))) ?_
  have hc24 : (0 : Int32) < (9 : Int32) := by decide
  refine Goes.pre (U' := T4.setTop (mkF m 33 #[sR b, sI ch, sI (0 : Int32), sI (9 : Int32)] [(.int (9 : Int32)), (.int (0 : Int32)), (.int ch), (.ref b)])) (fun t k => XS.icmpYes X4.here hx rfl (pc0 := 24) (pc' := 29) rfl (hb hby d34_24) rfl (tlt hc24).1 (by decide) (by decide) (XS.aloadN X4.here hx rfl (hb hby d34_29) rfl rfl (XS.iloadN X4.here hx rfl (hb hby d34_30) rfl (XS.iloadN X4.here hx rfl (hb hby d34_31) rfl (XS.iloadN X4.here hx rfl (hb hby d34_32) rfl k))))) ?_
  obtain ⟨_, _, ⟨T5, L5, k5, n5⟩, -, X5, ⟨Lc5, hQ5, l5, y5, z5⟩, st5⟩ := Jvm.LawKit.callS X4 hx (y := M38) hown (mvT hZ (wq hw 197 rfl)) (mvT hZ (wq hw 198 rfl)) (mvT hZ (wq hw 85 rfl)) (mvT hZ (wq hw 199 rfl)) (by decide) (backOf (W := 0) (rm_ioc l Z a0 hw [] b kb ch h0 n0 Z0 V_b) hZ (wq hw 199 rfl) (wq hw 85 rfl) (by decide) (by decide)) (g := (mkF m 33 #[sR b, sI ch, sI (0 : Int32), sI (9 : Int32)] [(.int (9 : Int32)), (.int (0 : Int32)), (.int ch), (.ref b)])) rfl (by rw [hml]; rfl) (argsL := [(.ref b), (.int ch), (.int (0 : Int32)), (.int (9 : Int32))]) (rest := []) (lenOf pd__28_5bBIII_29I rfl) rfl (by show 2 * 0 + _ ≤ _; exact Nat.le_of_eq rfl) (hb hby d34_33) (fun _ _ => ⟨rfl, HQ4, (by decide : 0 + 0 ≤ _), (by decide : 0 + 0 ≤ _)⟩)
  dsimp only [Pt.U, Pt.locs, Pt.cells, Pt.slots] at X5 l5 y5 z5 st5 hQ5
  subst l5 y5 z5
  obtain ⟨rfl, N5q, HQ5⟩ := hQ5
  have N5 := Fr.app N4 N5q
  refine Goes.pre (U' := T5.setTop (mkF m 36 #[sR b, sI ch, sI (0 : Int32), sI (9 : Int32)] [(.int (own_ioc ch))])) (fun t k => st5 t k) ?_
  refine Goes.ret X5 (v := (some (.int (own_ioc ch)))) (fun h => by rw [hret] at h; cases h) hlk (by decide) (by decide) HQ5 (fun fs hr => retI X5 hx hret (hb hby d34_36) hr) ?_
  exact ⟨congrArg (fun z => some (Value.int z)) (show (own_ioc ch) = own_iol ch from (show own_iol ch = (own_ioc ch) from by unfold own_iol; rw [if_neg hc4]).symm), N5, rfl⟩
theorem ef_rm_io2 (m : MethodId) (x0 : Addr) (x1 : Int32) (x2 : Int32) : entryFrame m #[(.ref x0), (.int x1), (.int x2)] 3 = mkF m 0 #[sR x0, sI x1, sI x2] [] := by first | (simp [entryFrame, mkF, argsToLocals, Value.category]; done) | rfl
abbrev M33 : MethodName := ⟨"java/lang/String", "indexOf", "(II)I"⟩
theorem d33_0 : decode B33 0 = .ok (.aload_n 0, 1) := by decide +kernel
theorem d33_1 : decode B33 1 = .ok (.invokevirtual 492, 3) := by decide +kernel
theorem d33_4 : decode B33 4 = .ok (.ifCond .eq 19, 3) := by decide +kernel
theorem d33_7 : decode B33 7 = .ok (.aload_n 0, 1) := by decide +kernel
theorem d33_8 : decode B33 8 = .ok (.getfield 9, 3) := by decide +kernel
theorem d33_11 : decode B33 11 = .ok (.iload_n 1, 1) := by decide +kernel
theorem d33_12 : decode B33 12 = .ok (.iload_n 2, 1) := by decide +kernel
theorem d33_13 : decode B33 13 = .ok (.aload_n 0, 1) := by decide +kernel
theorem d33_14 : decode B33 14 = .ok (.invokevirtual 505, 3) := by decide +kernel
theorem d33_17 : decode B33 17 = .ok (.invokestatic 637, 3) := by decide +kernel
theorem d33_20 : decode B33 20 = .ok (.goto 16, 3) := by decide +kernel
theorem d33_36 : decode B33 36 = .ok (.ireturn, 1) := by decide +kernel
def Q_rm_io2 (Z : State) (x : Addr) (xb : Addr) (kx : ClassId) (ch : Int32) (cs : Int32) (h0 : Heap) (n0 : Nat) (v : Option Value) (h : Heap) (L : List Loc) : Prop := v = some (.int (own_iol ch)) ∧ Fr n0 L ∧ h = h0
set_option maxRecDepth 65536 in
set_option maxHeartbeats 40000000 in
theorem rm_io2 (l : Launch) (Z : State) (a0 : Array Value) (hw : ∀ d ∈ tables_1, d.before a0 Z = true) (ws : List Jvm.Cond) (x : Addr) (xb : Addr) (kx : ClassId) (ch : Int32) (cs : Int32) (h0 : Heap) (n0 : Nat) (Z0 : n0 ≤ h0.size) (E_x : Exa Z h0 x "java/lang/String") (Fc_x : Fld Z h0 x "java/lang/String" "coder" "B" (.int (0 : Int32))) (Fv_x : Fld Z h0 x "java/lang/String" "value" "[B" (.ref xb)) (V_xb : Arv Z h0 xb kx .byte (9 : Int32) [(.int (60 : Int32)), (.int (62 : Int32)), (.int (34 : Int32)), (.int (123 : Int32)), (.int (125 : Int32)), (.int (124 : Int32)), (.int (94 : Int32)), (.int (96 : Int32)), (.int (92 : Int32))] (.int (0 : Int32))) (sC : OCS Z (.int cs)) (S_x : OwnStr Z h0 x xb kx [(60 : Int32), (62 : Int32), (34 : Int32), (123 : Int32), (125 : Int32), (124 : Int32), (94 : Int32), (96 : Int32), (92 : Int32)]) (hcs : ¬ (cs = (0 : Int32))) (O : Old Z n0 h0) :
  Met l Z M33 jdk_42_method_80_code 3 (some .int) ws (Rm 2 0 0 32) #[(.ref x), (.int ch), (.int (0 : Int32))] h0 (Q_rm_io2 Z x xb kx ch cs h0 n0) := by
 refine met_of (plainFor_of_name pn_java_lang_String) (own := "java/lang/String") rfl (fun m => ef_rm_io2 m x ch (0 : Int32)) ?_
 intro p e s m below meth c s₁ hx hby hml hown hnm hZ X0 e0 hret hlk
 have N0 := Fr.nil n0
 show Goes p e below s _ _ _ (s₁.setTop (mkF m 0 #[sR x, sI ch, sI (0 : Int32)] []))
 refine Goes.pre (U' := s₁.setTop (mkF m 1 #[sR x, sI ch, sI (0 : Int32)] [(.ref x)])) (fun t k => XS.aloadN X0.here hx rfl (hb hby d33_0) rfl rfl k) ?_
 obtain ⟨cq1, kq1, q1a, q1b, q1c⟩ := isOf hZ e0 E_x
 obtain ⟨_, _, ⟨T1, L1, k1, n1⟩, -, X1, ⟨Lc1, hQ1, l1, y1, z1⟩, st1⟩ := X0.virtualBack hx (y := M25) (z := M25) hown (mvT hZ (wq hw 145 rfl)) (mvT hZ (wq hw 146 rfl)) (notFace_of_selects (args := #[]) (mvT hZ (wq hw 148 rfl))) (mvT hZ (wq hw 148 rfl)) (mvT hZ (wq hw 147 rfl)) (by decide) (backOf (W := 0) (rm_isL0 l Z a0 hw [] x cs h0 n0 Z0 sC Fc_x hcs O) hZ (wq hw 149 rfl) (wq hw 8 rfl) (by decide) (by decide)) q1a q1c (g := (mkF m 1 #[sR x, sI ch, sI (0 : Int32)] [(.ref x)])) rfl (by rw [hml]; rfl) (Steps.refl _) (argsL := []) (rest := []) (lenOf pd__28_29Z rfl) rfl (by show 2 * 0 + _ ≤ _; exact Nat.le_of_eq rfl) (hb hby d33_1) (fun _ _ => ⟨rfl, e0, (by decide : 0 + 0 ≤ _), (by decide : 0 + 0 ≤ _)⟩)
 dsimp only [Pt.U, Pt.locs, Pt.cells, Pt.slots] at X1 l1 y1 z1 st1 hQ1
 subst l1 y1 z1
 obtain ⟨rfl, N1q, HQ1⟩ := hQ1
 have N1 := Fr.app N0 N1q
 refine Goes.pre (U' := T1.setTop (mkF m 4 #[sR x, sI ch, sI (0 : Int32)] [(.int (1 : Int32))])) (fun t k => st1.trans k) ?_
 have hc4 : ¬ ((1 : Int32) = (0 : Int32)) := by decide
 refine Goes.pre (U' := T1.setTop (mkF m 8 #[sR x, sI ch, sI (0 : Int32)] [(.ref x)])) (fun t k => XS.ifNo X1.here hx rfl (hb hby d33_4) rfl ((if0 _ _).trans (feq hc4).1) (XS.aloadN X1.here hx rfl (hb hby d33_7) rfl rfl k)) ?_
 obtain ⟨T2, X2, e2, st2⟩ := getF X1 hx hZ hown (host := "") (Or.inl (wq hw 26 rfl)) Via.refl HQ1 Fv_x (g := (mkF m 8 #[sR x, sI ch, sI (0 : Int32)] [(.ref x)])) rfl rfl (hb hby d33_8)
 refine Goes.pre (U' := T2.setTop (mkF m 14 #[sR x, sI ch, sI (0 : Int32)] [(.ref x), (.int (0 : Int32)), (.int ch), (.ref xb)])) (fun t k => st2 t (XS.iloadN X2.here hx rfl (hb hby d33_11) rfl (XS.iloadN X2.here hx rfl (hb hby d33_12) rfl (XS.aloadN X2.here hx rfl (hb hby d33_13) rfl rfl k)))) ?_
 obtain ⟨cq3, kq3, q3a, q3b, q3c⟩ := isOf hZ e2 E_x
 obtain ⟨_, _, ⟨T3, L3, k3, n3⟩, -, X3, ⟨Lc3, hQ3, l3, y3, z3⟩, st3⟩ := X2.virtualBack hx (y := M6) (z := M6) hown (mvT hZ (wq hw 183 rfl)) (mvT hZ (wq hw 36 rfl)) (notFace_of_selects (args := #[]) (mvT hZ (wq hw 38 rfl))) (mvT hZ (wq hw 38 rfl)) (mvT hZ (wq hw 37 rfl)) (by decide) (backOf (W := 3) (rm_len l Z a0 hw [] x xb kx ([(60 : Int32), (62 : Int32), (34 : Int32), (123 : Int32), (125 : Int32), (124 : Int32), (94 : Int32), (96 : Int32), (92 : Int32)]) cs h0 n0 Z0 S_x sC hcs (by decide) O) hZ (wq hw 39 rfl) (wq hw 8 rfl) (by decide) (by decide)) q3a q3c (g := (mkF m 14 #[sR x, sI ch, sI (0 : Int32)] [(.ref x), (.int (0 : Int32)), (.int ch), (.ref xb)])) rfl (by rw [hml]; rfl) (Steps.refl _) (argsL := []) (rest := [(.int (0 : Int32)), (.int ch), (.ref xb)]) (lenOf pd__28_29I rfl) rfl (by show 2 * 0 + _ ≤ _; exact Nat.le_of_eq rfl) (hb hby d33_14) (fun _ _ => ⟨rfl, e2, (by decide : 0 + 0 ≤ _), (by decide : 0 + 0 ≤ _)⟩)
 dsimp only [Pt.U, Pt.locs, Pt.cells, Pt.slots] at X3 l3 y3 z3 st3 hQ3
 subst l3 y3 z3
 obtain ⟨rfl, N3q, HQ3⟩ := hQ3
 have N3 := Fr.app N1 N3q
 refine Goes.pre (U' := T3.setTop (mkF m 17 #[sR x, sI ch, sI (0 : Int32)] [(.int (9 : Int32)), (.int (0 : Int32)), (.int ch), (.ref xb)])) (fun t k => st3.trans k) ?_
 obtain ⟨_, _, ⟨T4, L4, k4, n4⟩, -, X4, ⟨Lc4, hQ4, l4, y4, z4⟩, st4⟩ := Jvm.LawKit.callS X3 hx (y := M34) hown (mvT hZ (wq hw 184 rfl)) (mvT hZ (wq hw 185 rfl)) (mvT hZ (wq hw 85 rfl)) (mvT hZ (wq hw 186 rfl)) (by decide) (backOf (W := 0) (rm_iol l Z a0 hw [] xb kx ch h0 n0 Z0 V_xb) hZ (wq hw 186 rfl) (wq hw 85 rfl) (by decide) (by decide)) (g := (mkF m 17 #[sR x, sI ch, sI (0 : Int32)] [(.int (9 : Int32)), (.int (0 : Int32)), (.int ch), (.ref xb)])) rfl (by rw [hml]; rfl) (argsL := [(.ref xb), (.int ch), (.int (0 : Int32)), (.int (9 : Int32))]) (rest := []) (lenOf pd__28_5bBIII_29I rfl) rfl (by show 2 * 0 + _ ≤ _; exact Nat.le_of_eq rfl) (hb hby d33_17) (fun _ _ => ⟨rfl, HQ3, (by decide : 0 + 0 ≤ _), (by decide : 0 + 0 ≤ _)⟩)
 dsimp only [Pt.U, Pt.locs, Pt.cells, Pt.slots] at X4 l4 y4 z4 st4 hQ4
 subst l4 y4 z4
 obtain ⟨rfl, N4q, HQ4⟩ := hQ4
 have N4 := Fr.app N3 N4q
 refine Goes.pre (U' := T4.setTop (mkF m 36 #[sR x, sI ch, sI (0 : Int32)] [(.int (own_iol ch))])) (fun t k => st4 t (XS.goto X4.here hx rfl (pc0 := 20) (pc' := 36) rfl (hb hby d33_20) (by decide) (by decide) k)) ?_
 refine Goes.ret X4 (v := (some (.int (own_iol ch)))) (fun h => by rw [hret] at h; cases h) hlk (by decide) (by decide) HQ4 (fun fs hr => retI X4 hx hret (hb hby d33_36) hr) ?_
 exact ⟨rfl, N4, rfl⟩
theorem ef_rm_io1 (m : MethodId) (x0 : Addr) (x1 : Int32) : entryFrame m #[(.ref x0), (.int x1)] 2 = mkF m 0 #[sR x0, sI x1] [] := by first | (simp [entryFrame, mkF, argsToLocals, Value.category]; done) | rfl
abbrev M32 : MethodName := ⟨"java/lang/String", "indexOf", "(I)I"⟩
theorem d32_0 : decode B32 0 = .ok (.aload_n 0, 1) := by decide +kernel
theorem d32_1 : decode B32 1 = .ok (.iload_n 1, 1) := by decide +kernel
theorem d32_2 : decode B32 2 = .ok (.iconst 0, 1) := by decide +kernel
theorem d32_3 : decode B32 3 = .ok (.invokevirtual 633, 3) := by decide +kernel
theorem d32_6 : decode B32 6 = .ok (.ireturn, 1) := by decide +kernel
def Q_rm_io1 (Z : State) (x : Addr) (xb : Addr) (kx : ClassId) (ch : Int32) (cs : Int32) (h0 : Heap) (n0 : Nat) (v : Option Value) (h : Heap) (L : List Loc) : Prop := v = some (.int (own_iol ch)) ∧ Fr n0 L ∧ h = h0
set_option maxRecDepth 65536 in
set_option maxHeartbeats 40000000 in
theorem rm_io1 (l : Launch) (Z : State) (a0 : Array Value) (hw : ∀ d ∈ tables_1, d.before a0 Z = true) (ws : List Jvm.Cond) (x : Addr) (xb : Addr) (kx : ClassId) (ch : Int32) (cs : Int32) (h0 : Heap) (n0 : Nat) (Z0 : n0 ≤ h0.size) (E_x : Exa Z h0 x "java/lang/String") (Fc_x : Fld Z h0 x "java/lang/String" "coder" "B" (.int (0 : Int32))) (Fv_x : Fld Z h0 x "java/lang/String" "value" "[B" (.ref xb)) (V_xb : Arv Z h0 xb kx .byte (9 : Int32) [(.int (60 : Int32)), (.int (62 : Int32)), (.int (34 : Int32)), (.int (123 : Int32)), (.int (125 : Int32)), (.int (124 : Int32)), (.int (94 : Int32)), (.int (96 : Int32)), (.int (92 : Int32))] (.int (0 : Int32))) (sC : OCS Z (.int cs)) (S_x : OwnStr Z h0 x xb kx [(60 : Int32), (62 : Int32), (34 : Int32), (123 : Int32), (125 : Int32), (124 : Int32), (94 : Int32), (96 : Int32), (92 : Int32)]) (hcs : ¬ (cs = (0 : Int32))) (O : Old Z n0 h0) :
  Met l Z M32 jdk_42_method_79_code 2 (some .int) ws (Rm 3 0 0 46) #[(.ref x), (.int ch)] h0 (Q_rm_io1 Z x xb kx ch cs h0 n0) := by
 refine met_of (plainFor_of_name pn_java_lang_String) (own := "java/lang/String") rfl (fun m => ef_rm_io1 m x ch) ?_
 intro p e s m below meth c s₁ hx hby hml hown hnm hZ X0 e0 hret hlk
 have N0 := Fr.nil n0
 show Goes p e below s _ _ _ (s₁.setTop (mkF m 0 #[sR x, sI ch] []))
 refine Goes.pre (U' := s₁.setTop (mkF m 3 #[sR x, sI ch] [(.int (0 : Int32)), (.int ch), (.ref x)])) (fun t k => XS.aloadN X0.here hx rfl (hb hby d32_0) rfl rfl (XS.iloadN X0.here hx rfl (hb hby d32_1) rfl (XS.iconst X0.here hx rfl (hb hby d32_2) k))) ?_
 obtain ⟨cq1, kq1, q1a, q1b, q1c⟩ := isOf hZ e0 E_x
 obtain ⟨_, _, ⟨T1, L1, k1, n1⟩, -, X1, ⟨Lc1, hQ1, l1, y1, z1⟩, st1⟩ := X0.virtualBack hx (y := M33) (z := M33) hown (mvT hZ (wq hw 178 rfl)) (mvT hZ (wq hw 179 rfl)) (notFace_of_selects (args := #[]) (mvT hZ (wq hw 181 rfl))) (mvT hZ (wq hw 181 rfl)) (mvT hZ (wq hw 180 rfl)) (by decide) (backOf (W := 0) (rm_io2 l Z a0 hw [] x xb kx ch cs h0 n0 Z0 E_x Fc_x Fv_x V_xb sC S_x hcs O) hZ (wq hw 182 rfl) (wq hw 8 rfl) (by decide) (by decide)) q1a q1c (g := (mkF m 3 #[sR x, sI ch] [(.int (0 : Int32)), (.int ch), (.ref x)])) rfl (by rw [hml]; rfl) (Steps.refl _) (argsL := [(.int ch), (.int (0 : Int32))]) (rest := []) (lenOf pd__28II_29I rfl) rfl (by show 2 * 0 + _ ≤ _; exact Nat.le_of_eq rfl) (hb hby d32_3) (fun _ _ => ⟨rfl, e0, (by decide : 0 + 0 ≤ _), (by decide : 0 + 0 ≤ _)⟩)
 dsimp only [Pt.U, Pt.locs, Pt.cells, Pt.slots] at X1 l1 y1 z1 st1 hQ1
 subst l1 y1 z1
 obtain ⟨rfl, N1q, HQ1⟩ := hQ1
 have N1 := Fr.app N0 N1q
 refine Goes.pre (U' := T1.setTop (mkF m 6 #[sR x, sI ch] [(.int (own_iol ch))])) (fun t k => st1.trans k) ?_
 refine Goes.ret X1 (v := (some (.int (own_iol ch)))) (fun h => by rw [hret] at h; cases h) hlk (by decide) (by decide) HQ1 (fun fs hr => retI X1 hx hret (hb hby d32_6) hr) ?_
 exact ⟨rfl, N1, rfl⟩
def own_enc (c : Int32) : List Int32 := if (32 : Int32) < c ∧ own_iol c < (0 : Int32) then [c] else (own_u4 ++ [own_hx.getD (c >>> ((4 : Int32) &&& 31)).toNatClampNeg 0]) ++ [own_hx.getD (c &&& (15 : Int32)).toNatClampNeg 0]
theorem own_encE (c : Int32) (h : ¬ ((32 : Int32) < c ∧ own_iol c < (0 : Int32))) : own_enc c = (own_u4 ++ [own_hx.getD (c >>> ((4 : Int32) &&& 31)).toNatClampNeg 0]) ++ [own_hx.getD (c &&& (15 : Int32)).toNatClampNeg 0] := if_neg h
theorem own_encP (c : Int32) (h1 : (32 : Int32) < c) (h2 : own_iol c < (0 : Int32)) : own_enc c = [c] := if_pos ⟨h1, h2⟩
theorem own_encl (c : Int32) : (own_enc c).length ≤ 6 := by
  unfold own_enc
  split <;> simp [own_u4]
def own_pre (cl : List Int32) : Nat → List Int32
  | 0 => [60]
  | i + 1 => own_pre cl i ++ own_enc (cl.getD i 0)
theorem own_prel (cl : List Int32) : ∀ i, (own_pre cl i).length ≤ 1 + 6 * i
  | 0 => Nat.le_refl 1
  | i + 1 => by
    have a := own_prel cl i
    have b := own_encl (cl.getD i 0)
    show (own_pre cl i ++ own_enc (cl.getD i 0)).length ≤ _
    rw [List.length_append]
    omega
def own_iri (cl : List Int32) : List Int32 := own_pre cl cl.length ++ [62]
theorem own_iriE (cl : List Int32) (k : Nat) (h : cl.length = k) : own_iri cl = own_pre cl k ++ [62] := by unfold own_iri; rw [h]
theorem own_ltk (k : Nat) (cl : List Int32) (h : Int32.ofNat k < Int32.ofNat cl.length) (q : cl.length ≤ 3 ∧ k ≤ 3) : k < cl.length := (own_ltn k cl.length (by omega) (by omega)).mp h
theorem own_nltk (k : Nat) (cl : List Int32) (h : ¬ (Int32.ofNat k < Int32.ofNat cl.length)) (q : cl.length ≤ 3 ∧ k ≤ 3) : cl.length ≤ k := Nat.le_of_not_lt fun z => h ((own_ltn k cl.length (by omega) (by omega)).mpr z)
theorem own_n3 (cl : List Int32) (h : cl.length ≤ 3) : ¬ ((3 : Int32) < Int32.ofNat cl.length) := fun z => by
  have := (own_ltn 3 cl.length (by omega) (by omega)).mp z
  omega
theorem own_hi4 (c : Int32) (h : 0 ≤ c.toInt ∧ c.toInt ≤ 125) : ¬ ((c >>> ((4 : Int32) &&& 31)) < (0 : Int32)) ∧ (c >>> ((4 : Int32) &&& 31)) < Int32.ofNat own_hx.length := by
  have q := c_ishr c 4 4 (by decide)
  rw [Int32.lt_iff_toInt_lt, Int32.lt_iff_toInt_lt, show (0 : Int32).toInt = 0 from by decide, show (Int32.ofNat own_hx.length).toInt = 16 from by decide]
  omega
theorem own_lo4 (c : Int32) : ¬ ((c &&& (15 : Int32)) < (0 : Int32)) ∧ (c &&& (15 : Int32)) < Int32.ofNat own_hx.length := by
  have q := c_mask c 15 4 (by decide) (by decide)
  rw [Int32.lt_iff_toInt_lt, Int32.lt_iff_toInt_lt, show (0 : Int32).toInt = 0 from by decide, show (Int32.ofNat own_hx.length).toInt = 16 from by decide]
  omega
theorem own_i8 (c k : Int32) (h : 0 ≤ c.toInt ∧ c.toInt ≤ 255) (hk : 0 ≤ k.toInt ∧ k.toInt ≤ 127) : (k = c.toInt8.toInt32) ↔ c = k := by
  have a := c_i2b c
  constructor
  · intro e
    rw [← e] at a
    apply Int32.toInt_inj.mp
    omega
  · intro e
    subst e
    apply Int32.toInt_inj.mp
    omega
theorem own_canIv (c : Int32) (h : OwnCh c) : (own_canI c = (0 : Int32) ∧ 255 < c.toInt) ∨ (¬ (own_canI c = (0 : Int32)) ∧ c.toInt ≤ 255) := by
  obtain ⟨h1, h2⟩ := h
  have e1 : ¬ (c < (0 : Int32)) := by
    rw [Int32.lt_iff_toInt_lt, show (0 : Int32).toInt = 0 from by decide]
    omega
  unfold own_canI
  rw [if_neg e1]
  by_cases q : (255 : Int32) < c
  · rw [if_pos q]
    rw [Int32.lt_iff_toInt_lt, show (255 : Int32).toInt = 255 from by decide] at q
    exact Or.inl ⟨rfl, q⟩
  · rw [if_neg q]
    rw [Int32.lt_iff_toInt_lt, show (255 : Int32).toInt = 255 from by decide] at q
    exact Or.inr ⟨by decide, by omega⟩
def own_sp (c : Int32) : Prop := c = 60 ∨ c = 62 ∨ c = 34 ∨ c = 123 ∨ c = 125 ∨ c = 124 ∨ c = 94 ∨ c = 96 ∨ c = 92
theorem own_iolm (c : Int32) (h : OwnCh c) : (own_iol c < (0 : Int32)) ↔ ¬ own_sp c := by
  unfold own_iol
  rcases own_canIv c h with ⟨q, r⟩ | ⟨q, r⟩
  · rw [if_pos q]
    refine ⟨fun _ z => ?_, fun _ => by decide⟩
    rcases z with rfl | rfl | rfl | rfl | rfl | rfl | rfl | rfl | rfl <;> exact absurd r (by decide)
  · rw [if_neg q]
    have hc : 0 ≤ c.toInt ∧ c.toInt ≤ 255 := ⟨h.1, r⟩
    unfold own_ioc own_sp
    simp only [own_i8 c 60 hc (by decide), own_i8 c 62 hc (by decide), own_i8 c 34 hc (by decide), own_i8 c 123 hc (by decide), own_i8 c 125 hc (by decide), own_i8 c 124 hc (by decide), own_i8 c 94 hc (by decide), own_i8 c 96 hc (by decide), own_i8 c 92 hc (by decide)]
    by_cases a1 : c = 60
    · simp [a1]
    by_cases a2 : c = 62
    · simp [a1, a2]
    by_cases a3 : c = 34
    · simp [a1, a2, a3]
    by_cases a4 : c = 123
    · simp [a1, a2, a3, a4]
    by_cases a5 : c = 125
    · simp [a1, a2, a3, a4, a5]
    by_cases a6 : c = 124
    · simp [a1, a2, a3, a4, a5, a6]
    by_cases a7 : c = 94
    · simp [a1, a2, a3, a4, a5, a6, a7]
    by_cases a8 : c = 96
    · simp [a1, a2, a3, a4, a5, a6, a7, a8]
    by_cases a9 : c = 92
    · simp [a1, a2, a3, a4, a5, a6, a7, a8, a9]
    simp [a1, a2, a3, a4, a5, a6, a7, a8, a9]
theorem own_ebd (c : Int32) (h : OwnCh c) (he : ¬ ((32 : Int32) < c ∧ own_iol c < (0 : Int32))) : 0 ≤ c.toInt ∧ c.toInt ≤ 125 := by
  refine ⟨h.1, ?_⟩
  by_cases q : (32 : Int32) < c
  · have z : own_sp c := Classical.byContradiction fun n => he ⟨q, (own_iolm c h).mpr n⟩
    rcases z with rfl | rfl | rfl | rfl | rfl | rfl | rfl | rfl | rfl <;> decide
  · rw [Int32.lt_iff_toInt_lt, show (32 : Int32).toInt = 32 from by decide] at q
    omega
theorem ef_rm_term (m : MethodId) (x0 : Addr) (x1 : Addr) : entryFrame m #[(.ref x0), (.ref x1)] 2 = mkF m 0 #[sR x0, sR x1] [] := by first | (simp [entryFrame, mkF, argsToLocals, Value.category]; done) | rfl
theorem pn_com_example_bnodiff_bnodiff_model_Term : plainName "com/example/bnodiff/bnodiff/model/Term" = true := by first | (simp [plainName, overriddenIn]; done) | decide +kernel
abbrev M22 : MethodName := ⟨"com/example/bnodiff/bnodiff/model/Term", "<init>", "(Ljava/lang/String;)V"⟩
theorem d22_0 : decode B22 0 = .ok (.aload_n 0, 1) := by decide +kernel
theorem d22_1 : decode B22 1 = .ok (.invokespecial 1, 3) := by decide +kernel
theorem d22_4 : decode B22 4 = .ok (.aload_n 0, 1) := by decide +kernel
theorem d22_5 : decode B22 5 = .ok (.aload_n 1, 1) := by decide +kernel
theorem d22_6 : decode B22 6 = .ok (.putfield 7, 3) := by decide +kernel
theorem d22_9 : decode B22 9 = .ok (.return_, 1) := by decide +kernel
def Q_rm_term (Z : State) (a : Addr) (z : Addr) (h0 : Heap) (n0 : Nat) (v : Option Value) (h : Heap) (L : List Loc) : Prop := v = none ∧ Fr n0 L ∧ Keep h0 h [a] ∧ Fld Z h a "com/example/bnodiff/bnodiff/model/Term" "text" "Ljava/lang/String;" (.ref z)
set_option maxRecDepth 65536 in
set_option maxHeartbeats 40000000 in
theorem rm_term (l : Launch) (Z : State) (a0 : Array Value) (hw : ∀ d ∈ tables_1, d.before a0 Z = true) (ws : List Jvm.Cond) (a : Addr) (z : Addr) (h0 : Heap) (n0 : Nat) (Z0 : n0 ≤ h0.size) (E_a : Exa Z h0 a "com/example/bnodiff/bnodiff/model/Term") (F_text_a : Fld Z h0 a "com/example/bnodiff/bnodiff/model/Term" "text" "Ljava/lang/String;" .null) (g_a : n0 ≤ a) :
  Met l Z M22 prog_54_method_1_code 2 none ws (Rm 1 0 0 12) #[(.ref a), (.ref z)] h0 (Q_rm_term Z a z h0 n0) := by
 refine met_of (plainFor_of_name pn_com_example_bnodiff_bnodiff_model_Term) (own := "com/example/bnodiff/bnodiff/model/Term") rfl (fun m => ef_rm_term m a z) ?_
 intro p e s m below meth c s₁ hx hby hml hown hnm hZ X0 e0 hret hlk
 have N0 := Fr.nil n0
 have K0 := Keep.refl h0 [a]
 show Goes p e below s _ _ _ (s₁.setTop (mkF m 0 #[sR a, sR z] []))
 refine Goes.pre (U' := s₁.setTop (mkF m 1 #[sR a, sR z] [(.ref a)])) (fun t k => XS.aloadN X0.here hx rfl (hb hby d22_0) rfl rfl k) ?_
 obtain ⟨T1, X1, e1, st1⟩ := initO X0 hx hZ hown (wq hw 131 rfl) (wq hw 18 rfl) (wq hw 19 rfl) e0 (g := (mkF m 1 #[sR a, sR z] [(.ref a)])) rfl (by rw [hml]; rfl) rfl (hb hby d22_1) (by decide) (W := 0) (by show 2 * 0 + _ ≤ _; exact Nat.le_of_eq rfl) (by decide)
 refine Goes.pre (U' := T1.setTop (mkF m 6 #[sR a, sR z] [(.ref z), (.ref a)])) (fun t k => st1 t (XS.aloadN X1.here hx rfl (hb hby d22_4) rfl rfl (XS.aloadN X1.here hx rfl (hb hby d22_5) rfl rfl k))) ?_
 obtain ⟨T2, h2, X2, e2, W2, st2⟩ := putF X1 hx hZ hown (host := "") (Or.inl (wq hw 132 rfl)) Via.refl e1 F_text_a E_a (Or.inr ⟨(wq hw 133 rfl), rfl, hnm⟩) (wq hw 88 rfl) (ty := (.object "java/lang/String")) (by decide) rfl rfl (g := (mkF m 6 #[sR a, sR z] [(.ref z), (.ref a)])) rfl rfl (hb hby d22_6)
 have E_a := E_a.wr W2
 have Z2 : n0 ≤ h2.size := Nat.le_trans Z0 (Keep.of_wr W2).1
 have F_text_a := F_text_a.same W2
 have K2 := K0.wr W2 (Or.inl (List.mem_of_getElem? (i := 0) rfl))
 have N2 := Fr.snoc X2 N0 g_a
 refine Goes.pre (U' := T2.setTop (mkF m 9 #[sR a, sR z] [])) (fun t k => st2 t k) ?_
 refine Goes.ret X2 (v := none) (fun _ => rfl) hlk (by decide) (by decide) e2 (fun fs hr => X2.returnOut hx hret (hb hby d22_9) hr) ?_
 exact ⟨rfl, N2, K2, F_text_a⟩
theorem ef_rm_tts (m : MethodId) (x0 : Addr) : entryFrame m #[(.ref x0)] 1 = mkF m 0 #[sR x0] [] := by first | (simp [entryFrame, mkF, argsToLocals, Value.category]; done) | rfl
abbrev M23 : MethodName := ⟨"com/example/bnodiff/bnodiff/model/Term", "toString", "()Ljava/lang/String;"⟩
theorem d23_0 : decode B23 0 = .ok (.aload_n 0, 1) := by decide +kernel
theorem d23_1 : decode B23 1 = .ok (.getfield 7, 3) := by decide +kernel
theorem d23_4 : decode B23 4 = .ok (.areturn, 1) := by decide +kernel
def Q_rm_tts (Z : State) (a : Addr) (z : Addr) (h0 : Heap) (n0 : Nat) (v : Option Value) (h : Heap) (L : List Loc) : Prop := v = some (.ref z) ∧ Fr n0 L ∧ h = h0
set_option maxRecDepth 65536 in
set_option maxHeartbeats 40000000 in
theorem rm_tts (l : Launch) (Z : State) (a0 : Array Value) (hw : ∀ d ∈ tables_1, d.before a0 Z = true) (ws : List Jvm.Cond) (a : Addr) (z : Addr) (h0 : Heap) (n0 : Nat) (Z0 : n0 ≤ h0.size) (F_text_a : Fld Z h0 a "com/example/bnodiff/bnodiff/model/Term" "text" "Ljava/lang/String;" (.ref z)) :
  Met l Z M23 prog_54_method_10_code 1 (some (.object "java/lang/String")) ws (Rm 0 0 0 0) #[(.ref a)] h0 (Q_rm_tts Z a z h0 n0) := by
 refine met_of (plainFor_of_name pn_com_example_bnodiff_bnodiff_model_Term) (own := "com/example/bnodiff/bnodiff/model/Term") rfl (fun m => ef_rm_tts m a) ?_
 intro p e s m below meth c s₁ hx hby hml hown hnm hZ X0 e0 hret hlk
 have N0 := Fr.nil n0
 show Goes p e below s _ _ _ (s₁.setTop (mkF m 0 #[sR a] []))
 refine Goes.pre (U' := s₁.setTop (mkF m 1 #[sR a] [(.ref a)])) (fun t k => XS.aloadN X0.here hx rfl (hb hby d23_0) rfl rfl k) ?_
 obtain ⟨T1, X1, e1, st1⟩ := getF X0 hx hZ hown (host := "") (Or.inl (wq hw 132 rfl)) Via.refl e0 F_text_a (g := (mkF m 1 #[sR a] [(.ref a)])) rfl rfl (hb hby d23_1)
 refine Goes.pre (U' := T1.setTop (mkF m 4 #[sR a] [(.ref z)])) (fun t k => st1 t k) ?_
 refine Goes.ret X1 (v := (some (.ref z))) (fun h => by rw [hret] at h; cases h) hlk (by decide) (by decide) e1 (fun fs hr => retOut X1 hx hret rfl (Or.inr (Or.inr (Or.inr (Or.inr ⟨rfl, rfl, rfl⟩)))) (hb hby d23_4) hr) ?_
 exact ⟨rfl, N0, rfl⟩
theorem ef_rm_iri (m : MethodId) (x0 : Addr) : entryFrame m #[(.ref x0)] 4 = mkF m 0 #[sR x0, .unset, .unset, .unset] [] := by first | (simp [entryFrame, mkF, argsToLocals, Value.category]; done) | rfl
abbrev M5 : MethodName := ⟨"com/example/bnodiff/bnodiff/model/Term", "iri", "(Ljava/lang/String;)Lcom/example/bnodiff/bnodiff/model/Term;"⟩
theorem d5_0 : decode B5 0 = .ok (.new 13, 3) := by decide +kernel
theorem d5_3 : decode B5 3 = .ok (.dup, 1) := by decide +kernel
theorem d5_4 : decode B5 4 = .ok (.aload_n 0, 1) := by decide +kernel
theorem d5_5 : decode B5 5 = .ok (.invokevirtual 15, 3) := by decide +kernel
theorem d5_8 : decode B5 8 = .ok (.iconst 2, 1) := by decide +kernel
theorem d5_9 : decode B5 9 = .ok (.iadd, 1) := by decide +kernel
theorem d5_10 : decode B5 10 = .ok (.invokespecial 21, 3) := by decide +kernel
theorem d5_13 : decode B5 13 = .ok (.bipush 60, 2) := by decide +kernel
theorem d5_15 : decode B5 15 = .ok (.invokevirtual 24, 3) := by decide +kernel
theorem pd__28C_29Ljava_2flang_2fStringBuilder_3b : parseMethodDescriptor "(C)Ljava/lang/StringBuilder;" = some ⟨[.char], some (.object "java/lang/StringBuilder")⟩ := by decide +kernel
theorem d5_18 : decode B5 18 = .ok (.astore_n 1, 1) := by decide +kernel
theorem d5_19 : decode B5 19 = .ok (.iconst 0, 1) := by decide +kernel
theorem d5_20 : decode B5 20 = .ok (.istore_n 2, 1) := by decide +kernel
theorem d5_21 : decode B5 21 = .ok (.iload_n 2, 1) := by decide +kernel
theorem d5_22 : decode B5 22 = .ok (.aload_n 0, 1) := by decide +kernel
theorem d5_23 : decode B5 23 = .ok (.invokevirtual 15, 3) := by decide +kernel
theorem d5_26 : decode B5 26 = .ok (.if_icmp .ge 69, 3) := by decide +kernel
theorem d5_29 : decode B5 29 = .ok (.aload_n 0, 1) := by decide +kernel
theorem d5_30 : decode B5 30 = .ok (.iload_n 2, 1) := by decide +kernel
theorem d5_31 : decode B5 31 = .ok (.invokevirtual 28, 3) := by decide +kernel
theorem pd__28I_29C : parseMethodDescriptor "(I)C" = some ⟨[.int], some .char⟩ := by decide +kernel
theorem d5_34 : decode B5 34 = .ok (.istore_n 3, 1) := by decide +kernel
theorem d5_35 : decode B5 35 = .ok (.iload_n 3, 1) := by decide +kernel
theorem d5_36 : decode B5 36 = .ok (.bipush 32, 2) := by decide +kernel
theorem d5_38 : decode B5 38 = .ok (.if_icmp .le 12, 3) := by decide +kernel
theorem d5_41 : decode B5 41 = .ok (.ldc 32, 2) := by decide +kernel
theorem d5_43 : decode B5 43 = .ok (.iload_n 3, 1) := by decide +kernel
theorem d5_44 : decode B5 44 = .ok (.invokevirtual 34, 3) := by decide +kernel
theorem d5_47 : decode B5 47 = .ok (.ifCond .lt 36, 3) := by decide +kernel
theorem d5_83 : decode B5 83 = .ok (.aload_n 1, 1) := by decide +kernel
theorem d5_84 : decode B5 84 = .ok (.iload_n 3, 1) := by decide +kernel
theorem d5_85 : decode B5 85 = .ok (.invokevirtual 24, 3) := by decide +kernel
theorem d5_88 : decode B5 88 = .ok (.pop, 1) := by decide +kernel
theorem d5_89 : decode B5 89 = .ok (.iinc 2 1, 3) := by decide +kernel
theorem d5_92 : decode B5 92 = .ok (.goto (-71), 3) := by decide +kernel
theorem d5_50 : decode B5 50 = .ok (.aload_n 1, 1) := by decide +kernel
theorem d5_51 : decode B5 51 = .ok (.ldc 38, 2) := by decide +kernel
theorem d5_53 : decode B5 53 = .ok (.invokevirtual 40, 3) := by decide +kernel
theorem pd__28Ljava_2flang_2fString_3b_29Ljava_2flang_2fStringBuilder_3b : parseMethodDescriptor "(Ljava/lang/String;)Ljava/lang/StringBuilder;" = some ⟨[(.object "java/lang/String")], some (.object "java/lang/StringBuilder")⟩ := by decide +kernel
theorem d5_56 : decode B5 56 = .ok (.ldc 43, 2) := by decide +kernel
theorem d5_58 : decode B5 58 = .ok (.iload_n 3, 1) := by decide +kernel
theorem d5_59 : decode B5 59 = .ok (.iconst 4, 1) := by decide +kernel
theorem d5_60 : decode B5 60 = .ok (.ishr, 1) := by decide +kernel
theorem d5_61 : decode B5 61 = .ok (.invokevirtual 28, 3) := by decide +kernel
theorem d5_64 : decode B5 64 = .ok (.invokevirtual 24, 3) := by decide +kernel
theorem d5_67 : decode B5 67 = .ok (.ldc 43, 2) := by decide +kernel
theorem d5_69 : decode B5 69 = .ok (.iload_n 3, 1) := by decide +kernel
theorem d5_70 : decode B5 70 = .ok (.bipush 15, 2) := by decide +kernel
theorem d5_72 : decode B5 72 = .ok (.iand, 1) := by decide +kernel
theorem d5_73 : decode B5 73 = .ok (.invokevirtual 28, 3) := by decide +kernel
theorem d5_76 : decode B5 76 = .ok (.invokevirtual 24, 3) := by decide +kernel
theorem d5_79 : decode B5 79 = .ok (.pop, 1) := by decide +kernel
theorem d5_80 : decode B5 80 = .ok (.goto 9, 3) := by decide +kernel
theorem d5_95 : decode B5 95 = .ok (.new 8, 3) := by decide +kernel
theorem d5_98 : decode B5 98 = .ok (.dup, 1) := by decide +kernel
theorem d5_99 : decode B5 99 = .ok (.aload_n 1, 1) := by decide +kernel
theorem d5_100 : decode B5 100 = .ok (.bipush 62, 2) := by decide +kernel
theorem d5_102 : decode B5 102 = .ok (.invokevirtual 24, 3) := by decide +kernel
theorem d5_105 : decode B5 105 = .ok (.invokevirtual 45, 3) := by decide +kernel
theorem pd__28_29Ljava_2flang_2fString_3b : parseMethodDescriptor "()Ljava/lang/String;" = some ⟨[], some (.object "java/lang/String")⟩ := by decide +kernel
theorem d5_108 : decode B5 108 = .ok (.invokespecial 49, 3) := by decide +kernel
theorem d5_111 : decode B5 111 = .ok (.areturn, 1) := by decide +kernel
def Q_rm_iri (Z : State) (x : Addr) (xb : Addr) (kx : ClassId) (cl : List Int32) (cs : Int32) (sf : Value) (h0 : Heap) (n0 : Nat) (v : Option Value) (h : Heap) (L : List Loc) : Prop := ∃ (tt : Addr) (tz : Addr) (tb : Addr) (kt : ClassId), v = some (.ref tt) ∧ Fr n0 L ∧ Keep h0 h [] ∧ Exa Z h tt "com/example/bnodiff/bnodiff/model/Term" ∧ Fld Z h tt "com/example/bnodiff/bnodiff/model/Term" "text" "Ljava/lang/String;" (.ref tz) ∧ OwnStr Z h tz tb kt (own_iri cl)
set_option maxRecDepth 65536 in
set_option maxHeartbeats 40000000 in
theorem rm_iri (l : Launch) (Z : State) (a0 : Array Value) (hw : ∀ d ∈ tables_1, d.before a0 Z = true) (hEL : EW Z a0 own_EL) (ws : List Jvm.Cond) (x : Addr) (xb : Addr) (kx : ClassId) (cl : List Int32) (cs : Int32) (sf : Value) (h0 : Heap) (n0 : Nat) (Z0 : n0 ≤ h0.size) (S_x : OwnStr Z h0 x xb kx cl) (sC : OCS Z (.int cs)) (sA : OAD Z (.int (1 : Int32))) (sH : OHI Z (.int (0 : Int32))) (sL : OLO Z (.int (8 : Int32))) (sF : OSF Z sf) (hl3 : cl.length ≤ 3) (hcs : ¬ (cs = (0 : Int32))) (hsf : sf.isRef = true) (O : Old Z n0 h0) :
  MetW l Z own_EL M5 prog_54_method_2_code 4 (some (.object "com/example/bnodiff/bnodiff/model/Term")) ws (Rm 9 34 1553 132) #[(.ref x)] [] h0 (Q_rm_iri Z x xb kx cl cs sf h0 n0) := by
 refine metW_of (plainFor_of_name pn_com_example_bnodiff_bnodiff_model_Term) (own := "com/example/bnodiff/bnodiff/model/Term") rfl (fun m => ef_rm_iri m x) ?_
 intro p e s m below meth c s₁ hx hby hml hown hnm hZ X0 e0 hret hlk H hSf CR hS
 have N0 := Fr.nil n0
 have K0 := Keep.refl h0 []
 have hk := Nat.le_refl h0.size
 show GoesW p e below s Z own_EL _ _ _ (s₁.setTop (mkF m 0 #[sR x, .unset, .unset, .unset] []))
 obtain ⟨T1, h1, X1, e1, E1, A1, D1, -, st1⟩ := newO X0 hx hZ hown (wq hw 32 rfl) (wq hw 33 rfl) (wq hw 34 rfl) e0 (g := (mkF m 0 #[sR x, .unset, .unset, .unset] [])) rfl (hb hby d5_0) (by decide) (by decide)
 obtain ⟨sb, g1⟩ : ∃ z, z = h0.size := ⟨_, rfl⟩
 rw [← g1] at A1 D1 st1
 have ne_x_sb : x ≠ sb := Nat.ne_of_lt (Nat.lt_of_lt_of_le S_x.lt (Nat.le_of_eq g1.symm))
 have ne_sb_x := ne_x_sb.symm
 have ne_xb_sb : xb ≠ sb := Nat.ne_of_lt (Nat.lt_of_lt_of_le S_x.ltb (Nat.le_of_eq g1.symm))
 have ne_sb_xb := ne_xb_sb.symm
 have g_sb : n0 ≤ sb := Nat.le_trans Z0 (Nat.le_of_eq g1.symm)
 have sz_sb : h0.size ≤ sb := Nat.le_trans K0.1 (Nat.le_of_eq g1.symm)
 have S_x := S_x.ext E1
 have O := O.ext E1
 have SF_sb := Safe.ext E1 H (Safe.new (x := sb) (Nat.le_of_eq g1.symm))
 have CR := CR.trans (CHr.ext E1 H)
 have H := H.ext E1
 have hk := Nat.le_trans hk E1.1
 have Z1 : n0 ≤ h1.size := Nat.le_trans Z0 E1.1
 have K1 := K0.ext E1
 have E_sb := A1
 have Fv_sb : Fld Z h1 sb "java/lang/AbstractStringBuilder" "value" "[B" .null := D1 (Or.inl (wq hw 58 rfl)) (ty := (.array .byte)) (by decide)
 have Fc_sb : Fld Z h1 sb "java/lang/AbstractStringBuilder" "coder" "B" (.int (0 : Int32)) := D1 (Or.inl (wq hw 60 rfl)) (ty := .byte) (by decide)
 have Fn_sb : Fld Z h1 sb "java/lang/AbstractStringBuilder" "count" "I" (.int (0 : Int32)) := D1 (Or.inl (wq hw 72 rfl)) (ty := .int) (by decide)
 have Fm_sb : Fld Z h1 sb "java/lang/AbstractStringBuilder" "maybeLatin1" "Z" (.int (0 : Int32)) := D1 (Or.inl (wq hw 315 rfl)) (ty := .boolean) (by decide)
 refine GoesW.pre (U' := T1.setTop (mkF m 5 #[sR x, .unset, .unset, .unset] [(.ref x), (.ref sb), (.ref sb)])) (fun t k => st1 t (XS.dup X1.here hx rfl (hb hby d5_3) rfl rfl (XS.aloadN X1.here hx rfl (hb hby d5_4) rfl rfl k))) ?_
 obtain ⟨cq2, kq2, q2a, q2b, q2c⟩ := isOf hZ e1 S_x.1
 obtain ⟨_, _, ⟨T2, L2, k2, n2⟩, -, X2, ⟨Lc2, hQ2, l2, y2, z2⟩, st2⟩ := X1.virtualBack hx (y := M6) (z := M6) hown (mvT hZ (wq hw 35 rfl)) (mvT hZ (wq hw 36 rfl)) (notFace_of_selects (args := #[]) (mvT hZ (wq hw 38 rfl))) (mvT hZ (wq hw 38 rfl)) (mvT hZ (wq hw 37 rfl)) (by decide) (backOf (W := 2) (rm_len l Z a0 hw [] x xb kx cl cs h1 n0 Z1 S_x sC hcs (by omega) O) hZ (wq hw 39 rfl) (wq hw 8 rfl) (by decide) (by decide)) q2a q2c (g := (mkF m 5 #[sR x, .unset, .unset, .unset] [(.ref x), (.ref sb), (.ref sb)])) rfl (by rw [hml]; rfl) (Steps.refl _) (argsL := []) (rest := [(.ref sb), (.ref sb)]) (lenOf pd__28_29I rfl) rfl (by show 2 * 0 + _ ≤ _; exact Nat.le_of_eq rfl) (hb hby d5_5) (fun _ _ => ⟨rfl, e1, (by decide : 1 + 0 ≤ _), (by decide : 4 + 0 ≤ _)⟩)
 dsimp only [Pt.U, Pt.locs, Pt.cells, Pt.slots] at X2 l2 y2 z2 st2 hQ2
 subst l2 y2 z2
 obtain ⟨rfl, N2q, HQ2⟩ := hQ2
 have N2 := Fr.app N0 N2q
 refine GoesW.pre (U' := T2.setTop (mkF m 10 #[sR x, .unset, .unset, .unset] [(.int ((Int32.ofNat cl.length) + (2 : Int32))), (.ref sb), (.ref sb)])) (fun t k => st2.trans (XS.iconst X2.here hx rfl (hb hby d5_8) (XS.iadd X2.here hx rfl (hb hby d5_9) rfl k))) ?_
 rw [show Int32.ofNat cl.length + (2 : Int32) = Int32.ofNat (cl.length + 2) from own_addk _ _]
 have lt_sb := E_sb.lt
 have lt_x := S_x.lt
 have lt_xb := S_x.ltb
 obtain ⟨_, _, ⟨T3, L3, k3, n3⟩, -, X3, ⟨Lc3, hQ3, l3, y3, z3⟩, st3⟩ := X2.specialBack hx (y := M8) rfl hown (mvT hZ (wq hw 46 rfl)) (mvT hZ (wq hw 47 rfl)) (mvT hZ (wq hw 48 rfl)) (by decide) (backOf (W := 1) (rm_sbI l Z a0 hw [] sb (cl.length + 2) cs h1 n0 Z1 E_sb Fv_sb Fc_sb Fn_sb Fm_sb sC (by omega) hcs g_sb O) hZ (wq hw 48 rfl) (wq hw 34 rfl) (by decide) (by decide)) (g := (mkF m 10 #[sR x, .unset, .unset, .unset] [(.int (Int32.ofNat (cl.length + 2))), (.ref sb), (.ref sb)])) rfl (by rw [hml]; rfl) (Steps.refl _) (a := sb) (argsL := [(.int (Int32.ofNat (cl.length + 2)))]) (rest := [(.ref sb)]) (lenOf pd__28I_29V rfl) rfl (by show 2 * 0 + _ ≤ _; exact Nat.le_of_eq rfl) (hb hby d5_10) (fun _ _ => ⟨rfl, HQ2, (by decide : 1 + 1 ≤ _), (by decide : 4 + 8 ≤ _)⟩)
 dsimp only [Pt.U, Pt.locs, Pt.cells, Pt.slots] at X3 l3 y3 z3 st3 hQ3
 subst l3 y3 z3
 obtain ⟨bz3, kz3, rfl, N3q, KQ3, fo0_3, g_bz3, sl_bz3⟩ := hQ3
 have N3 := Fr.app N2 N3q
 have SF_bz3 : Safe Z own_EL s.vm h1 bz3 := Safe.new sl_bz3
 have S_x := S_x.keep KQ3 (ninS ne_x_sb nin0) (ninS ne_xb_sb nin0)
 have E_sb := E_sb.keep KQ3
 have Z4 : n0 ≤ T3.heap.size := Nat.le_trans Z1 KQ3.1
 have O := O.keep KQ3 (allS (P := fun x => n0 ≤ x) g_sb all0)
 have hsafe := (allS (P := fun x => Safe Z own_EL s.vm _ x) SF_sb all0)
 have SF_sb := Safe.keep KQ3 hsafe H SF_sb
 have SF_bz3 := Safe.keep KQ3 hsafe H SF_bz3
 have CR := CR.trans (CHr.keep KQ3 hsafe H)
 have H := H.keep KQ3 hsafe
 have hk := Nat.le_trans hk KQ3.1
 have K4 := K1.trans KQ3 (allS (P := fun x => x ∈ [] ∨ h0.size ≤ x) (Or.inr sz_sb) all0)
 have ne_sb_bz3 : sb ≠ bz3 := Nat.ne_of_lt (Nat.lt_of_lt_of_le lt_sb sl_bz3)
 have ne_bz3_sb := ne_sb_bz3.symm
 have ne_x_bz3 : x ≠ bz3 := Nat.ne_of_lt (Nat.lt_of_lt_of_le lt_x sl_bz3)
 have ne_bz3_x := ne_x_bz3.symm
 have ne_xb_bz3 : xb ≠ bz3 := Nat.ne_of_lt (Nat.lt_of_lt_of_le lt_xb sl_bz3)
 have ne_bz3_xb := ne_xb_bz3.symm
 have sz_bz3 : h0.size ≤ bz3 := Nat.le_trans K1.1 sl_bz3
 have S_sb := fo0_3
 refine GoesW.pre (U' := T3.setTop (mkF m 15 #[sR x, .unset, .unset, .unset] [(.int (60 : Int32)), (.ref sb)])) (fun t k => st3.trans (XS.bipush X3.here hx rfl (hb hby d5_13) k)) ?_
 have lt_bz3 := S_sb.ltb
 have lt_sb := E_sb.lt
 have lt_x := S_x.lt
 have lt_xb := S_x.ltb
 obtain ⟨cq5, kq5, q5a, q5b, q5c⟩ := isOf hZ rfl E_sb
 obtain ⟨_, _, ⟨T5, L5, k5, n5⟩, -, X5, ⟨Lc5, hQ5, l5, y5, z5⟩, st5⟩ := X3.virtualBack hx (y := M10) (z := M10) hown (mvT hZ (wq hw 61 rfl)) (mvT hZ (wq hw 62 rfl)) (notFace_of_selects (args := #[]) (mvT hZ (wq hw 64 rfl))) (mvT hZ (wq hw 64 rfl)) (mvT hZ (wq hw 63 rfl)) (by decide) (backOf (W := 0) (rm_sbCl l Z a0 hw [] sb bz3 kz3 ([] : List Int32) (60 : Int32) cs sf T3.heap n0 Z4 S_sb sC sA sH sL sF (by decide) (⟨by decide, by decide⟩) hcs hsf ne_bz3_sb ne_sb_bz3 (by decide) g_sb g_bz3 O) hZ (wq hw 65 rfl) (wq hw 34 rfl) (by decide) (by decide)) q5a q5c (g := (mkF m 15 #[sR x, .unset, .unset, .unset] [(.int (60 : Int32)), (.ref sb)])) rfl (by rw [hml]; rfl) (Steps.refl _) (argsL := [(.int (60 : Int32))]) (rest := []) (lenOf pd__28C_29Ljava_2flang_2fStringBuilder_3b rfl) rfl (by show 2 * 0 + _ ≤ _; exact Nat.le_of_eq rfl) (hb hby d5_15) (fun _ _ => ⟨rfl, rfl, (by decide : 2 + 1 ≤ _), (by decide : 12 + 96 ≤ _)⟩)
 dsimp only [Pt.U, Pt.locs, Pt.cells, Pt.slots] at X5 l5 y5 z5 st5 hQ5
 subst l5 y5 z5
 obtain ⟨by_5, ky5, rfl, N5q, KQ5, fo0_5, g_by_5, ml_by_5⟩ := hQ5
 have N5 := Fr.app N3 N5q
 have SF_by_5 : Safe Z own_EL s.vm T3.heap by_5 := own_maySF ml_by_5 SF_bz3
 have S_x := S_x.keep KQ5 (ninS ne_x_sb (ninS ne_x_bz3 nin0)) (ninS ne_xb_sb (ninS ne_xb_bz3 nin0))
 have E_sb := E_sb.keep KQ5
 have Z6 : n0 ≤ T5.heap.size := Nat.le_trans Z4 KQ5.1
 have O := O.keep KQ5 (allS (P := fun x => n0 ≤ x) g_sb (allS (P := fun x => n0 ≤ x) g_bz3 all0))
 have hsafe := (allS (P := fun x => Safe Z own_EL s.vm _ x) SF_sb (allS (P := fun x => Safe Z own_EL s.vm _ x) SF_bz3 all0))
 have SF_sb := Safe.keep KQ5 hsafe H SF_sb
 have SF_bz3 := Safe.keep KQ5 hsafe H SF_bz3
 have SF_by_5 := Safe.keep KQ5 hsafe H SF_by_5
 have CR := CR.trans (CHr.keep KQ5 hsafe H)
 have H := H.keep KQ5 hsafe
 have hk := Nat.le_trans hk KQ5.1
 have K6 := K4.trans KQ5 (allS (P := fun x => x ∈ [] ∨ h0.size ≤ x) (Or.inr sz_sb) (allS (P := fun x => x ∈ [] ∨ h0.size ≤ x) (Or.inr sz_bz3) all0))
 have ne_sb_by_5 : sb ≠ by_5 := own_mayne ml_by_5 lt_sb ne_sb_bz3
 have ne_by_5_sb := ne_sb_by_5.symm
 have ne_x_by_5 : x ≠ by_5 := own_mayne ml_by_5 lt_x ne_x_bz3
 have ne_by_5_x := ne_x_by_5.symm
 have ne_xb_by_5 : xb ≠ by_5 := own_mayne ml_by_5 lt_xb ne_xb_bz3
 have ne_by_5_xb := ne_xb_by_5.symm
 have sz_by_5 : h0.size ≤ by_5 := own_maysz ml_by_5 sz_bz3 (Nat.le_trans K4.1)
 have S_sb := fo0_5
 refine GoesW.pre (U' := T5.setTop (mkF m 18 #[sR x, .unset, .unset, .unset] [(.ref sb)])) (fun t k => st5.trans k) ?_
 have S_sb : OwnSB Z T5.heap sb by_5 ky5 (own_pre cl 0) := S_sb
 refine GoesW.pre (U' := T5.setTop (mkF m 21 #[sR x, sR sb, sI (0 : Int32), .unset] [])) (fun t k => XS.astoreN X5.here hx rfl (hb hby d5_18) rfl rfl (l' := #[sR x, sR sb, .unset, .unset]) rfl (XS.iconst X5.here hx rfl (hb hby d5_19) (XS.istoreN X5.here hx rfl (hb hby d5_20) rfl (l' := #[sR x, sR sb, sI (0 : Int32), .unset]) rfl k))) ?_
 have J21_7 : ∀ (kk kq : Nat) (hkk : kq + kk = 3) (T7 : State) (h7 : Heap) (lc7 : List Loc) (vm7 : Vm) (ks7 : Nat), Stand p l e (Rm 9 34 1553 132) (s.setVm vm7) m #[(.ref x)] below meth c T7 lc7 (9 * kq + 3) (416 * kq + 108) → T7.heap = h7 → Fr n0 lc7 → n0 ≤ h7.size → Keep h0 h7 [] → Old Z n0 h7 → s.Since vm7 ks7 → ks7 ≤ h7.size → Z.Warmed39 (s.setVm vm7).vm → (s.setVm vm7).vm.findClass "com/example/bnodiff/bnodiff/model/Term" = some m.cls → CHv Z own_EL vm7 h7 → CHr Z own_EL s.vm s.heap vm7 h7 → ∀ (sl : Slot) (hsl : sl = .unset ∨ ∃ z, sl = sI z) (hkl : kq ≤ cl.length) (bj : Addr) (kj : ClassId) (g_bj : n0 ≤ bj) (sz_bj : h0.size ≤ bj) (ne_x_bj : x ≠ bj) (ne_bj_x : bj ≠ x) (ne_xb_bj : xb ≠ bj) (ne_bj_xb : bj ≠ xb) (ne_sb_bj : sb ≠ bj) (ne_bj_sb : bj ≠ sb), OwnStr Z h7 x xb kx cl → OwnSB Z h7 sb bj kj (own_pre cl kq) → Safe Z own_EL vm7 h7 sb → Safe Z own_EL vm7 h7 bj →  GoesW p e below s Z own_EL (Q_rm_iri Z x xb kx cl cs sf h0 n0) (Rm 9 34 1553 132).cells (Rm 9 34 1553 132).slots (T7.setTop (mkF m 21 #[sR x, sR sb, sI (Int32.ofNat kq), sl] [])) := by
  intro kk
  induction kk using Nat.strongRecOn with
  | ind kk ih =>
   intro kq hkk T7 h7 lc7 vm7 ks7 X7 e7 N7 Z7 K7 O hS hk hZ hown H CR sl hsl hkl bj kj g_bj sz_bj ne_x_bj ne_bj_x ne_xb_bj ne_bj_xb ne_sb_bj ne_bj_sb S_x S_sb SF_sb SF_bj
   refine GoesW.pre (U' := T7.setTop (mkF m 23 #[sR x, sR sb, sI (Int32.ofNat kq), sl] [(.ref x), (.int (Int32.ofNat kq))])) (fun t k => XS.iloadN X7.here hx rfl (hb hby d5_21) rfl (XS.aloadN X7.here hx rfl (hb hby d5_22) rfl rfl k)) ?_
   obtain ⟨cq8, kq8, q8a, q8b, q8c⟩ := isOf hZ e7 S_x.1
   obtain ⟨_, _, ⟨T8, L8, k8, n8⟩, -, X8, ⟨Lc8, hQ8, l8, y8, z8⟩, st8⟩ := X7.virtualBack hx (y := M6) (z := M6) hown (mvT hZ (wq hw 35 rfl)) (mvT hZ (wq hw 36 rfl)) (notFace_of_selects (args := #[]) (mvT hZ (wq hw 38 rfl))) (mvT hZ (wq hw 38 rfl)) (mvT hZ (wq hw 37 rfl)) (by decide) (backOf (W := 1) (rm_len l Z a0 hw [] x xb kx cl cs h7 n0 Z7 S_x sC hcs (by omega) O) hZ (wq hw 39 rfl) (wq hw 8 rfl) (by decide) (by decide)) q8a q8c (g := (mkF m 23 #[sR x, sR sb, sI (Int32.ofNat kq), sl] [(.ref x), (.int (Int32.ofNat kq))])) rfl (by rw [hml]; rfl) (Steps.refl _) (argsL := []) (rest := [(.int (Int32.ofNat kq))]) (lenOf pd__28_29I rfl) rfl (by show 2 * 0 + _ ≤ _; exact Nat.le_of_eq rfl) (hb hby d5_23) (fun _ _ => ⟨rfl, e7, (by show (9 * kq + 3) + 0 ≤ 34; omega), (by show (416 * kq + 108) + 0 ≤ 1553; omega)⟩)
   dsimp only [Pt.U, Pt.locs, Pt.cells, Pt.slots] at X8 l8 y8 z8 st8 hQ8
   subst l8 y8 z8
   obtain ⟨rfl, N8q, HQ8⟩ := hQ8
   have N8 := Fr.app N7 N8q
   refine GoesW.pre (U' := T8.setTop (mkF m 26 #[sR x, sR sb, sI (Int32.ofNat kq), sl] [(.int (Int32.ofNat cl.length)), (.int (Int32.ofNat kq))])) (fun t k => st8.trans k) ?_
   by_cases hc26 : (Int32.ofNat kq) < (Int32.ofNat cl.length)
   ·
    refine GoesW.pre (U' := T8.setTop (mkF m 29 #[sR x, sR sb, sI (Int32.ofNat kq), sl] [])) (fun t k => XS.icmpNo X8.here hx rfl (hb hby d5_26) rfl (tlt hc26).2.1 k) ?_
    have hlt : kq < cl.length := own_ltk kq cl hc26 (by omega)
    obtain ⟨qc, hqc⟩ : ∃ z, z = cl.getD kq 0 := ⟨_, rfl⟩
    have hch_qc : OwnCh qc := by rw [hqc]; exact S_x.2.2.1 _ (own_gmem cl kq hlt)
    suffices J35_9 : ∀ (T10 : State) (lc10 : List Loc), Stand p l e (Rm 9 34 1553 132) (s.setVm vm7) m #[(.ref x)] below meth c T10 lc10 (9 * kq + 3) (416 * kq + 108) → T10.heap = h7 → Fr n0 lc10 → ∀ (_ : True), GoesW p e below s Z own_EL (Q_rm_iri Z x xb kx cl cs sf h0 n0) (Rm 9 34 1553 132).cells (Rm 9 34 1553 132).slots (T10.setTop (mkF m 35 #[sR x, sR sb, sI (Int32.ofNat kq), sI qc] [])) by
     refine GoesW.pre (U' := T8.setTop (mkF m 30 #[sR x, sR sb, sI (Int32.ofNat kq), sl] [(.ref x)])) (fun t k => XS.aloadN X8.here hx rfl (hb hby d5_29) rfl rfl k) ?_
     rcases hsl with rfl | ⟨z3, rfl⟩
     ·
      refine GoesW.pre (U' := T8.setTop (mkF m 31 #[sR x, sR sb, sI (Int32.ofNat kq), .unset] [(.int (Int32.ofNat kq)), (.ref x)])) (fun t k => XS.iloadN X8.here hx rfl (hb hby d5_30) rfl k) ?_
      obtain ⟨cq11, kq11, q11a, q11b, q11c⟩ := isOf hZ HQ8 S_x.1
      obtain ⟨_, _, ⟨T11, L11, k11, n11⟩, -, X11, ⟨Lc11, hQ11, l11, y11, z11⟩, st11⟩ := X8.virtualBack hx (y := M24) (z := M24) hown (mvT hZ (wq hw 171 rfl)) (mvT hZ (wq hw 141 rfl)) (notFace_of_selects (args := #[]) (mvT hZ (wq hw 143 rfl))) (mvT hZ (wq hw 143 rfl)) (mvT hZ (wq hw 142 rfl)) (by decide) (backOf (W := 0) (rm_chG l Z a0 hw [] x xb kx cl (Int32.ofNat kq) cs sf h7 n0 Z7 S_x sC sA sH sL sF (own_neg kq (by omega)) hc26 (by omega) hcs hsf O) hZ (wq hw 144 rfl) (wq hw 8 rfl) (by decide) (by decide)) q11a q11c (g := (mkF m 31 #[sR x, sR sb, sI (Int32.ofNat kq), .unset] [(.int (Int32.ofNat kq)), (.ref x)])) rfl (by rw [hml]; rfl) (Steps.refl _) (argsL := [(.int (Int32.ofNat kq))]) (rest := []) (lenOf pd__28I_29C rfl) rfl (by show 2 * 0 + _ ≤ _; exact Nat.le_of_eq rfl) (hb hby d5_31) (fun _ _ => ⟨rfl, HQ8, (by show (9 * kq + 3) + 0 ≤ 34; omega), (by show (416 * kq + 108) + 0 ≤ 1553; omega)⟩)
      dsimp only [Pt.U, Pt.locs, Pt.cells, Pt.slots] at X11 l11 y11 z11 st11 hQ11
      subst l11 y11 z11
      obtain ⟨rfl, N11q, HQ11⟩ := hQ11
      have N11 := Fr.app N8 N11q
      refine GoesW.pre (U' := T11.setTop (mkF m 34 #[sR x, sR sb, sI (Int32.ofNat kq), .unset] [(.int (cl.getD (Int32.ofNat kq).toNatClampNeg 0))])) (fun t k => st11.trans k) ?_
      rw [own_ixn kq (by omega), ← hqc]
      refine GoesW.pre (U' := T11.setTop (mkF m 35 #[sR x, sR sb, sI (Int32.ofNat kq), sI qc] [])) (fun t k => XS.istoreN X11.here hx rfl (hb hby d5_34) rfl (l' := #[sR x, sR sb, sI (Int32.ofNat kq), sI qc]) rfl k) ?_
      exact J35_9 _ _ X11 HQ11 N11 trivial
     ·
      refine GoesW.pre (U' := T8.setTop (mkF m 31 #[sR x, sR sb, sI (Int32.ofNat kq), sI z3] [(.int (Int32.ofNat kq)), (.ref x)])) (fun t k => XS.iloadN X8.here hx rfl (hb hby d5_30) rfl k) ?_
      obtain ⟨cq12, kq12, q12a, q12b, q12c⟩ := isOf hZ HQ8 S_x.1
      obtain ⟨_, _, ⟨T12, L12, k12, n12⟩, -, X12, ⟨Lc12, hQ12, l12, y12, z12⟩, st12⟩ := X8.virtualBack hx (y := M24) (z := M24) hown (mvT hZ (wq hw 171 rfl)) (mvT hZ (wq hw 141 rfl)) (notFace_of_selects (args := #[]) (mvT hZ (wq hw 143 rfl))) (mvT hZ (wq hw 143 rfl)) (mvT hZ (wq hw 142 rfl)) (by decide) (backOf (W := 0) (rm_chG l Z a0 hw [] x xb kx cl (Int32.ofNat kq) cs sf h7 n0 Z7 S_x sC sA sH sL sF (own_neg kq (by omega)) hc26 (by omega) hcs hsf O) hZ (wq hw 144 rfl) (wq hw 8 rfl) (by decide) (by decide)) q12a q12c (g := (mkF m 31 #[sR x, sR sb, sI (Int32.ofNat kq), sI z3] [(.int (Int32.ofNat kq)), (.ref x)])) rfl (by rw [hml]; rfl) (Steps.refl _) (argsL := [(.int (Int32.ofNat kq))]) (rest := []) (lenOf pd__28I_29C rfl) rfl (by show 2 * 0 + _ ≤ _; exact Nat.le_of_eq rfl) (hb hby d5_31) (fun _ _ => ⟨rfl, HQ8, (by show (9 * kq + 3) + 0 ≤ 34; omega), (by show (416 * kq + 108) + 0 ≤ 1553; omega)⟩)
      dsimp only [Pt.U, Pt.locs, Pt.cells, Pt.slots] at X12 l12 y12 z12 st12 hQ12
      subst l12 y12 z12
      obtain ⟨rfl, N12q, HQ12⟩ := hQ12
      have N12 := Fr.app N8 N12q
      refine GoesW.pre (U' := T12.setTop (mkF m 34 #[sR x, sR sb, sI (Int32.ofNat kq), sI z3] [(.int (cl.getD (Int32.ofNat kq).toNatClampNeg 0))])) (fun t k => st12.trans k) ?_
      rw [own_ixn kq (by omega), ← hqc]
      refine GoesW.pre (U' := T12.setTop (mkF m 35 #[sR x, sR sb, sI (Int32.ofNat kq), sI qc] [])) (fun t k => XS.istoreN X12.here hx rfl (hb hby d5_34) rfl (l' := #[sR x, sR sb, sI (Int32.ofNat kq), sI qc]) rfl k) ?_
      exact J35_9 _ _ X12 HQ12 N12 trivial
    intro T10 lc10 X10 e10 N10 _
    suffices J50_13 : ∀ (T13 : State) (h13 : Heap) (lc13 : List Loc) (vm13 : Vm) (ks13 : Nat), Stand p l e (Rm 9 34 1553 132) (s.setVm vm13) m #[(.ref x)] below meth c T13 lc13 (9 * kq + 5) (416 * kq + 148) → T13.heap = h13 → Fr n0 lc13 → n0 ≤ h13.size → Keep h0 h13 [] → Old Z n0 h13 → s.Since vm13 ks13 → ks13 ≤ h13.size → Z.Warmed39 (s.setVm vm13).vm → (s.setVm vm13).vm.findClass "com/example/bnodiff/bnodiff/model/Term" = some m.cls → CHv Z own_EL vm13 h13 → CHr Z own_EL s.vm s.heap vm13 h13 → ∀ (hesc : ¬ ((32 : Int32) < qc ∧ own_iol qc < (0 : Int32))), OwnStr Z h13 x xb kx cl → OwnSB Z h13 sb bj kj (own_pre cl kq) → Safe Z own_EL vm13 h13 sb → Safe Z own_EL vm13 h13 bj →  GoesW p e below s Z own_EL (Q_rm_iri Z x xb kx cl cs sf h0 n0) (Rm 9 34 1553 132).cells (Rm 9 34 1553 132).slots (T13.setTop (mkF m 50 #[sR x, sR sb, sI (Int32.ofNat kq), sI qc] [])) by
     refine GoesW.pre (U' := T10.setTop (mkF m 38 #[sR x, sR sb, sI (Int32.ofNat kq), sI qc] [(.int (32 : Int32)), (.int qc)])) (fun t k => XS.iloadN X10.here hx rfl (hb hby d5_35) rfl (XS.bipush X10.here hx rfl (hb hby d5_36) k)) ?_
     by_cases hc38 : (32 : Int32) < qc
     ·
      refine GoesW.pre (U' := T10.setTop (mkF m 41 #[sR x, sR sb, sI (Int32.ofNat kq), sI qc] [])) (fun t k => XS.icmpNo X10.here hx rfl (hb hby d5_38) rfl (tlt hc38).2.2.2 k) ?_
      have lt0_sb := S_sb.lt
      have lt0_bj := S_sb.ltb
      obtain ⟨ls14, T14, h14, k1_14, lb14, kl14, X14, e14, E14, hS14, hk14, hZ14, hown14, El14, Fc14, Fv14, Av14, lta14, ltb14, CQ14, Li14, Sne14, st14⟩ := ldcCH X10 hx hZ hown (wq hw 172 rfl) (own_atoms hw) e10 hS hk hEL (List.mem_of_getElem? (i := 0) rfl) H (vs := [(.int (60 : Int32)), (.int (62 : Int32)), (.int (34 : Int32)), (.int (123 : Int32)), (.int (125 : Int32)), (.int (124 : Int32)), (.int (94 : Int32)), (.int (96 : Int32)), (.int (92 : Int32))]) (z := (9 : Int32)) ⟨by decide, by decide⟩ (by decide) (by decide) (g := (mkF m 41 #[sR x, sR sb, sI (Int32.ofNat kq), sI qc] [])) rfl (hb hby d5_41) (n := 36) (by decide) (by decide) (by show (9 * kq + 3) + 2 ≤ 34; omega) (by show (416 * kq + 108) + 40 ≤ 1553; omega)
      have S_x := S_x.ext E14
      have S_sb := S_sb.ext E14
      have O := O.ext E14
      have SF_sb : Safe Z own_EL T14.vm h14 sb := CQ14.safe lt0_sb SF_sb
      have SF_bj : Safe Z own_EL T14.vm h14 bj := CQ14.safe lt0_bj SF_bj
      have Z14 : n0 ≤ h14.size := Nat.le_trans Z7 E14.1
      have K14 := K7.ext E14
      have hS := hS14
      have hk := hk14
      have hZ := hZ14
      have hown := hown14
      have H := CQ14.1
      have CR := CR.trans CQ14
      obtain ⟨ne_sb_ls14, ne_sb_lb14⟩ := Sne14 sb SF_sb
      have ne_ls14_sb := ne_sb_ls14.symm
      have ne_lb14_sb := ne_sb_lb14.symm
      obtain ⟨ne_bj_ls14, ne_bj_lb14⟩ := Sne14 bj SF_bj
      have ne_ls14_bj := ne_bj_ls14.symm
      have ne_lb14_bj := ne_bj_lb14.symm
      have E_ls14 := El14
      have Fc_ls14 := Fc14
      have Fv_ls14 := Fv14
      have V_lb14 := Av14
      have Li_ls14 := Li14
      refine GoesW.pre (U' := T14.setTop (mkF m 43 #[sR x, sR sb, sI (Int32.ofNat kq), sI qc] [(.ref ls14)])) (fun t k => st14 t k) ?_
      have W_lb14 : Arv Z h14 lb14 kl14 .byte (Int32.ofNat own_l9.length) (own_l9.map fun c => .int c.toInt8.toInt32) (.int (0 : Int32)) := own_litB own_l9 own_b9 (by decide) V_lb14
      have S_ls14 : OwnStr Z h14 ls14 lb14 kl14 [(60 : Int32), (62 : Int32), (34 : Int32), (123 : Int32), (125 : Int32), (124 : Int32), (94 : Int32), (96 : Int32), (92 : Int32)] := ⟨E_ls14, Fv_ls14, (own_litA own_l9 own_b9).1, Or.inl ⟨Fc_ls14, W_lb14, (own_litA own_l9 own_b9).2⟩⟩
      refine GoesW.pre (U' := T14.setTop (mkF m 44 #[sR x, sR sb, sI (Int32.ofNat kq), sI qc] [(.int qc), (.ref ls14)])) (fun t k => XS.iloadN X14.here hx rfl (hb hby d5_43) rfl k) ?_
      obtain ⟨cq15, kq15, q15a, q15b, q15c⟩ := isOf hZ e14 E_ls14
      obtain ⟨_, _, ⟨T15, L15, k15, n15⟩, -, X15, ⟨Lc15, hQ15, l15, y15, z15⟩, st15⟩ := X14.virtualBack hx (y := M32) (z := M32) hown (mvT hZ (wq hw 173 rfl)) (mvT hZ (wq hw 174 rfl)) (notFace_of_selects (args := #[]) (mvT hZ (wq hw 176 rfl))) (mvT hZ (wq hw 176 rfl)) (mvT hZ (wq hw 175 rfl)) (by decide) (backOf (W := 0) (rm_io1 l Z a0 hw [] ls14 lb14 kl14 qc cs h14 n0 Z14 E_ls14 Fc_ls14 Fv_ls14 V_lb14 sC S_ls14 hcs O) hZ (wq hw 177 rfl) (wq hw 8 rfl) (by decide) (by decide)) q15a q15c (g := (mkF m 44 #[sR x, sR sb, sI (Int32.ofNat kq), sI qc] [(.int qc), (.ref ls14)])) rfl (by rw [hml]; rfl) (Steps.refl _) (argsL := [(.int qc)]) (rest := []) (lenOf pd__28I_29I rfl) rfl (by show 2 * 0 + _ ≤ _; exact Nat.le_of_eq rfl) (hb hby d5_44) (fun _ _ => ⟨rfl, e14, (by show (9 * kq + 5) + 0 ≤ 34; omega), (by show (416 * kq + 148) + 0 ≤ 1553; omega)⟩)
      dsimp only [Pt.U, Pt.locs, Pt.cells, Pt.slots] at X15 l15 y15 z15 st15 hQ15
      subst l15 y15 z15
      obtain ⟨rfl, N15q, HQ15⟩ := hQ15
      have N15 := Fr.app N10 N15q
      refine GoesW.pre (U' := T15.setTop (mkF m 47 #[sR x, sR sb, sI (Int32.ofNat kq), sI qc] [(.int (own_iol qc))])) (fun t k => st15.trans k) ?_
      by_cases hc47 : (own_iol qc) < (0 : Int32)
      ·
       refine GoesW.pre (U' := T15.setTop (mkF m 85 #[sR x, sR sb, sI (Int32.ofNat kq), sI qc] [(.int qc), (.ref sb)])) (fun t k => XS.ifYes X15.here hx rfl (pc0 := 47) (pc' := 83) rfl (hb hby d5_47) rfl ((if0 _ _).trans (tlt hc47).1) (by decide) (by decide) (XS.aloadN X15.here hx rfl (hb hby d5_83) rfl rfl (XS.iloadN X15.here hx rfl (hb hby d5_84) rfl k))) ?_
       have lt_bj := S_sb.ltb
       have lt_lb14 := V_lb14.lt
       have lt_ls14 := E_ls14.lt
       have lt_sb := S_sb.lt
       have lt_x := S_x.lt
       have lt_xb := S_x.ltb
       obtain ⟨cq16, kq16, q16a, q16b, q16c⟩ := isOf hZ HQ15 S_sb.1
       obtain ⟨_, _, ⟨T16, L16, k16, n16⟩, -, X16, ⟨Lc16, hQ16, l16, y16, z16⟩, st16⟩ := X15.virtualBack hx (y := M10) (z := M10) hown (mvT hZ (wq hw 61 rfl)) (mvT hZ (wq hw 62 rfl)) (notFace_of_selects (args := #[]) (mvT hZ (wq hw 64 rfl))) (mvT hZ (wq hw 64 rfl)) (mvT hZ (wq hw 63 rfl)) (by decide) (backOf (W := 0) (rm_sbC l Z a0 hw [] sb bj kj (own_pre cl kq) qc cs sf h14 n0 Z14 S_sb sC sA sH sL sF (by have q := own_prel cl kq; (try simp only [List.length_append, List.length_cons, List.length_nil, show own_u4.length = 4 from rfl]); omega) (hch_qc) hcs hsf ne_bj_sb ne_sb_bj g_sb g_bj O) hZ (wq hw 65 rfl) (wq hw 34 rfl) (by decide) (by decide)) q16a q16c (g := (mkF m 85 #[sR x, sR sb, sI (Int32.ofNat kq), sI qc] [(.int qc), (.ref sb)])) rfl (by rw [hml]; rfl) (Steps.refl _) (argsL := [(.int qc)]) (rest := []) (lenOf pd__28C_29Ljava_2flang_2fStringBuilder_3b rfl) rfl (by show 2 * 0 + _ ≤ _; exact Nat.le_of_eq rfl) (hb hby d5_85) (fun _ _ => ⟨rfl, HQ15, (by show (9 * kq + 5) + 2 ≤ 34; omega), (by show (416 * kq + 148) + 192 ≤ 1553; omega)⟩)
       dsimp only [Pt.U, Pt.locs, Pt.cells, Pt.slots] at X16 l16 y16 z16 st16 hQ16
       subst l16 y16 z16
       obtain ⟨by_16, ky16, rfl, N16q, KQ16, fo0_16, g_by_16, ml_by_16⟩ := hQ16
       have N16 := Fr.app N15 N16q
       have SF_by_16 : Safe Z own_EL T14.vm h14 by_16 := own_maySF ml_by_16 SF_bj
       have S_x := S_x.keep KQ16 (ninS ne_x_sb (ninS ne_x_bj nin0)) (ninS ne_xb_sb (ninS ne_xb_bj nin0))
       have E_ls14 := E_ls14.keep KQ16
       have Fc_ls14 := Fc_ls14.keep KQ16 (ninS ne_ls14_sb (ninS ne_ls14_bj nin0))
       have Fv_ls14 := Fv_ls14.keep KQ16 (ninS ne_ls14_sb (ninS ne_ls14_bj nin0))
       have V_lb14 := V_lb14.keep KQ16 (ninS ne_lb14_sb (ninS ne_lb14_bj nin0))
       have S_ls14 := S_ls14.keep KQ16 (ninS ne_ls14_sb (ninS ne_ls14_bj nin0)) (ninS ne_lb14_sb (ninS ne_lb14_bj nin0))
       have Z17 : n0 ≤ T16.heap.size := Nat.le_trans Z14 KQ16.1
       have O := O.keep KQ16 (allS (P := fun x => n0 ≤ x) g_sb (allS (P := fun x => n0 ≤ x) g_bj all0))
       have hsafe := (allS (P := fun x => Safe Z own_EL T14.vm _ x) SF_sb (allS (P := fun x => Safe Z own_EL T14.vm _ x) SF_bj all0))
       have SF_sb := Safe.keep KQ16 hsafe H SF_sb
       have SF_bj := Safe.keep KQ16 hsafe H SF_bj
       have SF_by_16 := Safe.keep KQ16 hsafe H SF_by_16
       have CR := CR.trans (CHr.keep KQ16 hsafe H)
       have H := H.keep KQ16 hsafe
       have hk := Nat.le_trans hk KQ16.1
       have K17 := K14.trans KQ16 (allS (P := fun x => x ∈ [] ∨ h0.size ≤ x) (Or.inr sz_sb) (allS (P := fun x => x ∈ [] ∨ h0.size ≤ x) (Or.inr sz_bj) all0))
       have ne_lb14_by_16 : lb14 ≠ by_16 := own_mayne ml_by_16 lt_lb14 ne_lb14_bj
       have ne_by_16_lb14 := ne_lb14_by_16.symm
       have ne_ls14_by_16 : ls14 ≠ by_16 := own_mayne ml_by_16 lt_ls14 ne_ls14_bj
       have ne_by_16_ls14 := ne_ls14_by_16.symm
       have ne_sb_by_16 : sb ≠ by_16 := own_mayne ml_by_16 lt_sb ne_sb_bj
       have ne_by_16_sb := ne_sb_by_16.symm
       have ne_x_by_16 : x ≠ by_16 := own_mayne ml_by_16 lt_x ne_x_bj
       have ne_by_16_x := ne_x_by_16.symm
       have ne_xb_by_16 : xb ≠ by_16 := own_mayne ml_by_16 lt_xb ne_xb_bj
       have ne_by_16_xb := ne_xb_by_16.symm
       have sz_by_16 : h0.size ≤ by_16 := own_maysz ml_by_16 sz_bj (Nat.le_trans K14.1)
       have S_sb := fo0_16
       refine GoesW.pre (U' := T16.setTop (mkF m 92 #[sR x, sR sb, .val (.int ((Int32.ofNat kq) + (1 : Int32))), sI qc] [])) (fun t k => st16.trans (XS.pop X16.here hx rfl (hb hby d5_88) rfl rfl (XT.iincV X16.here hx rfl (1 : Int32) (hb hby d5_89) (by decide) rfl (l' := #[sR x, sR sb, .val (.int ((Int32.ofNat kq) + (1 : Int32))), sI qc]) rfl k))) ?_
       rw [own_inc]
       refine GoesW.pre (U' := T16.setTop (mkF m 21 #[sR x, sR sb, .val (.int (Int32.ofNat (kq + 1))), sI qc] [])) (fun t k => XS.goto X16.here hx rfl (pc0 := 92) (pc' := 21) rfl (hb hby d5_92) (by decide) (by decide) k) ?_
       have S_sb : OwnSB Z T16.heap sb by_16 ky16 (own_pre cl (kq + 1)) := by show OwnSB Z _ sb by_16 ky16 (own_pre cl kq ++ own_enc (cl.getD kq 0)); rw [← hqc, own_encP qc hc38 hc47]; simpa only [List.append_assoc] using S_sb
       exact ih (kk - 1) (by omega) (kq + 1) (by omega) _ _ _ _ _ (X16.more (by omega) (by omega)) rfl N16 Z17 K17 O hS hk hZ hown H CR _ (Or.inr ⟨_, rfl⟩) hlt by_16 ky16 g_by_16 sz_by_16 ne_x_by_16 ne_by_16_x ne_xb_by_16 ne_by_16_xb ne_sb_by_16 ne_by_16_sb S_x S_sb SF_sb SF_by_16
      ·
       refine GoesW.pre (U' := T15.setTop (mkF m 50 #[sR x, sR sb, sI (Int32.ofNat kq), sI qc] [])) (fun t k => XS.ifNo X15.here hx rfl (hb hby d5_47) rfl ((if0 _ _).trans (flt hc47).1) k) ?_
       exact J50_13 _ _ _ _ _ X15 HQ15 N15 Z14 K14 O hS hk hZ hown H CR (fun z => hc47 z.2) S_x S_sb SF_sb SF_bj
     ·
      refine GoesW.pre (U' := T10.setTop (mkF m 50 #[sR x, sR sb, sI (Int32.ofNat kq), sI qc] [])) (fun t k => XS.icmpYes X10.here hx rfl (pc0 := 38) (pc' := 50) rfl (hb hby d5_38) rfl (flt hc38).2.2.2 (by decide) (by decide) k) ?_
      exact J50_13 _ _ _ _ _ (X10.more (by omega) (by omega)) e10 N10 Z7 K7 O hS hk hZ hown H CR (fun z => hc38 z.1) S_x S_sb SF_sb SF_bj
    intro T13 h13 lc13 vm13 ks13 X13 e13 N13 Z13 K13 O hS hk hZ hown H CR hesc S_x S_sb SF_sb SF_bj
    refine GoesW.pre (U' := T13.setTop (mkF m 51 #[sR x, sR sb, sI (Int32.ofNat kq), sI qc] [(.ref sb)])) (fun t k => XS.aloadN X13.here hx rfl (hb hby d5_50) rfl rfl k) ?_
    have lt0_sb := S_sb.lt
    have lt0_bj := S_sb.ltb
    obtain ⟨ls18, T18, h18, k1_18, lb18, kl18, X18, e18, E18, hS18, hk18, hZ18, hown18, El18, Fc18, Fv18, Av18, lta18, ltb18, CQ18, Li18, Sne18, st18⟩ := ldcCH X13 hx hZ hown (wq hw 209 rfl) (own_atoms hw) e13 hS hk hEL (List.mem_of_getElem? (i := 1) rfl) H (vs := [(.int (92 : Int32)), (.int (117 : Int32)), (.int (48 : Int32)), (.int (48 : Int32))]) (z := (4 : Int32)) ⟨by decide, by decide⟩ (by decide) (by decide) (g := (mkF m 51 #[sR x, sR sb, sI (Int32.ofNat kq), sI qc] [(.ref sb)])) rfl (hb hby d5_51) (n := 16) (by decide) (by decide) (by show (9 * kq + 5) + 2 ≤ 34; omega) (by show (416 * kq + 148) + 20 ≤ 1553; omega)
    have S_x := S_x.ext E18
    have S_sb := S_sb.ext E18
    have O := O.ext E18
    have SF_sb : Safe Z own_EL T18.vm h18 sb := CQ18.safe lt0_sb SF_sb
    have SF_bj : Safe Z own_EL T18.vm h18 bj := CQ18.safe lt0_bj SF_bj
    have Z18 : n0 ≤ h18.size := Nat.le_trans Z13 E18.1
    have K18 := K13.ext E18
    have hS := hS18
    have hk := hk18
    have hZ := hZ18
    have hown := hown18
    have H := CQ18.1
    have CR := CR.trans CQ18
    obtain ⟨ne_sb_ls18, ne_sb_lb18⟩ := Sne18 sb SF_sb
    have ne_ls18_sb := ne_sb_ls18.symm
    have ne_lb18_sb := ne_sb_lb18.symm
    obtain ⟨ne_bj_ls18, ne_bj_lb18⟩ := Sne18 bj SF_bj
    have ne_ls18_bj := ne_bj_ls18.symm
    have ne_lb18_bj := ne_bj_lb18.symm
    have E_ls18 := El18
    have Fc_ls18 := Fc18
    have Fv_ls18 := Fv18
    have V_lb18 := Av18
    have Li_ls18 := Li18
    refine GoesW.pre (U' := T18.setTop (mkF m 53 #[sR x, sR sb, sI (Int32.ofNat kq), sI qc] [(.ref ls18), (.ref sb)])) (fun t k => st18 t k) ?_
    have W_lb18 : Arv Z h18 lb18 kl18 .byte (Int32.ofNat own_u4.length) (own_u4.map fun c => .int c.toInt8.toInt32) (.int (0 : Int32)) := own_litB own_u4 own_b4 (by decide) V_lb18
    have S_ls18 : OwnStr Z h18 ls18 lb18 kl18 own_u4 := ⟨E_ls18, Fv_ls18, (own_litA own_u4 own_b4).1, Or.inl ⟨Fc_ls18, W_lb18, (own_litA own_u4 own_b4).2⟩⟩
    have V_lb18 := W_lb18
    have lt_bj := S_sb.ltb
    have lt_lb18 := V_lb18.lt
    have lt_ls18 := E_ls18.lt
    have lt_sb := S_sb.lt
    have lt_x := S_x.lt
    have lt_xb := S_x.ltb
    obtain ⟨cq19, kq19, q19a, q19b, q19c⟩ := isOf hZ e18 S_sb.1
    obtain ⟨_, _, ⟨T19, L19, k19, n19⟩, -, X19, ⟨Lc19, hQ19, l19, y19, z19⟩, st19⟩ := X18.virtualBack hx (y := M42) (z := M42) hown (mvT hZ (wq hw 210 rfl)) (mvT hZ (wq hw 211 rfl)) (notFace_of_selects (args := #[]) (mvT hZ (wq hw 213 rfl))) (mvT hZ (wq hw 213 rfl)) (mvT hZ (wq hw 212 rfl)) (by decide) (backOf (W := 0) (rm_sbS l Z a0 hw [] sb bj kj (own_pre cl kq) ls18 lb18 kl18 own_u4 cs sf h18 n0 Z18 S_sb S_ls18 sC sA sH sL sF E_ls18 Fc_ls18 Fv_ls18 V_lb18 (by have q := own_prel cl kq; (try simp only [List.length_append, List.length_cons, List.length_nil, show own_u4.length = 4 from rfl]); omega) (by decide) (own_litA own_u4 own_b4).1 (own_litA own_u4 own_b4).2 hcs hsf ne_ls18_sb ne_ls18_bj ne_lb18_sb ne_lb18_bj ne_sb_bj ne_bj_sb g_sb g_bj O) hZ (wq hw 214 rfl) (wq hw 34 rfl) (by decide) (by decide)) q19a q19c (g := (mkF m 53 #[sR x, sR sb, sI (Int32.ofNat kq), sI qc] [(.ref ls18), (.ref sb)])) rfl (by rw [hml]; rfl) (Steps.refl _) (argsL := [(.ref ls18)]) (rest := []) (lenOf pd__28Ljava_2flang_2fString_3b_29Ljava_2flang_2fStringBuilder_3b rfl) rfl (by show 2 * 0 + _ ≤ _; exact Nat.le_of_eq rfl) (hb hby d5_53) (fun _ _ => ⟨rfl, e18, (by show (9 * kq + 7) + 1 ≤ 34; omega), (by show (416 * kq + 168) + 96 ≤ 1553; omega)⟩)
    dsimp only [Pt.U, Pt.locs, Pt.cells, Pt.slots] at X19 l19 y19 z19 st19 hQ19
    subst l19 y19 z19
    obtain ⟨by_19, ky19, rfl, N19q, KQ19, fo0_19, g_by_19, ml_by_19⟩ := hQ19
    have N19 := Fr.app N13 N19q
    have SF_by_19 : Safe Z own_EL T18.vm h18 by_19 := own_maySF ml_by_19 SF_bj
    have S_x := S_x.keep KQ19 (ninS ne_x_sb (ninS ne_x_bj nin0)) (ninS ne_xb_sb (ninS ne_xb_bj nin0))
    have E_ls18 := E_ls18.keep KQ19
    have Fc_ls18 := Fc_ls18.keep KQ19 (ninS ne_ls18_sb (ninS ne_ls18_bj nin0))
    have Fv_ls18 := Fv_ls18.keep KQ19 (ninS ne_ls18_sb (ninS ne_ls18_bj nin0))
    have V_lb18 := V_lb18.keep KQ19 (ninS ne_lb18_sb (ninS ne_lb18_bj nin0))
    have S_ls18 := S_ls18.keep KQ19 (ninS ne_ls18_sb (ninS ne_ls18_bj nin0)) (ninS ne_lb18_sb (ninS ne_lb18_bj nin0))
    have Z20 : n0 ≤ T19.heap.size := Nat.le_trans Z18 KQ19.1
    have O := O.keep KQ19 (allS (P := fun x => n0 ≤ x) g_sb (allS (P := fun x => n0 ≤ x) g_bj all0))
    have hsafe := (allS (P := fun x => Safe Z own_EL T18.vm _ x) SF_sb (allS (P := fun x => Safe Z own_EL T18.vm _ x) SF_bj all0))
    have SF_sb := Safe.keep KQ19 hsafe H SF_sb
    have SF_bj := Safe.keep KQ19 hsafe H SF_bj
    have SF_by_19 := Safe.keep KQ19 hsafe H SF_by_19
    have CR := CR.trans (CHr.keep KQ19 hsafe H)
    have H := H.keep KQ19 hsafe
    have hk := Nat.le_trans hk KQ19.1
    have K20 := K18.trans KQ19 (allS (P := fun x => x ∈ [] ∨ h0.size ≤ x) (Or.inr sz_sb) (allS (P := fun x => x ∈ [] ∨ h0.size ≤ x) (Or.inr sz_bj) all0))
    have ne_lb18_by_19 : lb18 ≠ by_19 := own_mayne ml_by_19 lt_lb18 ne_lb18_bj
    have ne_by_19_lb18 := ne_lb18_by_19.symm
    have ne_ls18_by_19 : ls18 ≠ by_19 := own_mayne ml_by_19 lt_ls18 ne_ls18_bj
    have ne_by_19_ls18 := ne_ls18_by_19.symm
    have ne_sb_by_19 : sb ≠ by_19 := own_mayne ml_by_19 lt_sb ne_sb_bj
    have ne_by_19_sb := ne_sb_by_19.symm
    have ne_x_by_19 : x ≠ by_19 := own_mayne ml_by_19 lt_x ne_x_bj
    have ne_by_19_x := ne_x_by_19.symm
    have ne_xb_by_19 : xb ≠ by_19 := own_mayne ml_by_19 lt_xb ne_xb_bj
    have ne_by_19_xb := ne_xb_by_19.symm
    have sz_by_19 : h0.size ≤ by_19 := own_maysz ml_by_19 sz_bj (Nat.le_trans K18.1)
    have S_sb := fo0_19
    refine GoesW.pre (U' := T19.setTop (mkF m 56 #[sR x, sR sb, sI (Int32.ofNat kq), sI qc] [(.ref sb)])) (fun t k => st19.trans k) ?_
    have lt0_sb := S_sb.lt
    have lt0_by_19 := S_sb.ltb
    obtain ⟨ls21, T21, h21, k1_21, lb21, kl21, X21, e21, E21, hS21, hk21, hZ21, hown21, El21, Fc21, Fv21, Av21, lta21, ltb21, CQ21, Li21, Sne21, st21⟩ := ldcCH X19 hx hZ hown (wq hw 257 rfl) (own_atoms hw) rfl hS hk hEL (List.mem_of_getElem? (i := 2) rfl) H (vs := [(.int (48 : Int32)), (.int (49 : Int32)), (.int (50 : Int32)), (.int (51 : Int32)), (.int (52 : Int32)), (.int (53 : Int32)), (.int (54 : Int32)), (.int (55 : Int32)), (.int (56 : Int32)), (.int (57 : Int32)), (.int (65 : Int32)), (.int (66 : Int32)), (.int (67 : Int32)), (.int (68 : Int32)), (.int (69 : Int32)), (.int (70 : Int32))]) (z := (16 : Int32)) ⟨by decide, by decide⟩ (by decide) (by decide) (g := (mkF m 56 #[sR x, sR sb, sI (Int32.ofNat kq), sI qc] [(.ref sb)])) rfl (hb hby d5_56) (n := 64) (by decide) (by decide) (by show (9 * kq + 8) + 2 ≤ 34; omega) (by show (416 * kq + 264) + 68 ≤ 1553; omega)
    have S_x := S_x.ext E21
    have E_ls18 := E_ls18.ext E21
    have Fc_ls18 := Fc_ls18.ext E21
    have Fv_ls18 := Fv_ls18.ext E21
    have V_lb18 := V_lb18.ext E21
    have S_ls18 := S_ls18.ext E21
    have S_sb := S_sb.ext E21
    have O := O.ext E21
    have SF_sb : Safe Z own_EL T21.vm h21 sb := CQ21.safe lt0_sb SF_sb
    have SF_by_19 : Safe Z own_EL T21.vm h21 by_19 := CQ21.safe lt0_by_19 SF_by_19
    have Z21 : n0 ≤ h21.size := Nat.le_trans Z20 E21.1
    have K21 := K20.ext E21
    have hS := hS21
    have hk := hk21
    have hZ := hZ21
    have hown := hown21
    have H := CQ21.1
    have CR := CR.trans CQ21
    obtain ⟨ne_sb_ls21, ne_sb_lb21⟩ := Sne21 sb SF_sb
    have ne_ls21_sb := ne_sb_ls21.symm
    have ne_lb21_sb := ne_sb_lb21.symm
    obtain ⟨ne_by_19_ls21, ne_by_19_lb21⟩ := Sne21 by_19 SF_by_19
    have ne_ls21_by_19 := ne_by_19_ls21.symm
    have ne_lb21_by_19 := ne_by_19_lb21.symm
    have E_ls21 := El21
    have Fc_ls21 := Fc21
    have Fv_ls21 := Fv21
    have V_lb21 := Av21
    have Li_ls21 := Li21
    refine GoesW.pre (U' := T21.setTop (mkF m 58 #[sR x, sR sb, sI (Int32.ofNat kq), sI qc] [(.ref ls21), (.ref sb)])) (fun t k => st21 t k) ?_
    have W_lb21 : Arv Z h21 lb21 kl21 .byte (Int32.ofNat own_hx.length) (own_hx.map fun c => .int c.toInt8.toInt32) (.int (0 : Int32)) := own_litB own_hx own_bh (by decide) V_lb21
    have S_ls21 : OwnStr Z h21 ls21 lb21 kl21 own_hx := ⟨E_ls21, Fv_ls21, (own_litA own_hx own_bh).1, Or.inl ⟨Fc_ls21, W_lb21, (own_litA own_hx own_bh).2⟩⟩
    have V_lb21 := W_lb21
    refine GoesW.pre (U' := T21.setTop (mkF m 61 #[sR x, sR sb, sI (Int32.ofNat kq), sI qc] [(.int (qc >>> ((4 : Int32) &&& 31))), (.ref ls21), (.ref sb)])) (fun t k => XS.iloadN X21.here hx rfl (hb hby d5_58) rfl (XS.iconst X21.here hx rfl (hb hby d5_59) (XS.ishr X21.here hx rfl (hb hby d5_60) rfl k))) ?_
    obtain ⟨cq22, kq22, q22a, q22b, q22c⟩ := isOf hZ e21 E_ls21
    obtain ⟨_, _, ⟨T22, L22, k22, n22⟩, -, X22, ⟨Lc22, hQ22, l22, y22, z22⟩, st22⟩ := X21.virtualBack hx (y := M24) (z := M24) hown (mvT hZ (wq hw 171 rfl)) (mvT hZ (wq hw 141 rfl)) (notFace_of_selects (args := #[]) (mvT hZ (wq hw 143 rfl))) (mvT hZ (wq hw 143 rfl)) (mvT hZ (wq hw 142 rfl)) (by decide) (backOf (W := 1) (rm_chG l Z a0 hw [] ls21 lb21 kl21 own_hx (qc >>> ((4 : Int32) &&& 31)) cs sf h21 n0 Z21 S_ls21 sC sA sH sL sF (own_hi4 _ (own_ebd _ hch_qc hesc)).1 (own_hi4 _ (own_ebd _ hch_qc hesc)).2 (by decide) hcs hsf O) hZ (wq hw 144 rfl) (wq hw 8 rfl) (by decide) (by decide)) q22a q22c (g := (mkF m 61 #[sR x, sR sb, sI (Int32.ofNat kq), sI qc] [(.int (qc >>> ((4 : Int32) &&& 31))), (.ref ls21), (.ref sb)])) rfl (by rw [hml]; rfl) (Steps.refl _) (argsL := [(.int (qc >>> ((4 : Int32) &&& 31)))]) (rest := [(.ref sb)]) (lenOf pd__28I_29C rfl) rfl (by show 2 * 0 + _ ≤ _; exact Nat.le_of_eq rfl) (hb hby d5_61) (fun _ _ => ⟨rfl, e21, (by show (9 * kq + 10) + 0 ≤ 34; omega), (by show (416 * kq + 332) + 0 ≤ 1553; omega)⟩)
    dsimp only [Pt.U, Pt.locs, Pt.cells, Pt.slots] at X22 l22 y22 z22 st22 hQ22
    subst l22 y22 z22
    obtain ⟨rfl, N22q, HQ22⟩ := hQ22
    have N22 := Fr.app N19 N22q
    refine GoesW.pre (U' := T22.setTop (mkF m 64 #[sR x, sR sb, sI (Int32.ofNat kq), sI qc] [(.int (own_hx.getD (qc >>> ((4 : Int32) &&& 31)).toNatClampNeg 0)), (.ref sb)])) (fun t k => st22.trans k) ?_
    have lt_by_19 := S_sb.ltb
    have lt_lb18 := V_lb18.lt
    have lt_lb21 := V_lb21.lt
    have lt_ls18 := E_ls18.lt
    have lt_ls21 := E_ls21.lt
    have lt_sb := S_sb.lt
    have lt_x := S_x.lt
    have lt_xb := S_x.ltb
    obtain ⟨cq23, kq23, q23a, q23b, q23c⟩ := isOf hZ HQ22 S_sb.1
    obtain ⟨_, _, ⟨T23, L23, k23, n23⟩, -, X23, ⟨Lc23, hQ23, l23, y23, z23⟩, st23⟩ := X22.virtualBack hx (y := M10) (z := M10) hown (mvT hZ (wq hw 61 rfl)) (mvT hZ (wq hw 62 rfl)) (notFace_of_selects (args := #[]) (mvT hZ (wq hw 64 rfl))) (mvT hZ (wq hw 64 rfl)) (mvT hZ (wq hw 63 rfl)) (by decide) (backOf (W := 0) (rm_sbCl l Z a0 hw [] sb by_19 ky19 ((own_pre cl kq) ++ own_u4) (own_hx.getD (qc >>> ((4 : Int32) &&& 31)).toNatClampNeg 0) cs sf h21 n0 Z21 S_sb sC sA sH sL sF (by have q := own_prel cl kq; (try simp only [List.length_append, List.length_cons, List.length_nil, show own_u4.length = 4 from rfl]); omega) (own_hx_ch _) hcs hsf ne_by_19_sb ne_sb_by_19 (own_hx_le _) g_sb g_by_19 O) hZ (wq hw 65 rfl) (wq hw 34 rfl) (by decide) (by decide)) q23a q23c (g := (mkF m 64 #[sR x, sR sb, sI (Int32.ofNat kq), sI qc] [(.int (own_hx.getD (qc >>> ((4 : Int32) &&& 31)).toNatClampNeg 0)), (.ref sb)])) rfl (by rw [hml]; rfl) (Steps.refl _) (argsL := [(.int (own_hx.getD (qc >>> ((4 : Int32) &&& 31)).toNatClampNeg 0))]) (rest := []) (lenOf pd__28C_29Ljava_2flang_2fStringBuilder_3b rfl) rfl (by show 2 * 0 + _ ≤ _; exact Nat.le_of_eq rfl) (hb hby d5_64) (fun _ _ => ⟨rfl, HQ22, (by show (9 * kq + 10) + 1 ≤ 34; omega), (by show (416 * kq + 332) + 96 ≤ 1553; omega)⟩)
    dsimp only [Pt.U, Pt.locs, Pt.cells, Pt.slots] at X23 l23 y23 z23 st23 hQ23
    subst l23 y23 z23
    obtain ⟨by_23, ky23, rfl, N23q, KQ23, fo0_23, g_by_23, ml_by_23⟩ := hQ23
    have N23 := Fr.app N22 N23q
    have SF_by_23 : Safe Z own_EL T21.vm h21 by_23 := own_maySF ml_by_23 SF_by_19
    have S_x := S_x.keep KQ23 (ninS ne_x_sb (ninS ne_x_by_19 nin0)) (ninS ne_xb_sb (ninS ne_xb_by_19 nin0))
    have E_ls18 := E_ls18.keep KQ23
    have Fc_ls18 := Fc_ls18.keep KQ23 (ninS ne_ls18_sb (ninS ne_ls18_by_19 nin0))
    have Fv_ls18 := Fv_ls18.keep KQ23 (ninS ne_ls18_sb (ninS ne_ls18_by_19 nin0))
    have V_lb18 := V_lb18.keep KQ23 (ninS ne_lb18_sb (ninS ne_lb18_by_19 nin0))
    have S_ls18 := S_ls18.keep KQ23 (ninS ne_ls18_sb (ninS ne_ls18_by_19 nin0)) (ninS ne_lb18_sb (ninS ne_lb18_by_19 nin0))
    have E_ls21 := E_ls21.keep KQ23
    have Fc_ls21 := Fc_ls21.keep KQ23 (ninS ne_ls21_sb (ninS ne_ls21_by_19 nin0))
    have Fv_ls21 := Fv_ls21.keep KQ23 (ninS ne_ls21_sb (ninS ne_ls21_by_19 nin0))
    have V_lb21 := V_lb21.keep KQ23 (ninS ne_lb21_sb (ninS ne_lb21_by_19 nin0))
    have S_ls21 := S_ls21.keep KQ23 (ninS ne_ls21_sb (ninS ne_ls21_by_19 nin0)) (ninS ne_lb21_sb (ninS ne_lb21_by_19 nin0))
    have Z24 : n0 ≤ T23.heap.size := Nat.le_trans Z21 KQ23.1
    have O := O.keep KQ23 (allS (P := fun x => n0 ≤ x) g_sb (allS (P := fun x => n0 ≤ x) g_by_19 all0))
    have hsafe := (allS (P := fun x => Safe Z own_EL T21.vm _ x) SF_sb (allS (P := fun x => Safe Z own_EL T21.vm _ x) SF_by_19 all0))
    have SF_sb := Safe.keep KQ23 hsafe H SF_sb
    have SF_by_19 := Safe.keep KQ23 hsafe H SF_by_19
    have SF_by_23 := Safe.keep KQ23 hsafe H SF_by_23
    have CR := CR.trans (CHr.keep KQ23 hsafe H)
    have H := H.keep KQ23 hsafe
    have hk := Nat.le_trans hk KQ23.1
    have K24 := K21.trans KQ23 (allS (P := fun x => x ∈ [] ∨ h0.size ≤ x) (Or.inr sz_sb) (allS (P := fun x => x ∈ [] ∨ h0.size ≤ x) (Or.inr sz_by_19) all0))
    have ne_lb18_by_23 : lb18 ≠ by_23 := own_mayne ml_by_23 lt_lb18 ne_lb18_by_19
    have ne_by_23_lb18 := ne_lb18_by_23.symm
    have ne_lb21_by_23 : lb21 ≠ by_23 := own_mayne ml_by_23 lt_lb21 ne_lb21_by_19
    have ne_by_23_lb21 := ne_lb21_by_23.symm
    have ne_ls18_by_23 : ls18 ≠ by_23 := own_mayne ml_by_23 lt_ls18 ne_ls18_by_19
    have ne_by_23_ls18 := ne_ls18_by_23.symm
    have ne_ls21_by_23 : ls21 ≠ by_23 := own_mayne ml_by_23 lt_ls21 ne_ls21_by_19
    have ne_by_23_ls21 := ne_ls21_by_23.symm
    have ne_sb_by_23 : sb ≠ by_23 := own_mayne ml_by_23 lt_sb ne_sb_by_19
    have ne_by_23_sb := ne_sb_by_23.symm
    have ne_x_by_23 : x ≠ by_23 := own_mayne ml_by_23 lt_x ne_x_by_19
    have ne_by_23_x := ne_x_by_23.symm
    have ne_xb_by_23 : xb ≠ by_23 := own_mayne ml_by_23 lt_xb ne_xb_by_19
    have ne_by_23_xb := ne_xb_by_23.symm
    have sz_by_23 : h0.size ≤ by_23 := own_maysz ml_by_23 sz_by_19 (Nat.le_trans K21.1)
    have S_sb := fo0_23
    refine GoesW.pre (U' := T23.setTop (mkF m 73 #[sR x, sR sb, sI (Int32.ofNat kq), sI qc] [(.int (qc &&& (15 : Int32))), (.ref ls21), (.ref sb)])) (fun t k => st23.trans (ldcAgain X23 hx hZ hown (wq hw 257 rfl) Li_ls21 (g := (mkF m 67 #[sR x, sR sb, sI (Int32.ofNat kq), sI qc] [(.ref sb)])) rfl (hb hby d5_67) t (XS.iloadN X23.here hx rfl (hb hby d5_69) rfl (XS.bipush X23.here hx rfl (hb hby d5_70) (XS.iand X23.here hx rfl (hb hby d5_72) rfl k))))) ?_
    obtain ⟨cq25, kq25, q25a, q25b, q25c⟩ := isOf hZ rfl E_ls21
    obtain ⟨_, _, ⟨T25, L25, k25, n25⟩, -, X25, ⟨Lc25, hQ25, l25, y25, z25⟩, st25⟩ := X23.virtualBack hx (y := M24) (z := M24) hown (mvT hZ (wq hw 171 rfl)) (mvT hZ (wq hw 141 rfl)) (notFace_of_selects (args := #[]) (mvT hZ (wq hw 143 rfl))) (mvT hZ (wq hw 143 rfl)) (mvT hZ (wq hw 142 rfl)) (by decide) (backOf (W := 1) (rm_chG l Z a0 hw [] ls21 lb21 kl21 own_hx (qc &&& (15 : Int32)) cs sf T23.heap n0 Z24 S_ls21 sC sA sH sL sF (own_lo4 _).1 (own_lo4 _).2 (by decide) hcs hsf O) hZ (wq hw 144 rfl) (wq hw 8 rfl) (by decide) (by decide)) q25a q25c (g := (mkF m 73 #[sR x, sR sb, sI (Int32.ofNat kq), sI qc] [(.int (qc &&& (15 : Int32))), (.ref ls21), (.ref sb)])) rfl (by rw [hml]; rfl) (Steps.refl _) (argsL := [(.int (qc &&& (15 : Int32)))]) (rest := [(.ref sb)]) (lenOf pd__28I_29C rfl) rfl (by show 2 * 0 + _ ≤ _; exact Nat.le_of_eq rfl) (hb hby d5_73) (fun _ _ => ⟨rfl, rfl, (by show (9 * kq + 11) + 0 ≤ 34; omega), (by show (416 * kq + 428) + 0 ≤ 1553; omega)⟩)
    dsimp only [Pt.U, Pt.locs, Pt.cells, Pt.slots] at X25 l25 y25 z25 st25 hQ25
    subst l25 y25 z25
    obtain ⟨rfl, N25q, HQ25⟩ := hQ25
    have N25 := Fr.app N23 N25q
    refine GoesW.pre (U' := T25.setTop (mkF m 76 #[sR x, sR sb, sI (Int32.ofNat kq), sI qc] [(.int (own_hx.getD (qc &&& (15 : Int32)).toNatClampNeg 0)), (.ref sb)])) (fun t k => st25.trans k) ?_
    have lt_by_23 := S_sb.ltb
    have lt_lb18 := V_lb18.lt
    have lt_lb21 := V_lb21.lt
    have lt_ls18 := E_ls18.lt
    have lt_ls21 := E_ls21.lt
    have lt_sb := S_sb.lt
    have lt_x := S_x.lt
    have lt_xb := S_x.ltb
    obtain ⟨cq26, kq26, q26a, q26b, q26c⟩ := isOf hZ HQ25 S_sb.1
    obtain ⟨_, _, ⟨T26, L26, k26, n26⟩, -, X26, ⟨Lc26, hQ26, l26, y26, z26⟩, st26⟩ := X25.virtualBack hx (y := M10) (z := M10) hown (mvT hZ (wq hw 61 rfl)) (mvT hZ (wq hw 62 rfl)) (notFace_of_selects (args := #[]) (mvT hZ (wq hw 64 rfl))) (mvT hZ (wq hw 64 rfl)) (mvT hZ (wq hw 63 rfl)) (by decide) (backOf (W := 0) (rm_sbCl l Z a0 hw [] sb by_23 ky23 (((own_pre cl kq) ++ own_u4) ++ [(own_hx.getD (qc >>> ((4 : Int32) &&& 31)).toNatClampNeg 0)]) (own_hx.getD (qc &&& (15 : Int32)).toNatClampNeg 0) cs sf T23.heap n0 Z24 S_sb sC sA sH sL sF (by have q := own_prel cl kq; (try simp only [List.length_append, List.length_cons, List.length_nil, show own_u4.length = 4 from rfl]); omega) (own_hx_ch _) hcs hsf ne_by_23_sb ne_sb_by_23 (own_hx_le _) g_sb g_by_23 O) hZ (wq hw 65 rfl) (wq hw 34 rfl) (by decide) (by decide)) q26a q26c (g := (mkF m 76 #[sR x, sR sb, sI (Int32.ofNat kq), sI qc] [(.int (own_hx.getD (qc &&& (15 : Int32)).toNatClampNeg 0)), (.ref sb)])) rfl (by rw [hml]; rfl) (Steps.refl _) (argsL := [(.int (own_hx.getD (qc &&& (15 : Int32)).toNatClampNeg 0))]) (rest := []) (lenOf pd__28C_29Ljava_2flang_2fStringBuilder_3b rfl) rfl (by show 2 * 0 + _ ≤ _; exact Nat.le_of_eq rfl) (hb hby d5_76) (fun _ _ => ⟨rfl, HQ25, (by show (9 * kq + 11) + 1 ≤ 34; omega), (by show (416 * kq + 428) + 96 ≤ 1553; omega)⟩)
    dsimp only [Pt.U, Pt.locs, Pt.cells, Pt.slots] at X26 l26 y26 z26 st26 hQ26
    subst l26 y26 z26
    obtain ⟨by_26, ky26, rfl, N26q, KQ26, fo0_26, g_by_26, ml_by_26⟩ := hQ26
    have N26 := Fr.app N25 N26q
    have SF_by_26 : Safe Z own_EL T21.vm T23.heap by_26 := own_maySF ml_by_26 SF_by_23
    have S_x := S_x.keep KQ26 (ninS ne_x_sb (ninS ne_x_by_23 nin0)) (ninS ne_xb_sb (ninS ne_xb_by_23 nin0))
    have E_ls18 := E_ls18.keep KQ26
    have Fc_ls18 := Fc_ls18.keep KQ26 (ninS ne_ls18_sb (ninS ne_ls18_by_23 nin0))
    have Fv_ls18 := Fv_ls18.keep KQ26 (ninS ne_ls18_sb (ninS ne_ls18_by_23 nin0))
    have V_lb18 := V_lb18.keep KQ26 (ninS ne_lb18_sb (ninS ne_lb18_by_23 nin0))
    have S_ls18 := S_ls18.keep KQ26 (ninS ne_ls18_sb (ninS ne_ls18_by_23 nin0)) (ninS ne_lb18_sb (ninS ne_lb18_by_23 nin0))
    have E_ls21 := E_ls21.keep KQ26
    have Fc_ls21 := Fc_ls21.keep KQ26 (ninS ne_ls21_sb (ninS ne_ls21_by_23 nin0))
    have Fv_ls21 := Fv_ls21.keep KQ26 (ninS ne_ls21_sb (ninS ne_ls21_by_23 nin0))
    have V_lb21 := V_lb21.keep KQ26 (ninS ne_lb21_sb (ninS ne_lb21_by_23 nin0))
    have S_ls21 := S_ls21.keep KQ26 (ninS ne_ls21_sb (ninS ne_ls21_by_23 nin0)) (ninS ne_lb21_sb (ninS ne_lb21_by_23 nin0))
    have Z27 : n0 ≤ T26.heap.size := Nat.le_trans Z24 KQ26.1
    have O := O.keep KQ26 (allS (P := fun x => n0 ≤ x) g_sb (allS (P := fun x => n0 ≤ x) g_by_23 all0))
    have hsafe := (allS (P := fun x => Safe Z own_EL T21.vm _ x) SF_sb (allS (P := fun x => Safe Z own_EL T21.vm _ x) SF_by_23 all0))
    have SF_sb := Safe.keep KQ26 hsafe H SF_sb
    have SF_by_19 := Safe.keep KQ26 hsafe H SF_by_19
    have SF_by_23 := Safe.keep KQ26 hsafe H SF_by_23
    have SF_by_26 := Safe.keep KQ26 hsafe H SF_by_26
    have CR := CR.trans (CHr.keep KQ26 hsafe H)
    have H := H.keep KQ26 hsafe
    have hk := Nat.le_trans hk KQ26.1
    have K27 := K24.trans KQ26 (allS (P := fun x => x ∈ [] ∨ h0.size ≤ x) (Or.inr sz_sb) (allS (P := fun x => x ∈ [] ∨ h0.size ≤ x) (Or.inr sz_by_23) all0))
    have ne_lb18_by_26 : lb18 ≠ by_26 := own_mayne ml_by_26 lt_lb18 ne_lb18_by_23
    have ne_by_26_lb18 := ne_lb18_by_26.symm
    have ne_lb21_by_26 : lb21 ≠ by_26 := own_mayne ml_by_26 lt_lb21 ne_lb21_by_23
    have ne_by_26_lb21 := ne_lb21_by_26.symm
    have ne_ls18_by_26 : ls18 ≠ by_26 := own_mayne ml_by_26 lt_ls18 ne_ls18_by_23
    have ne_by_26_ls18 := ne_ls18_by_26.symm
    have ne_ls21_by_26 : ls21 ≠ by_26 := own_mayne ml_by_26 lt_ls21 ne_ls21_by_23
    have ne_by_26_ls21 := ne_ls21_by_26.symm
    have ne_sb_by_26 : sb ≠ by_26 := own_mayne ml_by_26 lt_sb ne_sb_by_23
    have ne_by_26_sb := ne_sb_by_26.symm
    have ne_x_by_26 : x ≠ by_26 := own_mayne ml_by_26 lt_x ne_x_by_23
    have ne_by_26_x := ne_x_by_26.symm
    have ne_xb_by_26 : xb ≠ by_26 := own_mayne ml_by_26 lt_xb ne_xb_by_23
    have ne_by_26_xb := ne_xb_by_26.symm
    have sz_by_26 : h0.size ≤ by_26 := own_maysz ml_by_26 sz_by_23 (Nat.le_trans K24.1)
    have S_sb := fo0_26
    refine GoesW.pre (U' := T26.setTop (mkF m 92 #[sR x, sR sb, .val (.int ((Int32.ofNat kq) + (1 : Int32))), sI qc] [])) (fun t k => st26.trans (XS.pop X26.here hx rfl (hb hby d5_79) rfl rfl (XS.goto X26.here hx rfl (pc0 := 80) (pc' := 89) rfl (hb hby d5_80) (by decide) (by decide) (XT.iincV X26.here hx rfl (1 : Int32) (hb hby d5_89) (by decide) rfl (l' := #[sR x, sR sb, .val (.int ((Int32.ofNat kq) + (1 : Int32))), sI qc]) rfl k)))) ?_
    rw [own_inc]
    refine GoesW.pre (U' := T26.setTop (mkF m 21 #[sR x, sR sb, .val (.int (Int32.ofNat (kq + 1))), sI qc] [])) (fun t k => XS.goto X26.here hx rfl (pc0 := 92) (pc' := 21) rfl (hb hby d5_92) (by decide) (by decide) k) ?_
    have S_sb : OwnSB Z T26.heap sb by_26 ky26 (own_pre cl (kq + 1)) := by show OwnSB Z _ sb by_26 ky26 (own_pre cl kq ++ own_enc (cl.getD kq 0)); rw [← hqc, own_encE qc hesc]; simpa only [List.append_assoc] using S_sb
    exact ih (kk - 1) (by omega) (kq + 1) (by omega) _ _ _ _ _ (X26.more (by omega) (by omega)) rfl N26 Z27 K27 O hS hk hZ hown H CR _ (Or.inr ⟨_, rfl⟩) hlt by_26 ky26 g_by_26 sz_by_26 ne_x_by_26 ne_by_26_x ne_xb_by_26 ne_by_26_xb ne_sb_by_26 ne_by_26_sb S_x S_sb SF_sb SF_by_26
   ·
    refine GoesW.pre (U' := T8.setTop (mkF m 95 #[sR x, sR sb, sI (Int32.ofNat kq), sl] [])) (fun t k => XS.icmpYes X8.here hx rfl (pc0 := 26) (pc' := 95) rfl (hb hby d5_26) rfl (flt hc26).2.1 (by decide) (by decide) k) ?_
    have hend : cl.length = kq := Nat.le_antisymm (own_nltk kq cl hc26 (by omega)) hkl
    obtain ⟨T28, h28, X28, e28, E28, A28, D28, -, st28⟩ := newO X8 hx hZ hown (wq hw 87 rfl) (wq hw 88 rfl) (wq hw 30 rfl) HQ8 (g := (mkF m 95 #[sR x, sR sb, sI (Int32.ofNat kq), sl] [])) rfl (hb hby d5_95) (by show (9 * kq + 3) + 1 ≤ 34; omega) (by show (416 * kq + 108) + 1 ≤ 1553; omega)
    obtain ⟨tt0, g28⟩ : ∃ z, z = h7.size := ⟨_, rfl⟩
    rw [← g28] at A28 D28 st28
    have ne_bj_tt0 : bj ≠ tt0 := Nat.ne_of_lt (Nat.lt_of_lt_of_le S_sb.ltb (Nat.le_of_eq g28.symm))
    have ne_tt0_bj := ne_bj_tt0.symm
    have ne_sb_tt0 : sb ≠ tt0 := Nat.ne_of_lt (Nat.lt_of_lt_of_le S_sb.lt (Nat.le_of_eq g28.symm))
    have ne_tt0_sb := ne_sb_tt0.symm
    have ne_x_tt0 : x ≠ tt0 := Nat.ne_of_lt (Nat.lt_of_lt_of_le S_x.lt (Nat.le_of_eq g28.symm))
    have ne_tt0_x := ne_x_tt0.symm
    have ne_xb_tt0 : xb ≠ tt0 := Nat.ne_of_lt (Nat.lt_of_lt_of_le S_x.ltb (Nat.le_of_eq g28.symm))
    have ne_tt0_xb := ne_xb_tt0.symm
    have g_tt0 : n0 ≤ tt0 := Nat.le_trans Z7 (Nat.le_of_eq g28.symm)
    have sz_tt0 : h0.size ≤ tt0 := Nat.le_trans K7.1 (Nat.le_of_eq g28.symm)
    have S_x := S_x.ext E28
    have S_sb := S_sb.ext E28
    have O := O.ext E28
    have SF_sb := Safe.ext E28 H SF_sb
    have SF_bj := Safe.ext E28 H SF_bj
    have SF_tt0 := Safe.ext E28 H (Safe.new (x := tt0) (Nat.le_of_eq g28.symm))
    have CR := CR.trans (CHr.ext E28 H)
    have H := H.ext E28
    have hk := Nat.le_trans hk E28.1
    have Z28 : n0 ≤ h28.size := Nat.le_trans Z7 E28.1
    have K28 := K7.ext E28
    have E_tt0 := A28
    have F_text_tt0 : Fld Z h28 tt0 "com/example/bnodiff/bnodiff/model/Term" "text" "Ljava/lang/String;" .null := D28 (Or.inr (wq hw 133 rfl)) (ty := (.object "java/lang/String")) (by decide)
    refine GoesW.pre (U' := T28.setTop (mkF m 102 #[sR x, sR sb, sI (Int32.ofNat kq), sl] [(.int (62 : Int32)), (.ref sb), (.ref tt0), (.ref tt0)])) (fun t k => st28 t (XS.dup X28.here hx rfl (hb hby d5_98) rfl rfl (XS.aloadN X28.here hx rfl (hb hby d5_99) rfl rfl (XS.bipush X28.here hx rfl (hb hby d5_100) k)))) ?_
    have lt_bj := S_sb.ltb
    have lt_sb := S_sb.lt
    have lt_tt0 := E_tt0.lt
    have lt_x := S_x.lt
    have lt_xb := S_x.ltb
    obtain ⟨cq29, kq29, q29a, q29b, q29c⟩ := isOf hZ e28 S_sb.1
    obtain ⟨_, _, ⟨T29, L29, k29, n29⟩, -, X29, ⟨Lc29, hQ29, l29, y29, z29⟩, st29⟩ := X28.virtualBack hx (y := M10) (z := M10) hown (mvT hZ (wq hw 61 rfl)) (mvT hZ (wq hw 62 rfl)) (notFace_of_selects (args := #[]) (mvT hZ (wq hw 64 rfl))) (mvT hZ (wq hw 64 rfl)) (mvT hZ (wq hw 63 rfl)) (by decide) (backOf (W := 2) (rm_sbCl l Z a0 hw [] sb bj kj (own_pre cl kq) (62 : Int32) cs sf h28 n0 Z28 S_sb sC sA sH sL sF (by have q := own_prel cl kq; (try simp only [List.length_append, List.length_cons, List.length_nil, show own_u4.length = 4 from rfl]); omega) (⟨by decide, by decide⟩) hcs hsf ne_bj_sb ne_sb_bj (by decide) g_sb g_bj O) hZ (wq hw 65 rfl) (wq hw 34 rfl) (by decide) (by decide)) q29a q29c (g := (mkF m 102 #[sR x, sR sb, sI (Int32.ofNat kq), sl] [(.int (62 : Int32)), (.ref sb), (.ref tt0), (.ref tt0)])) rfl (by rw [hml]; rfl) (Steps.refl _) (argsL := [(.int (62 : Int32))]) (rest := [(.ref tt0), (.ref tt0)]) (lenOf pd__28C_29Ljava_2flang_2fStringBuilder_3b rfl) rfl (by show 2 * 0 + _ ≤ _; exact Nat.le_of_eq rfl) (hb hby d5_102) (fun _ _ => ⟨rfl, e28, (by show (9 * kq + 4) + 1 ≤ 34; omega), (by show (416 * kq + 109) + 96 ≤ 1553; omega)⟩)
    dsimp only [Pt.U, Pt.locs, Pt.cells, Pt.slots] at X29 l29 y29 z29 st29 hQ29
    subst l29 y29 z29
    obtain ⟨by_29, ky29, rfl, N29q, KQ29, fo0_29, g_by_29, ml_by_29⟩ := hQ29
    have N29 := Fr.app N8 N29q
    have SF_by_29 : Safe Z own_EL vm7 h28 by_29 := own_maySF ml_by_29 SF_bj
    have S_x := S_x.keep KQ29 (ninS ne_x_sb (ninS ne_x_bj nin0)) (ninS ne_xb_sb (ninS ne_xb_bj nin0))
    have E_tt0 := E_tt0.keep KQ29
    have F_text_tt0 := F_text_tt0.keep KQ29 (ninS ne_tt0_sb (ninS ne_tt0_bj nin0))
    have Z30 : n0 ≤ T29.heap.size := Nat.le_trans Z28 KQ29.1
    have O := O.keep KQ29 (allS (P := fun x => n0 ≤ x) g_sb (allS (P := fun x => n0 ≤ x) g_bj all0))
    have hsafe := (allS (P := fun x => Safe Z own_EL vm7 _ x) SF_sb (allS (P := fun x => Safe Z own_EL vm7 _ x) SF_bj all0))
    have SF_sb := Safe.keep KQ29 hsafe H SF_sb
    have SF_bj := Safe.keep KQ29 hsafe H SF_bj
    have SF_tt0 := Safe.keep KQ29 hsafe H SF_tt0
    have SF_by_29 := Safe.keep KQ29 hsafe H SF_by_29
    have CR := CR.trans (CHr.keep KQ29 hsafe H)
    have H := H.keep KQ29 hsafe
    have hk := Nat.le_trans hk KQ29.1
    have K30 := K28.trans KQ29 (allS (P := fun x => x ∈ [] ∨ h0.size ≤ x) (Or.inr sz_sb) (allS (P := fun x => x ∈ [] ∨ h0.size ≤ x) (Or.inr sz_bj) all0))
    have ne_sb_by_29 : sb ≠ by_29 := own_mayne ml_by_29 lt_sb ne_sb_bj
    have ne_by_29_sb := ne_sb_by_29.symm
    have ne_tt0_by_29 : tt0 ≠ by_29 := own_mayne ml_by_29 lt_tt0 ne_tt0_bj
    have ne_by_29_tt0 := ne_tt0_by_29.symm
    have ne_x_by_29 : x ≠ by_29 := own_mayne ml_by_29 lt_x ne_x_bj
    have ne_by_29_x := ne_x_by_29.symm
    have ne_xb_by_29 : xb ≠ by_29 := own_mayne ml_by_29 lt_xb ne_xb_bj
    have ne_by_29_xb := ne_xb_by_29.symm
    have sz_by_29 : h0.size ≤ by_29 := own_maysz ml_by_29 sz_bj (Nat.le_trans K28.1)
    have S_sb := fo0_29
    refine GoesW.pre (U' := T29.setTop (mkF m 105 #[sR x, sR sb, sI (Int32.ofNat kq), sl] [(.ref sb), (.ref tt0), (.ref tt0)])) (fun t k => st29.trans k) ?_
    have lt_by_29 := S_sb.ltb
    have lt_sb := S_sb.lt
    have lt_tt0 := E_tt0.lt
    have lt_x := S_x.lt
    have lt_xb := S_x.ltb
    obtain ⟨cq31, kq31, q31a, q31b, q31c⟩ := isOf hZ rfl S_sb.1
    obtain ⟨_, _, ⟨T31, L31, k31, n31⟩, -, X31, ⟨Lc31, hQ31, l31, y31, z31⟩, st31⟩ := X29.virtualBack hx (y := M15) (z := M15) hown (mvT hZ (wq hw 89 rfl)) (mvT hZ (wq hw 90 rfl)) (notFace_of_selects (args := #[]) (mvT hZ (wq hw 92 rfl))) (mvT hZ (wq hw 92 rfl)) (mvT hZ (wq hw 91 rfl)) (by decide) (backOf (W := 2) (rm_sbT l Z a0 hw [] sb by_29 ky29 ((own_pre cl kq) ++ [(62 : Int32)]) cs T29.heap n0 Z30 S_sb sC (by have q := own_prel cl kq; (try simp only [List.length_append, List.length_cons, List.length_nil, show own_u4.length = 4 from rfl]); omega) hcs O) hZ (wq hw 93 rfl) (wq hw 34 rfl) (by decide) (by decide)) q31a q31c (g := (mkF m 105 #[sR x, sR sb, sI (Int32.ofNat kq), sl] [(.ref sb), (.ref tt0), (.ref tt0)])) rfl (by rw [hml]; rfl) (Steps.refl _) (argsL := []) (rest := [(.ref tt0), (.ref tt0)]) (lenOf pd__28_29Ljava_2flang_2fString_3b rfl) rfl (by show 2 * 0 + _ ≤ _; exact Nat.le_of_eq rfl) (hb hby d5_105) (fun _ _ => ⟨rfl, rfl, (by show (9 * kq + 5) + 2 ≤ 34; omega), (by show (416 * kq + 205) + 100 ≤ 1553; omega)⟩)
    dsimp only [Pt.U, Pt.locs, Pt.cells, Pt.slots] at X31 l31 y31 z31 st31 hQ31
    subst l31 y31 z31
    obtain ⟨z31, zb31, kz31, rfl, N31q, KQ31, fo0_31, g_z31, sl_z31, g_zb31, sl_zb31⟩ := hQ31
    have N31 := Fr.app N29 N31q
    have SF_z31 : Safe Z own_EL vm7 T29.heap z31 := Safe.new sl_z31
    have SF_zb31 : Safe Z own_EL vm7 T29.heap zb31 := Safe.new sl_zb31
    have S_x := S_x.keep KQ31 nin0 nin0
    have E_tt0 := E_tt0.keep KQ31
    have F_text_tt0 := F_text_tt0.keep KQ31 nin0
    have S_sb := S_sb.keep KQ31 nin0 nin0
    have Z32 : n0 ≤ T31.heap.size := Nat.le_trans Z30 KQ31.1
    have O := O.keep KQ31 all0
    have hsafe := (all0 : ∀ x ∈ ([] : List Addr), Safe Z own_EL vm7 T29.heap x)
    have SF_sb := Safe.keep KQ31 hsafe H SF_sb
    have SF_bj := Safe.keep KQ31 hsafe H SF_bj
    have SF_tt0 := Safe.keep KQ31 hsafe H SF_tt0
    have SF_by_29 := Safe.keep KQ31 hsafe H SF_by_29
    have SF_z31 := Safe.keep KQ31 hsafe H SF_z31
    have SF_zb31 := Safe.keep KQ31 hsafe H SF_zb31
    have CR := CR.trans (CHr.keep KQ31 hsafe H)
    have H := H.keep KQ31 hsafe
    have hk := Nat.le_trans hk KQ31.1
    have K32 := K30.trans KQ31 all0
    have ne_by_29_z31 : by_29 ≠ z31 := Nat.ne_of_lt (Nat.lt_of_lt_of_le lt_by_29 sl_z31)
    have ne_z31_by_29 := ne_by_29_z31.symm
    have ne_sb_z31 : sb ≠ z31 := Nat.ne_of_lt (Nat.lt_of_lt_of_le lt_sb sl_z31)
    have ne_z31_sb := ne_sb_z31.symm
    have ne_tt0_z31 : tt0 ≠ z31 := Nat.ne_of_lt (Nat.lt_of_lt_of_le lt_tt0 sl_z31)
    have ne_z31_tt0 := ne_tt0_z31.symm
    have ne_x_z31 : x ≠ z31 := Nat.ne_of_lt (Nat.lt_of_lt_of_le lt_x sl_z31)
    have ne_z31_x := ne_x_z31.symm
    have ne_xb_z31 : xb ≠ z31 := Nat.ne_of_lt (Nat.lt_of_lt_of_le lt_xb sl_z31)
    have ne_z31_xb := ne_xb_z31.symm
    have sz_z31 : h0.size ≤ z31 := Nat.le_trans K30.1 sl_z31
    have ne_by_29_zb31 : by_29 ≠ zb31 := Nat.ne_of_lt (Nat.lt_of_lt_of_le lt_by_29 sl_zb31)
    have ne_zb31_by_29 := ne_by_29_zb31.symm
    have ne_sb_zb31 : sb ≠ zb31 := Nat.ne_of_lt (Nat.lt_of_lt_of_le lt_sb sl_zb31)
    have ne_zb31_sb := ne_sb_zb31.symm
    have ne_tt0_zb31 : tt0 ≠ zb31 := Nat.ne_of_lt (Nat.lt_of_lt_of_le lt_tt0 sl_zb31)
    have ne_zb31_tt0 := ne_tt0_zb31.symm
    have ne_x_zb31 : x ≠ zb31 := Nat.ne_of_lt (Nat.lt_of_lt_of_le lt_x sl_zb31)
    have ne_zb31_x := ne_x_zb31.symm
    have ne_xb_zb31 : xb ≠ zb31 := Nat.ne_of_lt (Nat.lt_of_lt_of_le lt_xb sl_zb31)
    have ne_zb31_xb := ne_xb_zb31.symm
    have sz_zb31 : h0.size ≤ zb31 := Nat.le_trans K30.1 sl_zb31
    have S_z31 := fo0_31
    refine GoesW.pre (U' := T31.setTop (mkF m 108 #[sR x, sR sb, sI (Int32.ofNat kq), sl] [(.ref z31), (.ref tt0), (.ref tt0)])) (fun t k => st31.trans k) ?_
    obtain ⟨_, _, ⟨T33, L33, k33, n33⟩, -, X33, ⟨Lc33, hQ33, l33, y33, z33⟩, st33⟩ := X31.specialBack hx (y := M22) rfl hown (mvT hZ (wq hw 128 rfl)) (mvT hZ (wq hw 129 rfl)) (mvT hZ (wq hw 130 rfl)) (by decide) (backOf (W := 1) (rm_term l Z a0 hw [] tt0 z31 T31.heap n0 Z32 E_tt0 F_text_tt0 g_tt0) hZ (wq hw 130 rfl) (wq hw 30 rfl) (by decide) (by decide)) (g := (mkF m 108 #[sR x, sR sb, sI (Int32.ofNat kq), sl] [(.ref z31), (.ref tt0), (.ref tt0)])) rfl (by rw [hml]; rfl) (Steps.refl _) (a := tt0) (argsL := [(.ref z31)]) (rest := [(.ref tt0)]) (lenOf pd__28Ljava_2flang_2fString_3b_29V rfl) rfl (by show 2 * 0 + _ ≤ _; exact Nat.le_of_eq rfl) (hb hby d5_108) (fun _ _ => ⟨rfl, rfl, (by show (9 * kq + 7) + 0 ≤ 34; omega), (by show (416 * kq + 305) + 0 ≤ 1553; omega)⟩)
    dsimp only [Pt.U, Pt.locs, Pt.cells, Pt.slots] at X33 l33 y33 z33 st33 hQ33
    subst l33 y33 z33
    obtain ⟨rfl, N33q, KQ33, fo0_33⟩ := hQ33
    have N33 := Fr.app N31 N33q
    have S_x := S_x.keep KQ33 (ninS ne_x_tt0 nin0) (ninS ne_xb_tt0 nin0)
    have E_tt0 := E_tt0.keep KQ33
    have S_sb := S_sb.keep KQ33 (ninS ne_sb_tt0 nin0) (ninS ne_by_29_tt0 nin0)
    have S_z31 := S_z31.keep KQ33 (ninS ne_z31_tt0 nin0) (ninS ne_zb31_tt0 nin0)
    have Z34 : n0 ≤ T33.heap.size := Nat.le_trans Z32 KQ33.1
    have O := O.keep KQ33 (allS (P := fun x => n0 ≤ x) g_tt0 all0)
    have hsafe := (allS (P := fun x => Safe Z own_EL vm7 _ x) SF_tt0 all0)
    have SF_sb := Safe.keep KQ33 hsafe H SF_sb
    have SF_bj := Safe.keep KQ33 hsafe H SF_bj
    have SF_tt0 := Safe.keep KQ33 hsafe H SF_tt0
    have SF_by_29 := Safe.keep KQ33 hsafe H SF_by_29
    have SF_z31 := Safe.keep KQ33 hsafe H SF_z31
    have SF_zb31 := Safe.keep KQ33 hsafe H SF_zb31
    have CR := CR.trans (CHr.keep KQ33 hsafe H)
    have H := H.keep KQ33 hsafe
    have hk := Nat.le_trans hk KQ33.1
    have K34 := K32.trans KQ33 (allS (P := fun x => x ∈ [] ∨ h0.size ≤ x) (Or.inr sz_tt0) all0)
    have F_text_tt0 := fo0_33
    refine GoesW.pre (U' := T33.setTop (mkF m 111 #[sR x, sR sb, sI (Int32.ofNat kq), sl] [(.ref tt0)])) (fun t k => st33.trans k) ?_
    refine GoesW.ret X33 hZ hEL hS hk H CR (v := (some (.ref tt0))) (fun h => by rw [hret] at h; cases h) hlk (by show (9 * kq + 7) ≤ 34; omega) (by show (416 * kq + 305) ≤ 1553; omega) rfl (fun fs hr => retOut X33 hx hret rfl (Or.inr (Or.inr (Or.inr (Or.inr ⟨rfl, rfl, rfl⟩)))) (hb hby d5_111) hr) ?_
    have S_z31 : OwnStr Z T33.heap z31 zb31 kz31 (own_iri cl) := by rw [own_iriE cl kq hend]; exact S_z31
    exact ⟨tt0, z31, zb31, kz31, rfl, N33, K34, E_tt0, F_text_tt0, S_z31⟩
 exact J21_7 3 0 rfl _ _ _ _ _ (X5.more (by decide) (by decide)) rfl N5 Z6 K6 O hS hk hZ hown H CR _ (Or.inl rfl) (Nat.zero_le _) by_5 ky5 g_by_5 sz_by_5 ne_x_by_5 ne_by_5_x ne_xb_by_5 ne_by_5_xb ne_sb_by_5 ne_by_5_sb S_x S_sb SF_sb SF_by_5
theorem ef_rm_chf (m : MethodId) (x0 : Int32) : entryFrame m #[(.int x0)] 1 = mkF m 0 #[sI x0] [] := by first | (simp [entryFrame, mkF, argsToLocals, Value.category]; done) | rfl
theorem pn_com_example_bnodiff_bnodiff_model_TermIriPinLaw : plainName "com/example/bnodiff/bnodiff/model/TermIriPinLaw" = true := by first | (simp [plainName, overriddenIn]; done) | decide +kernel
abbrev M1 : MethodName := ⟨"com/example/bnodiff/bnodiff/model/TermIriPinLaw", "ch", "(I)C"⟩
theorem d1_0 : decode B1 0 = .ok (.iload_n 0, 1) := by decide +kernel
theorem d1_1 : decode B1 1 = .ok (.ldc 43, 2) := by decide +kernel
theorem d1_3 : decode B1 3 = .ok (.iand, 1) := by decide +kernel
theorem d1_4 : decode B1 4 = .ok (.ifCond .eq 9, 3) := by decide +kernel
theorem d1_13 : decode B1 13 = .ok (.iload_n 0, 1) := by decide +kernel
theorem d1_14 : decode B1 14 = .ok (.ldc 44, 2) := by decide +kernel
theorem d1_16 : decode B1 16 = .ok (.iand, 1) := by decide +kernel
theorem d1_17 : decode B1 17 = .ok (.i2c, 1) := by decide +kernel
theorem d1_18 : decode B1 18 = .ok (.ireturn, 1) := by decide +kernel
theorem d1_7 : decode B1 7 = .ok (.iload_n 0, 1) := by decide +kernel
theorem d1_8 : decode B1 8 = .ok (.bipush 127, 2) := by decide +kernel
theorem d1_10 : decode B1 10 = .ok (.iand, 1) := by decide +kernel
theorem d1_11 : decode B1 11 = .ok (.i2c, 1) := by decide +kernel
theorem d1_12 : decode B1 12 = .ok (.ireturn, 1) := by decide +kernel
def own_chf (q0_ : Int32) : Int32 := (if (q0_ &&& (65536 : Int32)) = (0 : Int32) then (nar .char ((q0_ &&& (65535 : Int32)).toUInt32.toUInt16.toUInt32.toInt32)) else (nar .char ((q0_ &&& (127 : Int32)).toUInt32.toUInt16.toUInt32.toInt32)))
def Q_rm_chf (Z : State) (q0_ : Int32) (h0 : Heap) (n0 : Nat) (v : Option Value) (h : Heap) (L : List Loc) : Prop := v = some (.int (own_chf q0_)) ∧ Fr n0 L ∧ h = h0
set_option maxRecDepth 65536 in
set_option maxHeartbeats 40000000 in
theorem rm_chf (l : Launch) (Z : State) (a0 : Array Value) (hw : ∀ d ∈ tables_1, d.before a0 Z = true) (ws : List Jvm.Cond) (q0_ : Int32) (h0 : Heap) (n0 : Nat) (Z0 : n0 ≤ h0.size)  :
  Met l Z M1 method_3_code 1 (some .char) ws (Rm 0 0 0 0) #[(.int q0_)] h0 (Q_rm_chf Z q0_ h0 n0) := by
 refine met_of (plainFor_of_name pn_com_example_bnodiff_bnodiff_model_TermIriPinLaw) (own := "com/example/bnodiff/bnodiff/model/TermIriPinLaw") rfl (fun m => ef_rm_chf m q0_) ?_
 intro p e s m below meth c s₁ hx hby hml hown hnm hZ X0 e0 hret hlk
 have N0 := Fr.nil n0
 show Goes p e below s _ _ _ (s₁.setTop (mkF m 0 #[sI q0_] []))
 refine Goes.pre (U' := s₁.setTop (mkF m 4 #[sI q0_] [(.int (q0_ &&& (65536 : Int32)))])) (fun t k => XS.iloadN X0.here hx rfl (hb hby d1_0) rfl (X0.ldcInt hx hown (mvT hZ (wq hw 4 rfl)) (g := (mkF m 1 #[sI q0_] [(.int q0_)])) rfl (hb hby d1_1) _ (XS.iand X0.here hx rfl (hb hby d1_3) rfl k))) ?_
 by_cases hc4 : (q0_ &&& (65536 : Int32)) = (0 : Int32)
 ·
  refine Goes.pre (U' := s₁.setTop (mkF m 18 #[sI q0_] [(.int ((q0_ &&& (65535 : Int32)).toUInt32.toUInt16.toUInt32.toInt32))])) (fun t k => XS.ifYes X0.here hx rfl (pc0 := 4) (pc' := 13) rfl (hb hby d1_4) rfl ((if0 _ _).trans (teq hc4).1) (by decide) (by decide) (XS.iloadN X0.here hx rfl (hb hby d1_13) rfl (X0.ldcInt hx hown (mvT hZ (wq hw 5 rfl)) (g := (mkF m 14 #[sI q0_] [(.int q0_)])) rfl (hb hby d1_14) _ (XS.iand X0.here hx rfl (hb hby d1_16) rfl (XS.i2c X0.here hx rfl (hb hby d1_17) rfl k))))) ?_
  refine Goes.ret X0 (v := (some (.int (nar .char ((q0_ &&& (65535 : Int32)).toUInt32.toUInt16.toUInt32.toInt32))))) (fun h => by rw [hret] at h; cases h) hlk (by decide) (by decide) e0 (fun fs hr => retN X0 hx (t := .char) hret (by simp) (hb hby d1_18) (by rw [show nar .char ((q0_ &&& (65535 : Int32)).toUInt32.toUInt16.toUInt32.toInt32) = (nar .char ((q0_ &&& (65535 : Int32)).toUInt32.toUInt16.toUInt32.toInt32)) from rfl]; exact hr)) ?_
  exact ⟨congrArg (fun z => some (Value.int z)) (show (nar .char ((q0_ &&& (65535 : Int32)).toUInt32.toUInt16.toUInt32.toInt32)) = own_chf q0_ from (show own_chf q0_ = (nar .char ((q0_ &&& (65535 : Int32)).toUInt32.toUInt16.toUInt32.toInt32)) from by unfold own_chf; rw [if_pos hc4]).symm), N0, rfl⟩
 ·
  refine Goes.pre (U' := s₁.setTop (mkF m 12 #[sI q0_] [(.int ((q0_ &&& (127 : Int32)).toUInt32.toUInt16.toUInt32.toInt32))])) (fun t k => XS.ifNo X0.here hx rfl (hb hby d1_4) rfl ((if0 _ _).trans (feq hc4).1) (XS.iloadN X0.here hx rfl (hb hby d1_7) rfl (XS.bipush X0.here hx rfl (hb hby d1_8) (XS.iand X0.here hx rfl (hb hby d1_10) rfl (XS.i2c X0.here hx rfl (hb hby d1_11) rfl k))))) ?_
  refine Goes.ret X0 (v := (some (.int (nar .char ((q0_ &&& (127 : Int32)).toUInt32.toUInt16.toUInt32.toInt32))))) (fun h => by rw [hret] at h; cases h) hlk (by decide) (by decide) e0 (fun fs hr => retN X0 hx (t := .char) hret (by simp) (hb hby d1_12) (by rw [show nar .char ((q0_ &&& (127 : Int32)).toUInt32.toUInt16.toUInt32.toInt32) = (nar .char ((q0_ &&& (127 : Int32)).toUInt32.toUInt16.toUInt32.toInt32)) from rfl]; exact hr)) ?_
  exact ⟨congrArg (fun z => some (Value.int z)) (show (nar .char ((q0_ &&& (127 : Int32)).toUInt32.toUInt16.toUInt32.toInt32)) = own_chf q0_ from (show own_chf q0_ = (nar .char ((q0_ &&& (127 : Int32)).toUInt32.toUInt16.toUInt32.toInt32)) from by unfold own_chf; rw [if_neg hc4]).symm), N0, rfl⟩
theorem ef_rm_esc (m : MethodId) (x0 : Int32) : entryFrame m #[(.int x0)] 1 = mkF m 0 #[sI x0] [] := by first | (simp [entryFrame, mkF, argsToLocals, Value.category]; done) | rfl
abbrev M40 : MethodName := ⟨"com/example/bnodiff/bnodiff/model/TermIriPinLaw", "escaped", "(C)Z"⟩
theorem d40_0 : decode B40 0 = .ok (.iload_n 0, 1) := by decide +kernel
theorem d40_1 : decode B40 1 = .ok (.bipush 32, 2) := by decide +kernel
theorem d40_3 : decode B40 3 = .ok (.if_icmp .le 57, 3) := by decide +kernel
theorem d40_6 : decode B40 6 = .ok (.iload_n 0, 1) := by decide +kernel
theorem d40_7 : decode B40 7 = .ok (.bipush 60, 2) := by decide +kernel
theorem d40_9 : decode B40 9 = .ok (.if_icmp .eq 51, 3) := by decide +kernel
theorem d40_60 : decode B40 60 = .ok (.iconst 1, 1) := by decide +kernel
theorem d40_61 : decode B40 61 = .ok (.goto 4, 3) := by decide +kernel
theorem d40_65 : decode B40 65 = .ok (.ireturn, 1) := by decide +kernel
theorem d40_12 : decode B40 12 = .ok (.iload_n 0, 1) := by decide +kernel
theorem d40_13 : decode B40 13 = .ok (.bipush 62, 2) := by decide +kernel
theorem d40_15 : decode B40 15 = .ok (.if_icmp .eq 45, 3) := by decide +kernel
theorem d40_18 : decode B40 18 = .ok (.iload_n 0, 1) := by decide +kernel
theorem d40_19 : decode B40 19 = .ok (.bipush 34, 2) := by decide +kernel
theorem d40_21 : decode B40 21 = .ok (.if_icmp .eq 39, 3) := by decide +kernel
theorem d40_24 : decode B40 24 = .ok (.iload_n 0, 1) := by decide +kernel
theorem d40_25 : decode B40 25 = .ok (.bipush 123, 2) := by decide +kernel
theorem d40_27 : decode B40 27 = .ok (.if_icmp .eq 33, 3) := by decide +kernel
theorem d40_30 : decode B40 30 = .ok (.iload_n 0, 1) := by decide +kernel
theorem d40_31 : decode B40 31 = .ok (.bipush 125, 2) := by decide +kernel
theorem d40_33 : decode B40 33 = .ok (.if_icmp .eq 27, 3) := by decide +kernel
theorem d40_36 : decode B40 36 = .ok (.iload_n 0, 1) := by decide +kernel
theorem d40_37 : decode B40 37 = .ok (.bipush 124, 2) := by decide +kernel
theorem d40_39 : decode B40 39 = .ok (.if_icmp .eq 21, 3) := by decide +kernel
theorem d40_42 : decode B40 42 = .ok (.iload_n 0, 1) := by decide +kernel
theorem d40_43 : decode B40 43 = .ok (.bipush 94, 2) := by decide +kernel
theorem d40_45 : decode B40 45 = .ok (.if_icmp .eq 15, 3) := by decide +kernel
theorem d40_48 : decode B40 48 = .ok (.iload_n 0, 1) := by decide +kernel
theorem d40_49 : decode B40 49 = .ok (.bipush 96, 2) := by decide +kernel
theorem d40_51 : decode B40 51 = .ok (.if_icmp .eq 9, 3) := by decide +kernel
theorem d40_54 : decode B40 54 = .ok (.iload_n 0, 1) := by decide +kernel
theorem d40_55 : decode B40 55 = .ok (.bipush 92, 2) := by decide +kernel
theorem d40_57 : decode B40 57 = .ok (.if_icmp .ne 7, 3) := by decide +kernel
theorem d40_64 : decode B40 64 = .ok (.iconst 0, 1) := by decide +kernel
def own_escaped (q0_ : Int32) : Int32 := (if (32 : Int32) < q0_ then (if q0_ = (60 : Int32) then (1 : Int32) else (if q0_ = (62 : Int32) then (1 : Int32) else (if q0_ = (34 : Int32) then (1 : Int32) else (if q0_ = (123 : Int32) then (1 : Int32) else (if q0_ = (125 : Int32) then (1 : Int32) else (if q0_ = (124 : Int32) then (1 : Int32) else (if q0_ = (94 : Int32) then (1 : Int32) else (if q0_ = (96 : Int32) then (1 : Int32) else (if q0_ = (92 : Int32) then (1 : Int32) else (0 : Int32)))))))))) else (1 : Int32))
def Q_rm_esc (Z : State) (q0_ : Int32) (h0 : Heap) (n0 : Nat) (v : Option Value) (h : Heap) (L : List Loc) : Prop := v = some (.int (own_escaped q0_)) ∧ Fr n0 L ∧ h = h0
set_option maxRecDepth 65536 in
set_option maxHeartbeats 40000000 in
theorem rm_esc (l : Launch) (Z : State) (a0 : Array Value) (hw : ∀ d ∈ tables_1, d.before a0 Z = true) (ws : List Jvm.Cond) (q0_ : Int32) (h0 : Heap) (n0 : Nat) (Z0 : n0 ≤ h0.size)  :
  Met l Z M40 method_4_code 1 (some .boolean) ws (Rm 0 0 0 0) #[(.int q0_)] h0 (Q_rm_esc Z q0_ h0 n0) := by
 refine met_of (plainFor_of_name pn_com_example_bnodiff_bnodiff_model_TermIriPinLaw) (own := "com/example/bnodiff/bnodiff/model/TermIriPinLaw") rfl (fun m => ef_rm_esc m q0_) ?_
 intro p e s m below meth c s₁ hx hby hml hown hnm hZ X0 e0 hret hlk
 have N0 := Fr.nil n0
 show Goes p e below s _ _ _ (s₁.setTop (mkF m 0 #[sI q0_] []))
 refine Goes.pre (U' := s₁.setTop (mkF m 3 #[sI q0_] [(.int (32 : Int32)), (.int q0_)])) (fun t k => XS.iloadN X0.here hx rfl (hb hby d40_0) rfl (XS.bipush X0.here hx rfl (hb hby d40_1) k)) ?_
 by_cases hc3 : (32 : Int32) < q0_
 ·
  refine Goes.pre (U' := s₁.setTop (mkF m 9 #[sI q0_] [(.int (60 : Int32)), (.int q0_)])) (fun t k => XS.icmpNo X0.here hx rfl (hb hby d40_3) rfl (tlt hc3).2.2.2 (XS.iloadN X0.here hx rfl (hb hby d40_6) rfl (XS.bipush X0.here hx rfl (hb hby d40_7) k))) ?_
  by_cases hc9 : q0_ = (60 : Int32)
  ·
   refine Goes.pre (U' := s₁.setTop (mkF m 65 #[sI q0_] [(.int (1 : Int32))])) (fun t k => XS.icmpYes X0.here hx rfl (pc0 := 9) (pc' := 60) rfl (hb hby d40_9) rfl (teq hc9).1 (by decide) (by decide) (XS.iconst X0.here hx rfl (hb hby d40_60) (XS.goto X0.here hx rfl (pc0 := 61) (pc' := 65) rfl (hb hby d40_61) (by decide) (by decide) k))) ?_
   refine Goes.ret X0 (v := (some (.int (1 : Int32)))) (fun h => by rw [hret] at h; cases h) hlk (by decide) (by decide) e0 (fun fs hr => retN X0 hx (t := .boolean) hret (by simp) (hb hby d40_65) hr) ?_
   exact ⟨congrArg (fun z => some (Value.int z)) (show (1 : Int32) = own_escaped q0_ from (show own_escaped q0_ = (1 : Int32) from by unfold own_escaped; rw [if_pos hc3, if_pos hc9]).symm), N0, rfl⟩
  ·
   refine Goes.pre (U' := s₁.setTop (mkF m 15 #[sI q0_] [(.int (62 : Int32)), (.int q0_)])) (fun t k => XS.icmpNo X0.here hx rfl (hb hby d40_9) rfl (feq hc9).1 (XS.iloadN X0.here hx rfl (hb hby d40_12) rfl (XS.bipush X0.here hx rfl (hb hby d40_13) k))) ?_
   by_cases hc15 : q0_ = (62 : Int32)
   ·
    refine Goes.pre (U' := s₁.setTop (mkF m 65 #[sI q0_] [(.int (1 : Int32))])) (fun t k => XS.icmpYes X0.here hx rfl (pc0 := 15) (pc' := 60) rfl (hb hby d40_15) rfl (teq hc15).1 (by decide) (by decide) (XS.iconst X0.here hx rfl (hb hby d40_60) (XS.goto X0.here hx rfl (pc0 := 61) (pc' := 65) rfl (hb hby d40_61) (by decide) (by decide) k))) ?_
    refine Goes.ret X0 (v := (some (.int (1 : Int32)))) (fun h => by rw [hret] at h; cases h) hlk (by decide) (by decide) e0 (fun fs hr => retN X0 hx (t := .boolean) hret (by simp) (hb hby d40_65) hr) ?_
    exact ⟨congrArg (fun z => some (Value.int z)) (show (1 : Int32) = own_escaped q0_ from (show own_escaped q0_ = (1 : Int32) from by unfold own_escaped; rw [if_pos hc3, if_neg hc9, if_pos hc15]).symm), N0, rfl⟩
   ·
    refine Goes.pre (U' := s₁.setTop (mkF m 21 #[sI q0_] [(.int (34 : Int32)), (.int q0_)])) (fun t k => XS.icmpNo X0.here hx rfl (hb hby d40_15) rfl (feq hc15).1 (XS.iloadN X0.here hx rfl (hb hby d40_18) rfl (XS.bipush X0.here hx rfl (hb hby d40_19) k))) ?_
    by_cases hc21 : q0_ = (34 : Int32)
    ·
     refine Goes.pre (U' := s₁.setTop (mkF m 65 #[sI q0_] [(.int (1 : Int32))])) (fun t k => XS.icmpYes X0.here hx rfl (pc0 := 21) (pc' := 60) rfl (hb hby d40_21) rfl (teq hc21).1 (by decide) (by decide) (XS.iconst X0.here hx rfl (hb hby d40_60) (XS.goto X0.here hx rfl (pc0 := 61) (pc' := 65) rfl (hb hby d40_61) (by decide) (by decide) k))) ?_
     refine Goes.ret X0 (v := (some (.int (1 : Int32)))) (fun h => by rw [hret] at h; cases h) hlk (by decide) (by decide) e0 (fun fs hr => retN X0 hx (t := .boolean) hret (by simp) (hb hby d40_65) hr) ?_
     exact ⟨congrArg (fun z => some (Value.int z)) (show (1 : Int32) = own_escaped q0_ from (show own_escaped q0_ = (1 : Int32) from by unfold own_escaped; rw [if_pos hc3, if_neg hc9, if_neg hc15, if_pos hc21]).symm), N0, rfl⟩
    ·
     refine Goes.pre (U' := s₁.setTop (mkF m 27 #[sI q0_] [(.int (123 : Int32)), (.int q0_)])) (fun t k => XS.icmpNo X0.here hx rfl (hb hby d40_21) rfl (feq hc21).1 (XS.iloadN X0.here hx rfl (hb hby d40_24) rfl (XS.bipush X0.here hx rfl (hb hby d40_25) k))) ?_
     by_cases hc27 : q0_ = (123 : Int32)
     ·
      refine Goes.pre (U' := s₁.setTop (mkF m 65 #[sI q0_] [(.int (1 : Int32))])) (fun t k => XS.icmpYes X0.here hx rfl (pc0 := 27) (pc' := 60) rfl (hb hby d40_27) rfl (teq hc27).1 (by decide) (by decide) (XS.iconst X0.here hx rfl (hb hby d40_60) (XS.goto X0.here hx rfl (pc0 := 61) (pc' := 65) rfl (hb hby d40_61) (by decide) (by decide) k))) ?_
      refine Goes.ret X0 (v := (some (.int (1 : Int32)))) (fun h => by rw [hret] at h; cases h) hlk (by decide) (by decide) e0 (fun fs hr => retN X0 hx (t := .boolean) hret (by simp) (hb hby d40_65) hr) ?_
      exact ⟨congrArg (fun z => some (Value.int z)) (show (1 : Int32) = own_escaped q0_ from (show own_escaped q0_ = (1 : Int32) from by unfold own_escaped; rw [if_pos hc3, if_neg hc9, if_neg hc15, if_neg hc21, if_pos hc27]).symm), N0, rfl⟩
     ·
      refine Goes.pre (U' := s₁.setTop (mkF m 33 #[sI q0_] [(.int (125 : Int32)), (.int q0_)])) (fun t k => XS.icmpNo X0.here hx rfl (hb hby d40_27) rfl (feq hc27).1 (XS.iloadN X0.here hx rfl (hb hby d40_30) rfl (XS.bipush X0.here hx rfl (hb hby d40_31) k))) ?_
      by_cases hc33 : q0_ = (125 : Int32)
      ·
       refine Goes.pre (U' := s₁.setTop (mkF m 65 #[sI q0_] [(.int (1 : Int32))])) (fun t k => XS.icmpYes X0.here hx rfl (pc0 := 33) (pc' := 60) rfl (hb hby d40_33) rfl (teq hc33).1 (by decide) (by decide) (XS.iconst X0.here hx rfl (hb hby d40_60) (XS.goto X0.here hx rfl (pc0 := 61) (pc' := 65) rfl (hb hby d40_61) (by decide) (by decide) k))) ?_
       refine Goes.ret X0 (v := (some (.int (1 : Int32)))) (fun h => by rw [hret] at h; cases h) hlk (by decide) (by decide) e0 (fun fs hr => retN X0 hx (t := .boolean) hret (by simp) (hb hby d40_65) hr) ?_
       exact ⟨congrArg (fun z => some (Value.int z)) (show (1 : Int32) = own_escaped q0_ from (show own_escaped q0_ = (1 : Int32) from by unfold own_escaped; rw [if_pos hc3, if_neg hc9, if_neg hc15, if_neg hc21, if_neg hc27, if_pos hc33]).symm), N0, rfl⟩
      ·
       refine Goes.pre (U' := s₁.setTop (mkF m 39 #[sI q0_] [(.int (124 : Int32)), (.int q0_)])) (fun t k => XS.icmpNo X0.here hx rfl (hb hby d40_33) rfl (feq hc33).1 (XS.iloadN X0.here hx rfl (hb hby d40_36) rfl (XS.bipush X0.here hx rfl (hb hby d40_37) k))) ?_
       by_cases hc39 : q0_ = (124 : Int32)
       ·
        refine Goes.pre (U' := s₁.setTop (mkF m 65 #[sI q0_] [(.int (1 : Int32))])) (fun t k => XS.icmpYes X0.here hx rfl (pc0 := 39) (pc' := 60) rfl (hb hby d40_39) rfl (teq hc39).1 (by decide) (by decide) (XS.iconst X0.here hx rfl (hb hby d40_60) (XS.goto X0.here hx rfl (pc0 := 61) (pc' := 65) rfl (hb hby d40_61) (by decide) (by decide) k))) ?_
        refine Goes.ret X0 (v := (some (.int (1 : Int32)))) (fun h => by rw [hret] at h; cases h) hlk (by decide) (by decide) e0 (fun fs hr => retN X0 hx (t := .boolean) hret (by simp) (hb hby d40_65) hr) ?_
        exact ⟨congrArg (fun z => some (Value.int z)) (show (1 : Int32) = own_escaped q0_ from (show own_escaped q0_ = (1 : Int32) from by unfold own_escaped; rw [if_pos hc3, if_neg hc9, if_neg hc15, if_neg hc21, if_neg hc27, if_neg hc33, if_pos hc39]).symm), N0, rfl⟩
       ·
        refine Goes.pre (U' := s₁.setTop (mkF m 45 #[sI q0_] [(.int (94 : Int32)), (.int q0_)])) (fun t k => XS.icmpNo X0.here hx rfl (hb hby d40_39) rfl (feq hc39).1 (XS.iloadN X0.here hx rfl (hb hby d40_42) rfl (XS.bipush X0.here hx rfl (hb hby d40_43) k))) ?_
        by_cases hc45 : q0_ = (94 : Int32)
        ·
         refine Goes.pre (U' := s₁.setTop (mkF m 65 #[sI q0_] [(.int (1 : Int32))])) (fun t k => XS.icmpYes X0.here hx rfl (pc0 := 45) (pc' := 60) rfl (hb hby d40_45) rfl (teq hc45).1 (by decide) (by decide) (XS.iconst X0.here hx rfl (hb hby d40_60) (XS.goto X0.here hx rfl (pc0 := 61) (pc' := 65) rfl (hb hby d40_61) (by decide) (by decide) k))) ?_
         refine Goes.ret X0 (v := (some (.int (1 : Int32)))) (fun h => by rw [hret] at h; cases h) hlk (by decide) (by decide) e0 (fun fs hr => retN X0 hx (t := .boolean) hret (by simp) (hb hby d40_65) hr) ?_
         exact ⟨congrArg (fun z => some (Value.int z)) (show (1 : Int32) = own_escaped q0_ from (show own_escaped q0_ = (1 : Int32) from by unfold own_escaped; rw [if_pos hc3, if_neg hc9, if_neg hc15, if_neg hc21, if_neg hc27, if_neg hc33, if_neg hc39, if_pos hc45]).symm), N0, rfl⟩
        ·
         refine Goes.pre (U' := s₁.setTop (mkF m 51 #[sI q0_] [(.int (96 : Int32)), (.int q0_)])) (fun t k => XS.icmpNo X0.here hx rfl (hb hby d40_45) rfl (feq hc45).1 (XS.iloadN X0.here hx rfl (hb hby d40_48) rfl (XS.bipush X0.here hx rfl (hb hby d40_49) k))) ?_
         by_cases hc51 : q0_ = (96 : Int32)
         ·
          refine Goes.pre (U' := s₁.setTop (mkF m 65 #[sI q0_] [(.int (1 : Int32))])) (fun t k => XS.icmpYes X0.here hx rfl (pc0 := 51) (pc' := 60) rfl (hb hby d40_51) rfl (teq hc51).1 (by decide) (by decide) (XS.iconst X0.here hx rfl (hb hby d40_60) (XS.goto X0.here hx rfl (pc0 := 61) (pc' := 65) rfl (hb hby d40_61) (by decide) (by decide) k))) ?_
          refine Goes.ret X0 (v := (some (.int (1 : Int32)))) (fun h => by rw [hret] at h; cases h) hlk (by decide) (by decide) e0 (fun fs hr => retN X0 hx (t := .boolean) hret (by simp) (hb hby d40_65) hr) ?_
          exact ⟨congrArg (fun z => some (Value.int z)) (show (1 : Int32) = own_escaped q0_ from (show own_escaped q0_ = (1 : Int32) from by unfold own_escaped; rw [if_pos hc3, if_neg hc9, if_neg hc15, if_neg hc21, if_neg hc27, if_neg hc33, if_neg hc39, if_neg hc45, if_pos hc51]).symm), N0, rfl⟩
         ·
          refine Goes.pre (U' := s₁.setTop (mkF m 57 #[sI q0_] [(.int (92 : Int32)), (.int q0_)])) (fun t k => XS.icmpNo X0.here hx rfl (hb hby d40_51) rfl (feq hc51).1 (XS.iloadN X0.here hx rfl (hb hby d40_54) rfl (XS.bipush X0.here hx rfl (hb hby d40_55) k))) ?_
          by_cases hc57 : q0_ = (92 : Int32)
          ·
           refine Goes.pre (U' := s₁.setTop (mkF m 65 #[sI q0_] [(.int (1 : Int32))])) (fun t k => XS.icmpNo X0.here hx rfl (hb hby d40_57) rfl (teq hc57).2 (XS.iconst X0.here hx rfl (hb hby d40_60) (XS.goto X0.here hx rfl (pc0 := 61) (pc' := 65) rfl (hb hby d40_61) (by decide) (by decide) k))) ?_
           refine Goes.ret X0 (v := (some (.int (1 : Int32)))) (fun h => by rw [hret] at h; cases h) hlk (by decide) (by decide) e0 (fun fs hr => retN X0 hx (t := .boolean) hret (by simp) (hb hby d40_65) hr) ?_
           exact ⟨congrArg (fun z => some (Value.int z)) (show (1 : Int32) = own_escaped q0_ from (show own_escaped q0_ = (1 : Int32) from by unfold own_escaped; rw [if_pos hc3, if_neg hc9, if_neg hc15, if_neg hc21, if_neg hc27, if_neg hc33, if_neg hc39, if_neg hc45, if_neg hc51, if_pos hc57]).symm), N0, rfl⟩
          ·
           refine Goes.pre (U' := s₁.setTop (mkF m 65 #[sI q0_] [(.int (0 : Int32))])) (fun t k => XS.icmpYes X0.here hx rfl (pc0 := 57) (pc' := 64) rfl (hb hby d40_57) rfl (feq hc57).2 (by decide) (by decide) (XS.iconst X0.here hx rfl (hb hby d40_64) k)) ?_
           refine Goes.ret X0 (v := (some (.int (0 : Int32)))) (fun h => by rw [hret] at h; cases h) hlk (by decide) (by decide) e0 (fun fs hr => retN X0 hx (t := .boolean) hret (by simp) (hb hby d40_65) hr) ?_
           exact ⟨congrArg (fun z => some (Value.int z)) (show (0 : Int32) = own_escaped q0_ from (show own_escaped q0_ = (0 : Int32) from by unfold own_escaped; rw [if_pos hc3, if_neg hc9, if_neg hc15, if_neg hc21, if_neg hc27, if_neg hc33, if_neg hc39, if_neg hc45, if_neg hc51, if_neg hc57]).symm), N0, rfl⟩
 ·
  refine Goes.pre (U' := s₁.setTop (mkF m 65 #[sI q0_] [(.int (1 : Int32))])) (fun t k => XS.icmpYes X0.here hx rfl (pc0 := 3) (pc' := 60) rfl (hb hby d40_3) rfl (flt hc3).2.2.2 (by decide) (by decide) (XS.iconst X0.here hx rfl (hb hby d40_60) (XS.goto X0.here hx rfl (pc0 := 61) (pc' := 65) rfl (hb hby d40_61) (by decide) (by decide) k))) ?_
  refine Goes.ret X0 (v := (some (.int (1 : Int32)))) (fun h => by rw [hret] at h; cases h) hlk (by decide) (by decide) e0 (fun fs hr => retN X0 hx (t := .boolean) hret (by simp) (hb hby d40_65) hr) ?_
  exact ⟨congrArg (fun z => some (Value.int z)) (show (1 : Int32) = own_escaped q0_ from (show own_escaped q0_ = (1 : Int32) from by unfold own_escaped; rw [if_neg hc3]).symm), N0, rfl⟩
theorem ef_rm_wid (m : MethodId) (x0 : Int32) : entryFrame m #[(.int x0)] 1 = mkF m 0 #[sI x0] [] := by first | (simp [entryFrame, mkF, argsToLocals, Value.category]; done) | rfl
abbrev M39 : MethodName := ⟨"com/example/bnodiff/bnodiff/model/TermIriPinLaw", "width", "(C)I"⟩
theorem d39_0 : decode B39 0 = .ok (.iload_n 0, 1) := by decide +kernel
theorem d39_1 : decode B39 1 = .ok (.invokestatic 45, 3) := by decide +kernel
theorem d39_4 : decode B39 4 = .ok (.ifCond .eq 8, 3) := by decide +kernel
theorem d39_12 : decode B39 12 = .ok (.iconst 1, 1) := by decide +kernel
theorem d39_13 : decode B39 13 = .ok (.ireturn, 1) := by decide +kernel
theorem d39_7 : decode B39 7 = .ok (.bipush 6, 2) := by decide +kernel
theorem d39_9 : decode B39 9 = .ok (.goto 4, 3) := by decide +kernel
def own_width (q0_ : Int32) : Int32 := (if (own_escaped q0_) = (0 : Int32) then (1 : Int32) else (6 : Int32))
def Q_rm_wid (Z : State) (q0_ : Int32) (h0 : Heap) (n0 : Nat) (v : Option Value) (h : Heap) (L : List Loc) : Prop := v = some (.int (own_width q0_)) ∧ Fr n0 L ∧ h = h0
set_option maxRecDepth 65536 in
set_option maxHeartbeats 40000000 in
theorem rm_wid (l : Launch) (Z : State) (a0 : Array Value) (hw : ∀ d ∈ tables_1, d.before a0 Z = true) (ws : List Jvm.Cond) (q0_ : Int32) (h0 : Heap) (n0 : Nat) (Z0 : n0 ≤ h0.size)  :
  Met l Z M39 method_5_code 1 (some .int) ws (Rm 1 0 0 12) #[(.int q0_)] h0 (Q_rm_wid Z q0_ h0 n0) := by
 refine met_of (plainFor_of_name pn_com_example_bnodiff_bnodiff_model_TermIriPinLaw) (own := "com/example/bnodiff/bnodiff/model/TermIriPinLaw") rfl (fun m => ef_rm_wid m q0_) ?_
 intro p e s m below meth c s₁ hx hby hml hown hnm hZ X0 e0 hret hlk
 have N0 := Fr.nil n0
 show Goes p e below s _ _ _ (s₁.setTop (mkF m 0 #[sI q0_] []))
 refine Goes.pre (U' := s₁.setTop (mkF m 1 #[sI q0_] [(.int q0_)])) (fun t k => XS.iloadN X0.here hx rfl (hb hby d39_0) rfl k) ?_
 obtain ⟨_, _, ⟨T1, L1, k1, n1⟩, -, X1, ⟨Lc1, hQ1, l1, y1, z1⟩, st1⟩ := Jvm.LawKit.callS X0 hx (y := M40) hown (mvT hZ (wq hw 203 rfl)) (mvT hZ (wq hw 204 rfl)) (mvT hZ (wq hw 2 rfl)) (mvT hZ (wq hw 205 rfl)) (by decide) (backOf (W := 0) (rm_esc l Z a0 hw [] q0_ h0 n0 Z0) hZ (wq hw 205 rfl) (wq hw 2 rfl) (by decide) (by decide)) (g := (mkF m 1 #[sI q0_] [(.int q0_)])) rfl (by rw [hml]; rfl) (argsL := [(.int q0_)]) (rest := []) (lenOf pd__28C_29Z rfl) rfl (by show 2 * 0 + _ ≤ _; exact Nat.le_of_eq rfl) (hb hby d39_1) (fun _ _ => ⟨rfl, e0, (by decide : 0 + 0 ≤ _), (by decide : 0 + 0 ≤ _)⟩)
 dsimp only [Pt.U, Pt.locs, Pt.cells, Pt.slots] at X1 l1 y1 z1 st1 hQ1
 subst l1 y1 z1
 obtain ⟨rfl, N1q, HQ1⟩ := hQ1
 have N1 := Fr.app N0 N1q
 refine Goes.pre (U' := T1.setTop (mkF m 4 #[sI q0_] [(.int (own_escaped q0_))])) (fun t k => st1 t k) ?_
 by_cases hc4 : (own_escaped q0_) = (0 : Int32)
 ·
  refine Goes.pre (U' := T1.setTop (mkF m 13 #[sI q0_] [(.int (1 : Int32))])) (fun t k => XS.ifYes X1.here hx rfl (pc0 := 4) (pc' := 12) rfl (hb hby d39_4) rfl ((if0 _ _).trans (teq hc4).1) (by decide) (by decide) (XS.iconst X1.here hx rfl (hb hby d39_12) k)) ?_
  refine Goes.ret X1 (v := (some (.int (1 : Int32)))) (fun h => by rw [hret] at h; cases h) hlk (by decide) (by decide) HQ1 (fun fs hr => retI X1 hx hret (hb hby d39_13) hr) ?_
  exact ⟨congrArg (fun z => some (Value.int z)) (show (1 : Int32) = own_width q0_ from (show own_width q0_ = (1 : Int32) from by unfold own_width; rw [if_pos hc4]).symm), N1, rfl⟩
 ·
  refine Goes.pre (U' := T1.setTop (mkF m 13 #[sI q0_] [(.int (6 : Int32))])) (fun t k => XS.ifNo X1.here hx rfl (hb hby d39_4) rfl ((if0 _ _).trans (feq hc4).1) (XS.bipush X1.here hx rfl (hb hby d39_7) (XS.goto X1.here hx rfl (pc0 := 9) (pc' := 13) rfl (hb hby d39_9) (by decide) (by decide) k))) ?_
  refine Goes.ret X1 (v := (some (.int (6 : Int32)))) (fun h => by rw [hret] at h; cases h) hlk (by decide) (by decide) HQ1 (fun fs hr => retI X1 hx hret (hb hby d39_13) hr) ?_
  exact ⟨congrArg (fun z => some (Value.int z)) (show (6 : Int32) = own_width q0_ from (show own_width q0_ = (6 : Int32) from by unfold own_width; rw [if_neg hc4]).symm), N1, rfl⟩
theorem ef_rm_hex (m : MethodId) (x0 : Int32) : entryFrame m #[(.int x0)] 1 = mkF m 0 #[sI x0] [] := by first | (simp [entryFrame, mkF, argsToLocals, Value.category]; done) | rfl
abbrev M50 : MethodName := ⟨"com/example/bnodiff/bnodiff/model/TermIriPinLaw", "hex", "(I)C"⟩
theorem d50_0 : decode B50 0 = .ok (.iload_n 0, 1) := by decide +kernel
theorem d50_1 : decode B50 1 = .ok (.bipush 10, 2) := by decide +kernel
theorem d50_3 : decode B50 3 = .ok (.if_icmp .ge 9, 3) := by decide +kernel
theorem d50_6 : decode B50 6 = .ok (.bipush 48, 2) := by decide +kernel
theorem d50_8 : decode B50 8 = .ok (.iload_n 0, 1) := by decide +kernel
theorem d50_9 : decode B50 9 = .ok (.iadd, 1) := by decide +kernel
theorem d50_10 : decode B50 10 = .ok (.i2c, 1) := by decide +kernel
theorem d50_11 : decode B50 11 = .ok (.ireturn, 1) := by decide +kernel
theorem d50_12 : decode B50 12 = .ok (.bipush 65, 2) := by decide +kernel
theorem d50_14 : decode B50 14 = .ok (.iload_n 0, 1) := by decide +kernel
theorem d50_15 : decode B50 15 = .ok (.bipush 10, 2) := by decide +kernel
theorem d50_17 : decode B50 17 = .ok (.isub, 1) := by decide +kernel
theorem d50_18 : decode B50 18 = .ok (.iadd, 1) := by decide +kernel
theorem d50_19 : decode B50 19 = .ok (.i2c, 1) := by decide +kernel
theorem d50_20 : decode B50 20 = .ok (.ireturn, 1) := by decide +kernel
def own_hex (q0_ : Int32) : Int32 := (if q0_ < (10 : Int32) then (nar .char (((48 : Int32) + q0_).toUInt32.toUInt16.toUInt32.toInt32)) else (nar .char (((65 : Int32) + (q0_ - (10 : Int32))).toUInt32.toUInt16.toUInt32.toInt32)))
def Q_rm_hex (Z : State) (q0_ : Int32) (h0 : Heap) (n0 : Nat) (v : Option Value) (h : Heap) (L : List Loc) : Prop := v = some (.int (own_hex q0_)) ∧ Fr n0 L ∧ h = h0
set_option maxRecDepth 65536 in
set_option maxHeartbeats 40000000 in
theorem rm_hex (l : Launch) (Z : State) (a0 : Array Value) (hw : ∀ d ∈ tables_1, d.before a0 Z = true) (ws : List Jvm.Cond) (q0_ : Int32) (h0 : Heap) (n0 : Nat) (Z0 : n0 ≤ h0.size)  :
  Met l Z M50 method_6_code 1 (some .char) ws (Rm 0 0 0 0) #[(.int q0_)] h0 (Q_rm_hex Z q0_ h0 n0) := by
 refine met_of (plainFor_of_name pn_com_example_bnodiff_bnodiff_model_TermIriPinLaw) (own := "com/example/bnodiff/bnodiff/model/TermIriPinLaw") rfl (fun m => ef_rm_hex m q0_) ?_
 intro p e s m below meth c s₁ hx hby hml hown hnm hZ X0 e0 hret hlk
 have N0 := Fr.nil n0
 show Goes p e below s _ _ _ (s₁.setTop (mkF m 0 #[sI q0_] []))
 refine Goes.pre (U' := s₁.setTop (mkF m 3 #[sI q0_] [(.int (10 : Int32)), (.int q0_)])) (fun t k => XS.iloadN X0.here hx rfl (hb hby d50_0) rfl (XS.bipush X0.here hx rfl (hb hby d50_1) k)) ?_
 by_cases hc3 : q0_ < (10 : Int32)
 ·
  refine Goes.pre (U' := s₁.setTop (mkF m 11 #[sI q0_] [(.int (((48 : Int32) + q0_).toUInt32.toUInt16.toUInt32.toInt32))])) (fun t k => XS.icmpNo X0.here hx rfl (hb hby d50_3) rfl (tlt hc3).2.1 (XS.bipush X0.here hx rfl (hb hby d50_6) (XS.iloadN X0.here hx rfl (hb hby d50_8) rfl (XS.iadd X0.here hx rfl (hb hby d50_9) rfl (XS.i2c X0.here hx rfl (hb hby d50_10) rfl k))))) ?_
  refine Goes.ret X0 (v := (some (.int (nar .char (((48 : Int32) + q0_).toUInt32.toUInt16.toUInt32.toInt32))))) (fun h => by rw [hret] at h; cases h) hlk (by decide) (by decide) e0 (fun fs hr => retN X0 hx (t := .char) hret (by simp) (hb hby d50_11) (by rw [show nar .char (((48 : Int32) + q0_).toUInt32.toUInt16.toUInt32.toInt32) = (nar .char (((48 : Int32) + q0_).toUInt32.toUInt16.toUInt32.toInt32)) from rfl]; exact hr)) ?_
  exact ⟨congrArg (fun z => some (Value.int z)) (show (nar .char (((48 : Int32) + q0_).toUInt32.toUInt16.toUInt32.toInt32)) = own_hex q0_ from (show own_hex q0_ = (nar .char (((48 : Int32) + q0_).toUInt32.toUInt16.toUInt32.toInt32)) from by unfold own_hex; rw [if_pos hc3]).symm), N0, rfl⟩
 ·
  refine Goes.pre (U' := s₁.setTop (mkF m 20 #[sI q0_] [(.int (((65 : Int32) + (q0_ - (10 : Int32))).toUInt32.toUInt16.toUInt32.toInt32))])) (fun t k => XS.icmpYes X0.here hx rfl (pc0 := 3) (pc' := 12) rfl (hb hby d50_3) rfl (flt hc3).2.1 (by decide) (by decide) (XS.bipush X0.here hx rfl (hb hby d50_12) (XS.iloadN X0.here hx rfl (hb hby d50_14) rfl (XS.bipush X0.here hx rfl (hb hby d50_15) (XS.isub X0.here hx rfl (hb hby d50_17) rfl (XS.iadd X0.here hx rfl (hb hby d50_18) rfl (XS.i2c X0.here hx rfl (hb hby d50_19) rfl k))))))) ?_
  refine Goes.ret X0 (v := (some (.int (nar .char (((65 : Int32) + (q0_ - (10 : Int32))).toUInt32.toUInt16.toUInt32.toInt32))))) (fun h => by rw [hret] at h; cases h) hlk (by decide) (by decide) e0 (fun fs hr => retN X0 hx (t := .char) hret (by simp) (hb hby d50_20) (by rw [show nar .char (((65 : Int32) + (q0_ - (10 : Int32))).toUInt32.toUInt16.toUInt32.toInt32) = (nar .char (((65 : Int32) + (q0_ - (10 : Int32))).toUInt32.toUInt16.toUInt32.toInt32)) from rfl]; exact hr)) ?_
  exact ⟨congrArg (fun z => some (Value.int z)) (show (nar .char (((65 : Int32) + (q0_ - (10 : Int32))).toUInt32.toUInt16.toUInt32.toInt32)) = own_hex q0_ from (show own_hex q0_ = (nar .char (((65 : Int32) + (q0_ - (10 : Int32))).toUInt32.toUInt16.toUInt32.toInt32)) from by unfold own_hex; rw [if_neg hc3]).symm), N0, rfl⟩
def OwnAt (sl : List Int32) (x v : Int32) : Prop := (¬ (x < (0 : Int32)) ∧ x < Int32.ofNat sl.length) ∧ sl.getD x.toNatClampNeg 0 = v
def OwnOk (sl : List Int32) (pos ch : Int32) : Prop := (own_escaped ch = (0 : Int32) → OwnAt sl pos ch) ∧ (¬ (own_escaped ch = (0 : Int32)) → OwnAt sl pos 92 ∧ OwnAt sl (pos + (1 : Int32)) 117 ∧ OwnAt sl (pos + (2 : Int32)) 48 ∧ OwnAt sl (pos + (3 : Int32)) 48 ∧ OwnAt sl (pos + (4 : Int32)) (own_hex ((ch >>> ((4 : Int32) &&& 31)) &&& (15 : Int32))) ∧ OwnAt sl (pos + (5 : Int32)) (own_hex (ch &&& (15 : Int32))))
theorem own_esc (c : Int32) (h : OwnCh c) : (own_escaped c = (0 : Int32)) ↔ ((32 : Int32) < c ∧ own_iol c < (0 : Int32)) := by
  rw [own_iolm c h]
  unfold own_escaped own_sp
  by_cases a0 : (32 : Int32) < c
  · by_cases a1 : c = 60
    · subst a1; decide
    by_cases a2 : c = 62
    · subst a2; decide
    by_cases a3 : c = 34
    · subst a3; decide
    by_cases a4 : c = 123
    · subst a4; decide
    by_cases a5 : c = 125
    · subst a5; decide
    by_cases a6 : c = 124
    · subst a6; decide
    by_cases a7 : c = 94
    · subst a7; decide
    by_cases a8 : c = 96
    · subst a8; decide
    by_cases a9 : c = 92
    · subst a9; decide
    simp [a0, a1, a2, a3, a4, a5, a6, a7, a8, a9]
  · simp [a0]
theorem own_hexv : ∀ n : Nat, n < 16 → own_hex (Int32.ofNat n) = own_hx.getD n 0 := by decide +kernel
theorem own_hexd (d : Int32) (h : 0 ≤ d.toInt ∧ d.toInt < 16) : own_hex d = own_hx.getD d.toNatClampNeg 0 := by
  have e : d = Int32.ofNat d.toInt.toNat := by
    apply Int32.toInt_inj.mp
    rw [own_ofn _ (by omega)]
    omega
  rw [e, own_hexv _ (by omega), own_ixn _ (by omega)]
theorem own_widthv (c : Int32) (h : OwnCh c) : own_width c = Int32.ofNat (own_enc c).length := by
  unfold own_width
  by_cases q : own_escaped c = (0 : Int32)
  · rw [if_pos q, own_encP c ((own_esc c h).mp q).1 ((own_esc c h).mp q).2]
    rfl
  · rw [if_neg q, own_encE c (fun z => q ((own_esc c h).mpr z))]
    rfl
theorem own_stepw (cl : List Int32) (i : Nat) (P : Int32) (hP : P = Int32.ofNat (own_pre cl i).length) (hc : OwnCh (cl.getD i 0)) : P + own_width (cl.getD i 0) = Int32.ofNat (own_pre cl (i + 1)).length := by
  rw [hP, own_widthv _ hc, own_addk]
  congr 1
  show _ = (own_pre cl i ++ own_enc (cl.getD i 0)).length
  rw [List.length_append]
theorem own_pfxA (cl : List Int32) (i : Nat) : ∀ n, i ≤ n → ∃ r, own_pre cl n = own_pre cl i ++ r
  | 0, h => by
    obtain rfl : i = 0 := by omega
    exact ⟨[], by simp⟩
  | n + 1, h => by
    rcases Nat.lt_or_ge i (n + 1) with q | q
    · obtain ⟨r, e⟩ := own_pfxA cl i n (by omega)
      refine ⟨r ++ own_enc (cl.getD n 0), ?_⟩
      show own_pre cl n ++ own_enc (cl.getD n 0) = _
      rw [e, List.append_assoc]
    · obtain rfl : i = n + 1 := by omega
      exact ⟨[], by simp⟩
theorem own_atmk (sl : List Int32) (x v : Int32) (k : Nat) (hx : x = Int32.ofNat k) (hk : k < sl.length) (hb : sl.length ≤ 4096) (hv : sl.getD k 0 = v) : OwnAt sl x v := by
  subst hx
  refine ⟨own_ix k sl.length hk (by omega), ?_⟩
  rw [own_ixn k (by omega)]
  exact hv
theorem own_getr (A B : List Int32) (j : Nat) : (A ++ B).getD (A.length + j) 0 = B.getD j 0 := by
  rw [List.getD_eq_getElem?_getD, List.getElem?_append_right (by omega), List.getD_eq_getElem?_getD]
  congr 2
  omega
theorem own_getl (A B : List Int32) (j : Nat) (h : j < A.length) : (A ++ B).getD j 0 = A.getD j 0 := by
  rw [List.getD_eq_getElem?_getD, List.getElem?_append_left h, List.getD_eq_getElem?_getD]
theorem own_ok1 (cl : List Int32) (n : Nat) (hn : n ≤ 3) (sl : List Int32) (hsl : sl = own_pre cl n ++ [62]) (hs : sl.length ≤ 20) (i : Nat) (hi : i < n) (hc : OwnCh (cl.getD i 0)) : OwnOk sl (Int32.ofNat (own_pre cl i).length) (cl.getD i 0) := by
  obtain ⟨r, er⟩ := own_pfxA cl (i + 1) n (by omega)
  have e : sl = own_pre cl i ++ (own_enc (cl.getD i 0) ++ (r ++ [62])) := by
    rw [hsl, er]
    show (own_pre cl i ++ own_enc (cl.getD i 0)) ++ r ++ [62] = _
    simp only [List.append_assoc]
  have hlen : sl.length = (own_pre cl i).length + (own_enc (cl.getD i 0)).length + (r.length + 1) := by
    rw [e]
    simp only [List.length_append, List.length_cons, List.length_nil]
    omega
  generalize cl.getD i 0 = c at *
  have at_ : ∀ (j : Nat) (x v : Int32), x = Int32.ofNat ((own_pre cl i).length + j) → j < (own_enc c).length → (own_enc c).getD j 0 = v → OwnAt sl x v := fun j x v hx hj hv => own_atmk sl x v _ hx (by omega) (by omega) (by
    rw [e, own_getr, own_getl _ _ _ hj]
    exact hv)
  refine ⟨fun q => ?_, fun q => ?_⟩
  · have z := (own_esc c hc).mp q
    have ee := own_encP c z.1 z.2
    exact at_ 0 _ _ rfl (by rw [ee]; exact Nat.zero_lt_one) (by rw [ee]; rfl)
  · have z : ¬ ((32 : Int32) < c ∧ own_iol c < (0 : Int32)) := fun w => q ((own_esc c hc).mpr w)
    have ee := own_encE c z
    have hb := own_ebd c hc z
    have l6 : (own_enc c).length = 6 := by rw [ee]; rfl
    have s4 := c_ishr c 4 4 (by decide)
    have m4 := c_mask (c >>> ((4 : Int32) &&& 31)) 15 4 (by decide) (by decide)
    have m0 := c_mask c 15 4 (by decide) (by decide)
    have em : ((c >>> ((4 : Int32) &&& 31)) &&& (15 : Int32)) = (c >>> ((4 : Int32) &&& 31)) := by
      apply Int32.toInt_inj.mp
      omega
    refine ⟨at_ 0 _ _ rfl (by omega) (by rw [ee]; rfl), at_ 1 _ _ (own_addk _ 1) (by omega) (by rw [ee]; rfl), at_ 2 _ _ (own_addk _ 2) (by omega) (by rw [ee]; rfl), at_ 3 _ _ (own_addk _ 3) (by omega) (by rw [ee]; rfl), at_ 4 _ _ (own_addk _ 4) (by omega) ?_, at_ 5 _ _ (own_addk _ 5) (by omega) ?_⟩
    · rw [ee, em, own_hexd _ (by omega)]
      rfl
    · rw [ee, own_hexd _ (by omega)]
      rfl
theorem own_lawP (cl : List Int32) (n : Nat) (hl : cl.length = n) (hn : n ≤ 3) (hc : ∀ c ∈ cl, OwnCh c) (sl : List Int32) (hsl : sl = own_iri cl) :
    sl.length = (own_pre cl n).length + 1 ∧ sl.length ≤ 20 ∧ sl.getD 0 0 = (60 : Int32) ∧ sl.getD (own_pre cl n).length 0 = (62 : Int32) ∧ ∀ i, i < n → OwnOk sl (Int32.ofNat (own_pre cl i).length) (cl.getD i 0) := by
  rw [own_iriE cl n hl] at hsl
  have h1 : sl.length = (own_pre cl n).length + 1 := by rw [hsl, List.length_append]; rfl
  have h2 := own_prel cl n
  have h3 : sl.length ≤ 20 := by omega
  refine ⟨h1, h3, ?_, ?_, fun i hi => own_ok1 cl n hn sl hsl h3 i hi (hc _ (own_gmem cl i (by omega)))⟩
  · obtain ⟨r, er⟩ := own_pfxA cl 0 n (by omega)
    rw [hsl, er]
    rfl
  · rw [hsl]
    have := own_getr (own_pre cl n) [62] 0
    exact this
theorem own_lenP (n m : Nat) (h : n = m + 1) : Int32.ofNat n = Int32.ofNat m + (1 : Int32) := by rw [h]; exact (own_addk m 1).symm
theorem own_nn3 {x k : Int32} (e : k = (x &&& (3 : Int32))) (h0 : ¬ (k = (0 : Int32))) (h1 : ¬ (k = (1 : Int32))) (h2 : ¬ (k = (2 : Int32))) : k = (3 : Int32) := by
  have q := c_mask x 3 2 (by decide) (by decide)
  rw [← e] at q
  have a0 : k.toInt ≠ 0 := fun z => h0 (Int32.toInt_inj.mp z)
  have a1 : k.toInt ≠ 1 := fun z => h1 (Int32.toInt_inj.mp z)
  have a2 : k.toInt ≠ 2 := fun z => h2 (Int32.toInt_inj.mp z)
  apply Int32.toInt_inj.mp
  show k.toInt = 3
  omega
theorem own_chfc (x : Int32) : OwnCh (own_chf x) := by
  unfold own_chf
  split <;> exact own_isch _
def OwnMk (nn ca cb cc : Int32) (cl : List Int32) : Prop := (nn = 0 ∧ cl = []) ∨ (nn = 1 ∧ cl = [ca]) ∨ (nn = 2 ∧ cl = [ca, cb]) ∨ (nn = 3 ∧ cl = [ca, cb, cc])
theorem own_mkl {nn ca cb cc : Int32} {cl : List Int32} (h : OwnMk nn ca cb cc cl) : cl.length ≤ 3 := by
  rcases h with ⟨-, rfl⟩ | ⟨-, rfl⟩ | ⟨-, rfl⟩ | ⟨-, rfl⟩ <;> exact Nat.le_of_ble_eq_true rfl
theorem own_mkc {nn ca cb cc : Int32} {cl : List Int32} (h : OwnMk nn ca cb cc cl) (h1 : OwnCh ca) (h2 : OwnCh cb) (h3 : OwnCh cc) : ∀ c ∈ cl, OwnCh c := by
  rcases h with ⟨-, rfl⟩ | ⟨-, rfl⟩ | ⟨-, rfl⟩ | ⟨-, rfl⟩
  · exact own_cN
  · exact own_cA h1 own_cN
  · exact own_cA h1 (own_cA h2 own_cN)
  · exact own_cA h1 (own_cA h2 (own_cA h3 own_cN))
theorem own_pos1 {nn ca cb cc P : Int32} {cl : List Int32} (h : OwnMk nn ca cb cc cl) (hP : P = (1 : Int32)) (hn : nn < (1 : Int32)) (_hc : ∀ c ∈ cl, OwnCh c) : P = Int32.ofNat (own_pre cl (min 1 cl.length)).length := by
  rcases h with ⟨rfl, rfl⟩ | ⟨rfl, rfl⟩ | ⟨rfl, rfl⟩ | ⟨rfl, rfl⟩
  · exact hP
  · exact absurd hn (by decide)
  · exact absurd hn (by decide)
  · exact absurd hn (by decide)
theorem own_poz1 {nn ca cb cc P : Int32} {cl : List Int32} (h : OwnMk nn ca cb cc cl) (hP : P = (1 : Int32)) (hn : ¬ (nn < (1 : Int32))) (h1 : OwnCh ca) (h2 : OwnCh cb) (h3 : OwnCh cc) : P + own_width ca = Int32.ofNat (own_pre cl (min 1 cl.length)).length := by
  rcases h with ⟨rfl, rfl⟩ | ⟨rfl, rfl⟩ | ⟨rfl, rfl⟩ | ⟨rfl, rfl⟩
  · exact absurd (show (0 : Int32) < 1 by decide) hn
  · exact own_stepw [ca] 0 P hP h1
  · exact own_stepw [ca, cb] 0 P hP h1
  · exact own_stepw [ca, cb, cc] 0 P hP h1
theorem own_okp1 {nn ca cb cc : Int32} {cl sl : List Int32} (h : OwnMk nn ca cb cc cl) (hn : ¬ (nn < (1 : Int32))) (q : ∀ i, i < cl.length → OwnOk sl (Int32.ofNat (own_pre cl i).length) (cl.getD i 0)) : OwnOk sl (1 : Int32) ca := by
  rcases h with ⟨rfl, rfl⟩ | ⟨rfl, rfl⟩ | ⟨rfl, rfl⟩ | ⟨rfl, rfl⟩
  · exact absurd (show (0 : Int32) < 1 by decide) hn
  · exact q 0 (Nat.le_of_ble_eq_true rfl)
  · exact q 0 (Nat.le_of_ble_eq_true rfl)
  · exact q 0 (Nat.le_of_ble_eq_true rfl)
theorem own_pos2 {nn ca cb cc P : Int32} {cl : List Int32} (h : OwnMk nn ca cb cc cl) (hP : P = Int32.ofNat (own_pre cl (min 1 cl.length)).length) (hn : nn < (2 : Int32)) (_hc : ∀ c ∈ cl, OwnCh c) : P = Int32.ofNat (own_pre cl (min 2 cl.length)).length := by
  rcases h with ⟨rfl, rfl⟩ | ⟨rfl, rfl⟩ | ⟨rfl, rfl⟩ | ⟨rfl, rfl⟩
  · exact hP
  · exact hP
  · exact absurd hn (by decide)
  · exact absurd hn (by decide)
theorem own_poz2 {nn ca cb cc P : Int32} {cl : List Int32} (h : OwnMk nn ca cb cc cl) (hP : P = Int32.ofNat (own_pre cl (min 1 cl.length)).length) (hn : ¬ (nn < (2 : Int32))) (h1 : OwnCh ca) (h2 : OwnCh cb) (h3 : OwnCh cc) : P + own_width cb = Int32.ofNat (own_pre cl (min 2 cl.length)).length := by
  rcases h with ⟨rfl, rfl⟩ | ⟨rfl, rfl⟩ | ⟨rfl, rfl⟩ | ⟨rfl, rfl⟩
  · exact absurd (show (0 : Int32) < 2 by decide) hn
  · exact absurd (show (1 : Int32) < 2 by decide) hn
  · exact own_stepw [ca, cb] 1 P hP h2
  · exact own_stepw [ca, cb, cc] 1 P hP h2
theorem own_okp2 {nn ca cb cc P : Int32} {cl sl : List Int32} (h : OwnMk nn ca cb cc cl) (hn : ¬ (nn < (2 : Int32))) (hP : P = Int32.ofNat (own_pre cl (min 1 cl.length)).length) (q : ∀ i, i < cl.length → OwnOk sl (Int32.ofNat (own_pre cl i).length) (cl.getD i 0)) : OwnOk sl P cb := by
  rw [hP]
  rcases h with ⟨rfl, rfl⟩ | ⟨rfl, rfl⟩ | ⟨rfl, rfl⟩ | ⟨rfl, rfl⟩
  · exact absurd (show (0 : Int32) < 2 by decide) hn
  · exact absurd (show (1 : Int32) < 2 by decide) hn
  · exact q 1 (Nat.le_of_ble_eq_true rfl)
  · exact q 1 (Nat.le_of_ble_eq_true rfl)
theorem own_pos3 {nn ca cb cc P : Int32} {cl : List Int32} (h : OwnMk nn ca cb cc cl) (hP : P = Int32.ofNat (own_pre cl (min 2 cl.length)).length) (hn : nn < (3 : Int32)) (_hc : ∀ c ∈ cl, OwnCh c) : P = Int32.ofNat (own_pre cl (min 3 cl.length)).length := by
  rcases h with ⟨rfl, rfl⟩ | ⟨rfl, rfl⟩ | ⟨rfl, rfl⟩ | ⟨rfl, rfl⟩
  · exact hP
  · exact hP
  · exact hP
  · exact absurd hn (by decide)
theorem own_poz3 {nn ca cb cc P : Int32} {cl : List Int32} (h : OwnMk nn ca cb cc cl) (hP : P = Int32.ofNat (own_pre cl (min 2 cl.length)).length) (hn : ¬ (nn < (3 : Int32))) (h1 : OwnCh ca) (h2 : OwnCh cb) (h3 : OwnCh cc) : P + own_width cc = Int32.ofNat (own_pre cl (min 3 cl.length)).length := by
  rcases h with ⟨rfl, rfl⟩ | ⟨rfl, rfl⟩ | ⟨rfl, rfl⟩ | ⟨rfl, rfl⟩
  · exact absurd (show (0 : Int32) < 3 by decide) hn
  · exact absurd (show (1 : Int32) < 3 by decide) hn
  · exact absurd (show (2 : Int32) < 3 by decide) hn
  · exact own_stepw [ca, cb, cc] 2 P hP h3
theorem own_okp3 {nn ca cb cc P : Int32} {cl sl : List Int32} (h : OwnMk nn ca cb cc cl) (hn : ¬ (nn < (3 : Int32))) (hP : P = Int32.ofNat (own_pre cl (min 2 cl.length)).length) (q : ∀ i, i < cl.length → OwnOk sl (Int32.ofNat (own_pre cl i).length) (cl.getD i 0)) : OwnOk sl P cc := by
  rw [hP]
  rcases h with ⟨rfl, rfl⟩ | ⟨rfl, rfl⟩ | ⟨rfl, rfl⟩ | ⟨rfl, rfl⟩
  · exact absurd (show (0 : Int32) < 3 by decide) hn
  · exact absurd (show (1 : Int32) < 3 by decide) hn
  · exact absurd (show (2 : Int32) < 3 by decide) hn
  · exact q 2 (Nat.le_of_ble_eq_true rfl)
theorem ef_rm_ok (m : MethodId) (x0 : Addr) (x1 : Int32) (x2 : Int32) : entryFrame m #[(.ref x0), (.int x1), (.int x2)] 3 = mkF m 0 #[sR x0, sI x1, sI x2] [] := by first | (simp [entryFrame, mkF, argsToLocals, Value.category]; done) | rfl
abbrev M41 : MethodName := ⟨"com/example/bnodiff/bnodiff/model/TermIriPinLaw", "ok", "(Ljava/lang/String;IC)Z"⟩
theorem d41_0 : decode B41 0 = .ok (.iload_n 2, 1) := by decide +kernel
theorem d41_1 : decode B41 1 = .ok (.invokestatic 45, 3) := by decide +kernel
theorem d41_4 : decode B41 4 = .ok (.ifCond .ne 18, 3) := by decide +kernel
theorem d41_7 : decode B41 7 = .ok (.aload_n 0, 1) := by decide +kernel
theorem d41_8 : decode B41 8 = .ok (.iload_n 1, 1) := by decide +kernel
theorem d41_9 : decode B41 9 = .ok (.invokevirtual 36, 3) := by decide +kernel
theorem d41_12 : decode B41 12 = .ok (.iload_n 2, 1) := by decide +kernel
theorem d41_13 : decode B41 13 = .ok (.if_icmp .ne 7, 3) := by decide +kernel
theorem d41_16 : decode B41 16 = .ok (.iconst 1, 1) := by decide +kernel
theorem d41_17 : decode B41 17 = .ok (.goto 4, 3) := by decide +kernel
theorem d41_21 : decode B41 21 = .ok (.ireturn, 1) := by decide +kernel
theorem d41_22 : decode B41 22 = .ok (.aload_n 0, 1) := by decide +kernel
theorem d41_23 : decode B41 23 = .ok (.iload_n 1, 1) := by decide +kernel
theorem d41_24 : decode B41 24 = .ok (.invokevirtual 36, 3) := by decide +kernel
theorem d41_27 : decode B41 27 = .ok (.bipush 92, 2) := by decide +kernel
theorem d41_29 : decode B41 29 = .ok (.if_icmp .ne 79, 3) := by decide +kernel
theorem d41_32 : decode B41 32 = .ok (.aload_n 0, 1) := by decide +kernel
theorem d41_33 : decode B41 33 = .ok (.iload_n 1, 1) := by decide +kernel
theorem d41_34 : decode B41 34 = .ok (.iconst 1, 1) := by decide +kernel
theorem d41_35 : decode B41 35 = .ok (.iadd, 1) := by decide +kernel
theorem d41_36 : decode B41 36 = .ok (.invokevirtual 36, 3) := by decide +kernel
theorem d41_39 : decode B41 39 = .ok (.bipush 117, 2) := by decide +kernel
theorem d41_41 : decode B41 41 = .ok (.if_icmp .ne 67, 3) := by decide +kernel
theorem d41_44 : decode B41 44 = .ok (.aload_n 0, 1) := by decide +kernel
theorem d41_45 : decode B41 45 = .ok (.iload_n 1, 1) := by decide +kernel
theorem d41_46 : decode B41 46 = .ok (.iconst 2, 1) := by decide +kernel
theorem d41_47 : decode B41 47 = .ok (.iadd, 1) := by decide +kernel
theorem d41_48 : decode B41 48 = .ok (.invokevirtual 36, 3) := by decide +kernel
theorem d41_51 : decode B41 51 = .ok (.bipush 48, 2) := by decide +kernel
theorem d41_53 : decode B41 53 = .ok (.if_icmp .ne 55, 3) := by decide +kernel
theorem d41_56 : decode B41 56 = .ok (.aload_n 0, 1) := by decide +kernel
theorem d41_57 : decode B41 57 = .ok (.iload_n 1, 1) := by decide +kernel
theorem d41_58 : decode B41 58 = .ok (.iconst 3, 1) := by decide +kernel
theorem d41_59 : decode B41 59 = .ok (.iadd, 1) := by decide +kernel
theorem d41_60 : decode B41 60 = .ok (.invokevirtual 36, 3) := by decide +kernel
theorem d41_63 : decode B41 63 = .ok (.bipush 48, 2) := by decide +kernel
theorem d41_65 : decode B41 65 = .ok (.if_icmp .ne 43, 3) := by decide +kernel
theorem d41_68 : decode B41 68 = .ok (.aload_n 0, 1) := by decide +kernel
theorem d41_69 : decode B41 69 = .ok (.iload_n 1, 1) := by decide +kernel
theorem d41_70 : decode B41 70 = .ok (.iconst 4, 1) := by decide +kernel
theorem d41_71 : decode B41 71 = .ok (.iadd, 1) := by decide +kernel
theorem d41_72 : decode B41 72 = .ok (.invokevirtual 36, 3) := by decide +kernel
theorem d41_75 : decode B41 75 = .ok (.iload_n 2, 1) := by decide +kernel
theorem d41_76 : decode B41 76 = .ok (.iconst 4, 1) := by decide +kernel
theorem d41_77 : decode B41 77 = .ok (.ishr, 1) := by decide +kernel
theorem d41_78 : decode B41 78 = .ok (.bipush 15, 2) := by decide +kernel
theorem d41_80 : decode B41 80 = .ok (.iand, 1) := by decide +kernel
theorem d41_81 : decode B41 81 = .ok (.invokestatic 49, 3) := by decide +kernel
theorem d41_84 : decode B41 84 = .ok (.if_icmp .ne 24, 3) := by decide +kernel
theorem d41_87 : decode B41 87 = .ok (.aload_n 0, 1) := by decide +kernel
theorem d41_88 : decode B41 88 = .ok (.iload_n 1, 1) := by decide +kernel
theorem d41_89 : decode B41 89 = .ok (.iconst 5, 1) := by decide +kernel
theorem d41_90 : decode B41 90 = .ok (.iadd, 1) := by decide +kernel
theorem d41_91 : decode B41 91 = .ok (.invokevirtual 36, 3) := by decide +kernel
theorem d41_94 : decode B41 94 = .ok (.iload_n 2, 1) := by decide +kernel
theorem d41_95 : decode B41 95 = .ok (.bipush 15, 2) := by decide +kernel
theorem d41_97 : decode B41 97 = .ok (.iand, 1) := by decide +kernel
theorem d41_98 : decode B41 98 = .ok (.invokestatic 49, 3) := by decide +kernel
theorem d41_101 : decode B41 101 = .ok (.if_icmp .ne 7, 3) := by decide +kernel
theorem d41_104 : decode B41 104 = .ok (.iconst 1, 1) := by decide +kernel
theorem d41_105 : decode B41 105 = .ok (.goto 4, 3) := by decide +kernel
theorem d41_109 : decode B41 109 = .ok (.ireturn, 1) := by decide +kernel
def Q_rm_ok (Z : State) (z : Addr) (zb : Addr) (kz : ClassId) (sl : List Int32) (pos : Int32) (ch : Int32) (cs : Int32) (sf : Value) (h0 : Heap) (n0 : Nat) (v : Option Value) (h : Heap) (L : List Loc) : Prop := v = some (.int (1 : Int32)) ∧ Fr n0 L ∧ h = h0
set_option maxRecDepth 65536 in
set_option maxHeartbeats 40000000 in
theorem rm_ok (l : Launch) (Z : State) (a0 : Array Value) (hw : ∀ d ∈ tables_1, d.before a0 Z = true) (ws : List Jvm.Cond) (z : Addr) (zb : Addr) (kz : ClassId) (sl : List Int32) (pos : Int32) (ch : Int32) (cs : Int32) (sf : Value) (h0 : Heap) (n0 : Nat) (Z0 : n0 ≤ h0.size) (S_z : OwnStr Z h0 z zb kz sl) (sC : OCS Z (.int cs)) (sA : OAD Z (.int (1 : Int32))) (sH : OHI Z (.int (0 : Int32))) (sL : OLO Z (.int (8 : Int32))) (sF : OSF Z sf) (hsl4 : sl.length ≤ 4096) (hok : OwnOk sl pos ch) (hcs : ¬ (cs = (0 : Int32))) (hsf : sf.isRef = true) (O : Old Z n0 h0) :
  Met l Z M41 method_7_code 3 (some .boolean) ws (Rm 5 0 0 66) #[(.ref z), (.int pos), (.int ch)] h0 (Q_rm_ok Z z zb kz sl pos ch cs sf h0 n0) := by
 refine met_of (plainFor_of_name pn_com_example_bnodiff_bnodiff_model_TermIriPinLaw) (own := "com/example/bnodiff/bnodiff/model/TermIriPinLaw") rfl (fun m => ef_rm_ok m z pos ch) ?_
 intro p e s m below meth c s₁ hx hby hml hown hnm hZ X0 e0 hret hlk
 have N0 := Fr.nil n0
 show Goes p e below s _ _ _ (s₁.setTop (mkF m 0 #[sR z, sI pos, sI ch] []))
 refine Goes.pre (U' := s₁.setTop (mkF m 1 #[sR z, sI pos, sI ch] [(.int ch)])) (fun t k => XS.iloadN X0.here hx rfl (hb hby d41_0) rfl k) ?_
 obtain ⟨_, _, ⟨T1, L1, k1, n1⟩, -, X1, ⟨Lc1, hQ1, l1, y1, z1⟩, st1⟩ := Jvm.LawKit.callS X0 hx (y := M40) hown (mvT hZ (wq hw 203 rfl)) (mvT hZ (wq hw 204 rfl)) (mvT hZ (wq hw 2 rfl)) (mvT hZ (wq hw 205 rfl)) (by decide) (backOf (W := 0) (rm_esc l Z a0 hw [] ch h0 n0 Z0) hZ (wq hw 205 rfl) (wq hw 2 rfl) (by decide) (by decide)) (g := (mkF m 1 #[sR z, sI pos, sI ch] [(.int ch)])) rfl (by rw [hml]; rfl) (argsL := [(.int ch)]) (rest := []) (lenOf pd__28C_29Z rfl) rfl (by show 2 * 0 + _ ≤ _; exact Nat.le_of_eq rfl) (hb hby d41_1) (fun _ _ => ⟨rfl, e0, (by decide : 0 + 0 ≤ _), (by decide : 0 + 0 ≤ _)⟩)
 dsimp only [Pt.U, Pt.locs, Pt.cells, Pt.slots] at X1 l1 y1 z1 st1 hQ1
 subst l1 y1 z1
 obtain ⟨rfl, N1q, HQ1⟩ := hQ1
 have N1 := Fr.app N0 N1q
 refine Goes.pre (U' := T1.setTop (mkF m 4 #[sR z, sI pos, sI ch] [(.int (own_escaped ch))])) (fun t k => st1 t k) ?_
 by_cases hc4 : (own_escaped ch) = (0 : Int32)
 ·
  refine Goes.pre (U' := T1.setTop (mkF m 9 #[sR z, sI pos, sI ch] [(.int pos), (.ref z)])) (fun t k => XS.ifNo X1.here hx rfl (hb hby d41_4) rfl ((if0 _ _).trans (teq hc4).2) (XS.aloadN X1.here hx rfl (hb hby d41_7) rfl rfl (XS.iloadN X1.here hx rfl (hb hby d41_8) rfl k))) ?_
  obtain ⟨cq2, kq2, q2a, q2b, q2c⟩ := isOf hZ HQ1 S_z.1
  obtain ⟨_, _, ⟨T2, L2, k2, n2⟩, -, X2, ⟨Lc2, hQ2, l2, y2, z2⟩, st2⟩ := X1.virtualBack hx (y := M24) (z := M24) hown (mvT hZ (wq hw 140 rfl)) (mvT hZ (wq hw 141 rfl)) (notFace_of_selects (args := #[]) (mvT hZ (wq hw 143 rfl))) (mvT hZ (wq hw 143 rfl)) (mvT hZ (wq hw 142 rfl)) (by decide) (backOf (W := 0) (rm_chG l Z a0 hw [] z zb kz sl pos cs sf h0 n0 Z0 S_z sC sA sH sL sF (hok.1 hc4).1.1 (hok.1 hc4).1.2 hsl4 hcs hsf O) hZ (wq hw 144 rfl) (wq hw 8 rfl) (by decide) (by decide)) q2a q2c (g := (mkF m 9 #[sR z, sI pos, sI ch] [(.int pos), (.ref z)])) rfl (by rw [hml]; rfl) (Steps.refl _) (argsL := [(.int pos)]) (rest := []) (lenOf pd__28I_29C rfl) rfl (by show 2 * 0 + _ ≤ _; exact Nat.le_of_eq rfl) (hb hby d41_9) (fun _ _ => ⟨rfl, HQ1, (by decide : 0 + 0 ≤ _), (by decide : 0 + 0 ≤ _)⟩)
  dsimp only [Pt.U, Pt.locs, Pt.cells, Pt.slots] at X2 l2 y2 z2 st2 hQ2
  subst l2 y2 z2
  obtain ⟨rfl, N2q, HQ2⟩ := hQ2
  have N2 := Fr.app N1 N2q
  refine Goes.pre (U' := T2.setTop (mkF m 13 #[sR z, sI pos, sI ch] [(.int ch), (.int (sl.getD pos.toNatClampNeg 0))])) (fun t k => st2.trans (XS.iloadN X2.here hx rfl (hb hby d41_12) rfl k)) ?_
  have hc13 : (sl.getD pos.toNatClampNeg 0) = ch := (hok.1 hc4).2
  refine Goes.pre (U' := T2.setTop (mkF m 21 #[sR z, sI pos, sI ch] [(.int (1 : Int32))])) (fun t k => XS.icmpNo X2.here hx rfl (hb hby d41_13) rfl (teq hc13).2 (XS.iconst X2.here hx rfl (hb hby d41_16) (XS.goto X2.here hx rfl (pc0 := 17) (pc' := 21) rfl (hb hby d41_17) (by decide) (by decide) k))) ?_
  refine Goes.ret X2 (v := (some (.int (1 : Int32)))) (fun h => by rw [hret] at h; cases h) hlk (by decide) (by decide) HQ2 (fun fs hr => retN X2 hx (t := .boolean) hret (by simp) (hb hby d41_21) hr) ?_
  exact ⟨rfl, N2, rfl⟩
 ·
  refine Goes.pre (U' := T1.setTop (mkF m 24 #[sR z, sI pos, sI ch] [(.int pos), (.ref z)])) (fun t k => XS.ifYes X1.here hx rfl (pc0 := 4) (pc' := 22) rfl (hb hby d41_4) rfl ((if0 _ _).trans (feq hc4).2) (by decide) (by decide) (XS.aloadN X1.here hx rfl (hb hby d41_22) rfl rfl (XS.iloadN X1.here hx rfl (hb hby d41_23) rfl k))) ?_
  obtain ⟨cq3, kq3, q3a, q3b, q3c⟩ := isOf hZ HQ1 S_z.1
  obtain ⟨_, _, ⟨T3, L3, k3, n3⟩, -, X3, ⟨Lc3, hQ3, l3, y3, z3⟩, st3⟩ := X1.virtualBack hx (y := M24) (z := M24) hown (mvT hZ (wq hw 140 rfl)) (mvT hZ (wq hw 141 rfl)) (notFace_of_selects (args := #[]) (mvT hZ (wq hw 143 rfl))) (mvT hZ (wq hw 143 rfl)) (mvT hZ (wq hw 142 rfl)) (by decide) (backOf (W := 0) (rm_chG l Z a0 hw [] z zb kz sl pos cs sf h0 n0 Z0 S_z sC sA sH sL sF (hok.2 hc4).1.1.1 (hok.2 hc4).1.1.2 hsl4 hcs hsf O) hZ (wq hw 144 rfl) (wq hw 8 rfl) (by decide) (by decide)) q3a q3c (g := (mkF m 24 #[sR z, sI pos, sI ch] [(.int pos), (.ref z)])) rfl (by rw [hml]; rfl) (Steps.refl _) (argsL := [(.int pos)]) (rest := []) (lenOf pd__28I_29C rfl) rfl (by show 2 * 0 + _ ≤ _; exact Nat.le_of_eq rfl) (hb hby d41_24) (fun _ _ => ⟨rfl, HQ1, (by decide : 0 + 0 ≤ _), (by decide : 0 + 0 ≤ _)⟩)
  dsimp only [Pt.U, Pt.locs, Pt.cells, Pt.slots] at X3 l3 y3 z3 st3 hQ3
  subst l3 y3 z3
  obtain ⟨rfl, N3q, HQ3⟩ := hQ3
  have N3 := Fr.app N1 N3q
  refine Goes.pre (U' := T3.setTop (mkF m 29 #[sR z, sI pos, sI ch] [(.int (92 : Int32)), (.int (sl.getD pos.toNatClampNeg 0))])) (fun t k => st3.trans (XS.bipush X3.here hx rfl (hb hby d41_27) k)) ?_
  have hc29 : (sl.getD pos.toNatClampNeg 0) = (92 : Int32) := (hok.2 hc4).1.2
  refine Goes.pre (U' := T3.setTop (mkF m 36 #[sR z, sI pos, sI ch] [(.int (pos + (1 : Int32))), (.ref z)])) (fun t k => XS.icmpNo X3.here hx rfl (hb hby d41_29) rfl (teq hc29).2 (XS.aloadN X3.here hx rfl (hb hby d41_32) rfl rfl (XS.iloadN X3.here hx rfl (hb hby d41_33) rfl (XS.iconst X3.here hx rfl (hb hby d41_34) (XS.iadd X3.here hx rfl (hb hby d41_35) rfl k))))) ?_
  obtain ⟨cq4, kq4, q4a, q4b, q4c⟩ := isOf hZ HQ3 S_z.1
  obtain ⟨_, _, ⟨T4, L4, k4, n4⟩, -, X4, ⟨Lc4, hQ4, l4, y4, z4⟩, st4⟩ := X3.virtualBack hx (y := M24) (z := M24) hown (mvT hZ (wq hw 140 rfl)) (mvT hZ (wq hw 141 rfl)) (notFace_of_selects (args := #[]) (mvT hZ (wq hw 143 rfl))) (mvT hZ (wq hw 143 rfl)) (mvT hZ (wq hw 142 rfl)) (by decide) (backOf (W := 0) (rm_chG l Z a0 hw [] z zb kz sl (pos + (1 : Int32)) cs sf h0 n0 Z0 S_z sC sA sH sL sF (hok.2 hc4).2.1.1.1 (hok.2 hc4).2.1.1.2 hsl4 hcs hsf O) hZ (wq hw 144 rfl) (wq hw 8 rfl) (by decide) (by decide)) q4a q4c (g := (mkF m 36 #[sR z, sI pos, sI ch] [(.int (pos + (1 : Int32))), (.ref z)])) rfl (by rw [hml]; rfl) (Steps.refl _) (argsL := [(.int (pos + (1 : Int32)))]) (rest := []) (lenOf pd__28I_29C rfl) rfl (by show 2 * 0 + _ ≤ _; exact Nat.le_of_eq rfl) (hb hby d41_36) (fun _ _ => ⟨rfl, HQ3, (by decide : 0 + 0 ≤ _), (by decide : 0 + 0 ≤ _)⟩)
  dsimp only [Pt.U, Pt.locs, Pt.cells, Pt.slots] at X4 l4 y4 z4 st4 hQ4
  subst l4 y4 z4
  obtain ⟨rfl, N4q, HQ4⟩ := hQ4
  have N4 := Fr.app N3 N4q
  refine Goes.pre (U' := T4.setTop (mkF m 41 #[sR z, sI pos, sI ch] [(.int (117 : Int32)), (.int (sl.getD (pos + (1 : Int32)).toNatClampNeg 0))])) (fun t k => st4.trans (XS.bipush X4.here hx rfl (hb hby d41_39) k)) ?_
  have hc41 : (sl.getD (pos + (1 : Int32)).toNatClampNeg 0) = (117 : Int32) := (hok.2 hc4).2.1.2
  refine Goes.pre (U' := T4.setTop (mkF m 48 #[sR z, sI pos, sI ch] [(.int (pos + (2 : Int32))), (.ref z)])) (fun t k => XS.icmpNo X4.here hx rfl (hb hby d41_41) rfl (teq hc41).2 (XS.aloadN X4.here hx rfl (hb hby d41_44) rfl rfl (XS.iloadN X4.here hx rfl (hb hby d41_45) rfl (XS.iconst X4.here hx rfl (hb hby d41_46) (XS.iadd X4.here hx rfl (hb hby d41_47) rfl k))))) ?_
  obtain ⟨cq5, kq5, q5a, q5b, q5c⟩ := isOf hZ HQ4 S_z.1
  obtain ⟨_, _, ⟨T5, L5, k5, n5⟩, -, X5, ⟨Lc5, hQ5, l5, y5, z5⟩, st5⟩ := X4.virtualBack hx (y := M24) (z := M24) hown (mvT hZ (wq hw 140 rfl)) (mvT hZ (wq hw 141 rfl)) (notFace_of_selects (args := #[]) (mvT hZ (wq hw 143 rfl))) (mvT hZ (wq hw 143 rfl)) (mvT hZ (wq hw 142 rfl)) (by decide) (backOf (W := 0) (rm_chG l Z a0 hw [] z zb kz sl (pos + (2 : Int32)) cs sf h0 n0 Z0 S_z sC sA sH sL sF (hok.2 hc4).2.2.1.1.1 (hok.2 hc4).2.2.1.1.2 hsl4 hcs hsf O) hZ (wq hw 144 rfl) (wq hw 8 rfl) (by decide) (by decide)) q5a q5c (g := (mkF m 48 #[sR z, sI pos, sI ch] [(.int (pos + (2 : Int32))), (.ref z)])) rfl (by rw [hml]; rfl) (Steps.refl _) (argsL := [(.int (pos + (2 : Int32)))]) (rest := []) (lenOf pd__28I_29C rfl) rfl (by show 2 * 0 + _ ≤ _; exact Nat.le_of_eq rfl) (hb hby d41_48) (fun _ _ => ⟨rfl, HQ4, (by decide : 0 + 0 ≤ _), (by decide : 0 + 0 ≤ _)⟩)
  dsimp only [Pt.U, Pt.locs, Pt.cells, Pt.slots] at X5 l5 y5 z5 st5 hQ5
  subst l5 y5 z5
  obtain ⟨rfl, N5q, HQ5⟩ := hQ5
  have N5 := Fr.app N4 N5q
  refine Goes.pre (U' := T5.setTop (mkF m 53 #[sR z, sI pos, sI ch] [(.int (48 : Int32)), (.int (sl.getD (pos + (2 : Int32)).toNatClampNeg 0))])) (fun t k => st5.trans (XS.bipush X5.here hx rfl (hb hby d41_51) k)) ?_
  have hc53 : (sl.getD (pos + (2 : Int32)).toNatClampNeg 0) = (48 : Int32) := (hok.2 hc4).2.2.1.2
  refine Goes.pre (U' := T5.setTop (mkF m 60 #[sR z, sI pos, sI ch] [(.int (pos + (3 : Int32))), (.ref z)])) (fun t k => XS.icmpNo X5.here hx rfl (hb hby d41_53) rfl (teq hc53).2 (XS.aloadN X5.here hx rfl (hb hby d41_56) rfl rfl (XS.iloadN X5.here hx rfl (hb hby d41_57) rfl (XS.iconst X5.here hx rfl (hb hby d41_58) (XS.iadd X5.here hx rfl (hb hby d41_59) rfl k))))) ?_
  obtain ⟨cq6, kq6, q6a, q6b, q6c⟩ := isOf hZ HQ5 S_z.1
  obtain ⟨_, _, ⟨T6, L6, k6, n6⟩, -, X6, ⟨Lc6, hQ6, l6, y6, z6⟩, st6⟩ := X5.virtualBack hx (y := M24) (z := M24) hown (mvT hZ (wq hw 140 rfl)) (mvT hZ (wq hw 141 rfl)) (notFace_of_selects (args := #[]) (mvT hZ (wq hw 143 rfl))) (mvT hZ (wq hw 143 rfl)) (mvT hZ (wq hw 142 rfl)) (by decide) (backOf (W := 0) (rm_chG l Z a0 hw [] z zb kz sl (pos + (3 : Int32)) cs sf h0 n0 Z0 S_z sC sA sH sL sF (hok.2 hc4).2.2.2.1.1.1 (hok.2 hc4).2.2.2.1.1.2 hsl4 hcs hsf O) hZ (wq hw 144 rfl) (wq hw 8 rfl) (by decide) (by decide)) q6a q6c (g := (mkF m 60 #[sR z, sI pos, sI ch] [(.int (pos + (3 : Int32))), (.ref z)])) rfl (by rw [hml]; rfl) (Steps.refl _) (argsL := [(.int (pos + (3 : Int32)))]) (rest := []) (lenOf pd__28I_29C rfl) rfl (by show 2 * 0 + _ ≤ _; exact Nat.le_of_eq rfl) (hb hby d41_60) (fun _ _ => ⟨rfl, HQ5, (by decide : 0 + 0 ≤ _), (by decide : 0 + 0 ≤ _)⟩)
  dsimp only [Pt.U, Pt.locs, Pt.cells, Pt.slots] at X6 l6 y6 z6 st6 hQ6
  subst l6 y6 z6
  obtain ⟨rfl, N6q, HQ6⟩ := hQ6
  have N6 := Fr.app N5 N6q
  refine Goes.pre (U' := T6.setTop (mkF m 65 #[sR z, sI pos, sI ch] [(.int (48 : Int32)), (.int (sl.getD (pos + (3 : Int32)).toNatClampNeg 0))])) (fun t k => st6.trans (XS.bipush X6.here hx rfl (hb hby d41_63) k)) ?_
  have hc65 : (sl.getD (pos + (3 : Int32)).toNatClampNeg 0) = (48 : Int32) := (hok.2 hc4).2.2.2.1.2
  refine Goes.pre (U' := T6.setTop (mkF m 72 #[sR z, sI pos, sI ch] [(.int (pos + (4 : Int32))), (.ref z)])) (fun t k => XS.icmpNo X6.here hx rfl (hb hby d41_65) rfl (teq hc65).2 (XS.aloadN X6.here hx rfl (hb hby d41_68) rfl rfl (XS.iloadN X6.here hx rfl (hb hby d41_69) rfl (XS.iconst X6.here hx rfl (hb hby d41_70) (XS.iadd X6.here hx rfl (hb hby d41_71) rfl k))))) ?_
  obtain ⟨cq7, kq7, q7a, q7b, q7c⟩ := isOf hZ HQ6 S_z.1
  obtain ⟨_, _, ⟨T7, L7, k7, n7⟩, -, X7, ⟨Lc7, hQ7, l7, y7, z7⟩, st7⟩ := X6.virtualBack hx (y := M24) (z := M24) hown (mvT hZ (wq hw 140 rfl)) (mvT hZ (wq hw 141 rfl)) (notFace_of_selects (args := #[]) (mvT hZ (wq hw 143 rfl))) (mvT hZ (wq hw 143 rfl)) (mvT hZ (wq hw 142 rfl)) (by decide) (backOf (W := 0) (rm_chG l Z a0 hw [] z zb kz sl (pos + (4 : Int32)) cs sf h0 n0 Z0 S_z sC sA sH sL sF (hok.2 hc4).2.2.2.2.1.1.1 (hok.2 hc4).2.2.2.2.1.1.2 hsl4 hcs hsf O) hZ (wq hw 144 rfl) (wq hw 8 rfl) (by decide) (by decide)) q7a q7c (g := (mkF m 72 #[sR z, sI pos, sI ch] [(.int (pos + (4 : Int32))), (.ref z)])) rfl (by rw [hml]; rfl) (Steps.refl _) (argsL := [(.int (pos + (4 : Int32)))]) (rest := []) (lenOf pd__28I_29C rfl) rfl (by show 2 * 0 + _ ≤ _; exact Nat.le_of_eq rfl) (hb hby d41_72) (fun _ _ => ⟨rfl, HQ6, (by decide : 0 + 0 ≤ _), (by decide : 0 + 0 ≤ _)⟩)
  dsimp only [Pt.U, Pt.locs, Pt.cells, Pt.slots] at X7 l7 y7 z7 st7 hQ7
  subst l7 y7 z7
  obtain ⟨rfl, N7q, HQ7⟩ := hQ7
  have N7 := Fr.app N6 N7q
  refine Goes.pre (U' := T7.setTop (mkF m 81 #[sR z, sI pos, sI ch] [(.int ((ch >>> ((4 : Int32) &&& 31)) &&& (15 : Int32))), (.int (sl.getD (pos + (4 : Int32)).toNatClampNeg 0))])) (fun t k => st7.trans (XS.iloadN X7.here hx rfl (hb hby d41_75) rfl (XS.iconst X7.here hx rfl (hb hby d41_76) (XS.ishr X7.here hx rfl (hb hby d41_77) rfl (XS.bipush X7.here hx rfl (hb hby d41_78) (XS.iand X7.here hx rfl (hb hby d41_80) rfl k)))))) ?_
  obtain ⟨_, _, ⟨T8, L8, k8, n8⟩, -, X8, ⟨Lc8, hQ8, l8, y8, z8⟩, st8⟩ := Jvm.LawKit.callS X7 hx (y := M50) hown (mvT hZ (wq hw 258 rfl)) (mvT hZ (wq hw 259 rfl)) (mvT hZ (wq hw 2 rfl)) (mvT hZ (wq hw 260 rfl)) (by decide) (backOf (W := 1) (rm_hex l Z a0 hw [] ((ch >>> ((4 : Int32) &&& 31)) &&& (15 : Int32)) h0 n0 Z0) hZ (wq hw 260 rfl) (wq hw 2 rfl) (by decide) (by decide)) (g := (mkF m 81 #[sR z, sI pos, sI ch] [(.int ((ch >>> ((4 : Int32) &&& 31)) &&& (15 : Int32))), (.int (sl.getD (pos + (4 : Int32)).toNatClampNeg 0))])) rfl (by rw [hml]; rfl) (argsL := [(.int ((ch >>> ((4 : Int32) &&& 31)) &&& (15 : Int32)))]) (rest := [(.int (sl.getD (pos + (4 : Int32)).toNatClampNeg 0))]) (lenOf pd__28I_29C rfl) rfl (by show 2 * 0 + _ ≤ _; exact Nat.le_of_eq rfl) (hb hby d41_81) (fun _ _ => ⟨rfl, HQ7, (by decide : 0 + 0 ≤ _), (by decide : 0 + 0 ≤ _)⟩)
  dsimp only [Pt.U, Pt.locs, Pt.cells, Pt.slots] at X8 l8 y8 z8 st8 hQ8
  subst l8 y8 z8
  obtain ⟨rfl, N8q, HQ8⟩ := hQ8
  have N8 := Fr.app N7 N8q
  refine Goes.pre (U' := T8.setTop (mkF m 84 #[sR z, sI pos, sI ch] [(.int (own_hex ((ch >>> ((4 : Int32) &&& 31)) &&& (15 : Int32)))), (.int (sl.getD (pos + (4 : Int32)).toNatClampNeg 0))])) (fun t k => st8 t k) ?_
  have hc84 : (sl.getD (pos + (4 : Int32)).toNatClampNeg 0) = (own_hex ((ch >>> ((4 : Int32) &&& 31)) &&& (15 : Int32))) := (hok.2 hc4).2.2.2.2.1.2
  refine Goes.pre (U' := T8.setTop (mkF m 91 #[sR z, sI pos, sI ch] [(.int (pos + (5 : Int32))), (.ref z)])) (fun t k => XS.icmpNo X8.here hx rfl (hb hby d41_84) rfl (teq hc84).2 (XS.aloadN X8.here hx rfl (hb hby d41_87) rfl rfl (XS.iloadN X8.here hx rfl (hb hby d41_88) rfl (XS.iconst X8.here hx rfl (hb hby d41_89) (XS.iadd X8.here hx rfl (hb hby d41_90) rfl k))))) ?_
  obtain ⟨cq9, kq9, q9a, q9b, q9c⟩ := isOf hZ HQ8 S_z.1
  obtain ⟨_, _, ⟨T9, L9, k9, n9⟩, -, X9, ⟨Lc9, hQ9, l9, y9, z9⟩, st9⟩ := X8.virtualBack hx (y := M24) (z := M24) hown (mvT hZ (wq hw 140 rfl)) (mvT hZ (wq hw 141 rfl)) (notFace_of_selects (args := #[]) (mvT hZ (wq hw 143 rfl))) (mvT hZ (wq hw 143 rfl)) (mvT hZ (wq hw 142 rfl)) (by decide) (backOf (W := 0) (rm_chG l Z a0 hw [] z zb kz sl (pos + (5 : Int32)) cs sf h0 n0 Z0 S_z sC sA sH sL sF (hok.2 hc4).2.2.2.2.2.1.1 (hok.2 hc4).2.2.2.2.2.1.2 hsl4 hcs hsf O) hZ (wq hw 144 rfl) (wq hw 8 rfl) (by decide) (by decide)) q9a q9c (g := (mkF m 91 #[sR z, sI pos, sI ch] [(.int (pos + (5 : Int32))), (.ref z)])) rfl (by rw [hml]; rfl) (Steps.refl _) (argsL := [(.int (pos + (5 : Int32)))]) (rest := []) (lenOf pd__28I_29C rfl) rfl (by show 2 * 0 + _ ≤ _; exact Nat.le_of_eq rfl) (hb hby d41_91) (fun _ _ => ⟨rfl, HQ8, (by decide : 0 + 0 ≤ _), (by decide : 0 + 0 ≤ _)⟩)
  dsimp only [Pt.U, Pt.locs, Pt.cells, Pt.slots] at X9 l9 y9 z9 st9 hQ9
  subst l9 y9 z9
  obtain ⟨rfl, N9q, HQ9⟩ := hQ9
  have N9 := Fr.app N8 N9q
  refine Goes.pre (U' := T9.setTop (mkF m 98 #[sR z, sI pos, sI ch] [(.int (ch &&& (15 : Int32))), (.int (sl.getD (pos + (5 : Int32)).toNatClampNeg 0))])) (fun t k => st9.trans (XS.iloadN X9.here hx rfl (hb hby d41_94) rfl (XS.bipush X9.here hx rfl (hb hby d41_95) (XS.iand X9.here hx rfl (hb hby d41_97) rfl k)))) ?_
  obtain ⟨_, _, ⟨T10, L10, k10, n10⟩, -, X10, ⟨Lc10, hQ10, l10, y10, z10⟩, st10⟩ := Jvm.LawKit.callS X9 hx (y := M50) hown (mvT hZ (wq hw 258 rfl)) (mvT hZ (wq hw 259 rfl)) (mvT hZ (wq hw 2 rfl)) (mvT hZ (wq hw 260 rfl)) (by decide) (backOf (W := 1) (rm_hex l Z a0 hw [] (ch &&& (15 : Int32)) h0 n0 Z0) hZ (wq hw 260 rfl) (wq hw 2 rfl) (by decide) (by decide)) (g := (mkF m 98 #[sR z, sI pos, sI ch] [(.int (ch &&& (15 : Int32))), (.int (sl.getD (pos + (5 : Int32)).toNatClampNeg 0))])) rfl (by rw [hml]; rfl) (argsL := [(.int (ch &&& (15 : Int32)))]) (rest := [(.int (sl.getD (pos + (5 : Int32)).toNatClampNeg 0))]) (lenOf pd__28I_29C rfl) rfl (by show 2 * 0 + _ ≤ _; exact Nat.le_of_eq rfl) (hb hby d41_98) (fun _ _ => ⟨rfl, HQ9, (by decide : 0 + 0 ≤ _), (by decide : 0 + 0 ≤ _)⟩)
  dsimp only [Pt.U, Pt.locs, Pt.cells, Pt.slots] at X10 l10 y10 z10 st10 hQ10
  subst l10 y10 z10
  obtain ⟨rfl, N10q, HQ10⟩ := hQ10
  have N10 := Fr.app N9 N10q
  refine Goes.pre (U' := T10.setTop (mkF m 101 #[sR z, sI pos, sI ch] [(.int (own_hex (ch &&& (15 : Int32)))), (.int (sl.getD (pos + (5 : Int32)).toNatClampNeg 0))])) (fun t k => st10 t k) ?_
  have hc101 : (sl.getD (pos + (5 : Int32)).toNatClampNeg 0) = (own_hex (ch &&& (15 : Int32))) := (hok.2 hc4).2.2.2.2.2.2
  refine Goes.pre (U' := T10.setTop (mkF m 109 #[sR z, sI pos, sI ch] [(.int (1 : Int32))])) (fun t k => XS.icmpNo X10.here hx rfl (hb hby d41_101) rfl (teq hc101).2 (XS.iconst X10.here hx rfl (hb hby d41_104) (XS.goto X10.here hx rfl (pc0 := 105) (pc' := 109) rfl (hb hby d41_105) (by decide) (by decide) k))) ?_
  refine Goes.ret X10 (v := (some (.int (1 : Int32)))) (fun h => by rw [hret] at h; cases h) hlk (by decide) (by decide) HQ10 (fun fs hr => retN X10 hx (t := .boolean) hret (by simp) (hb hby d41_109) hr) ?_
  exact ⟨rfl, N10, rfl⟩
theorem ef_rm0 (m : MethodId) (x0 : Int32) (x1 : Int32) (x2 : Int32) (x3 : Int32) : entryFrame m #[(.int x0), (.int x1), (.int x2), (.int x3)] maxLocals = mkF m 0 #[sI x0, sI x1, sI x2, sI x3, .unset, .unset, .unset, .unset, .unset, .unset, .unset, .unset, .unset, .unset] [] := by first | (simp [entryFrame, mkF, argsToLocals, Value.category, maxLocals]; done) | rfl
theorem pd__28_5bC_29V : parseMethodDescriptor "([C)V" = some ⟨[(.array .char)], none⟩ := by decide +kernel
theorem pd__28Ljava_2flang_2fString_3b_29Lcom_2fexample_2fbnodiff_2fbnodiff_2fmodel_2fTerm_3b : parseMethodDescriptor "(Ljava/lang/String;)Lcom/example/bnodiff/bnodiff/model/Term;" = some ⟨[(.object "java/lang/String")], some (.object "com/example/bnodiff/bnodiff/model/Term")⟩ := by decide +kernel
theorem pd__28C_29I : parseMethodDescriptor "(C)I" = some ⟨[.char], some .int⟩ := by decide +kernel
theorem pd__28Ljava_2flang_2fString_3bIC_29Z : parseMethodDescriptor "(Ljava/lang/String;IC)Z" = some ⟨[(.object "java/lang/String"), .int, .char], some .boolean⟩ := by decide +kernel
def Q_rm0 (Z : State) (p1 p2 p3 p4 : Int32) (cs : Int32) (sf : Value) (h0 : Heap) (n0 : Nat) (v : Option Value) (h : Heap) (L : List Loc) : Prop := v = some (.int 1) ∧ Fr n0 L
set_option maxRecDepth 65536 in
set_option maxHeartbeats 40000000 in
theorem rm0 (l : Launch) (Z : State) (a0 : Array Value) (hw : ∀ d ∈ tables_1, d.before a0 Z = true) (hEL : EW Z a0 own_EL) (ws : List Jvm.Cond) (p1 p2 p3 p4 : Int32) (cs : Int32) (sf : Value) (h0 : Heap) (n0 : Nat) (Z0 : n0 ≤ h0.size) (sC : OCS Z (.int cs)) (sA : OAD Z (.int (1 : Int32))) (sH : OHI Z (.int (0 : Int32))) (sL : OLO Z (.int (8 : Int32))) (sF : OSF Z sf) (hcs : ¬ (cs = (0 : Int32))) (hsf : sf.isRef = true) (O : Old Z n0 h0) :
  MetW l Z own_EL x code maxLocals ret ws room_1 #[(.int p1), (.int p2), (.int p3), (.int p4)] [] h0 (Q_rm0 Z p1 p2 p3 p4 cs sf h0 n0) := by
 refine metW_of (plainFor_of_name pn_com_example_bnodiff_bnodiff_model_TermIriPinLaw) (own := "com/example/bnodiff/bnodiff/model/TermIriPinLaw") rfl (fun m => ef_rm0 m p1 p2 p3 p4) ?_
 intro p e s m below meth c s₁ hx hby hml hown hnm hZ X0 e0 hret hlk H hSf CR hS
 have hml : c.maxLocals = 14 := hml
 have N0 := Fr.nil n0
 have hk := Nat.le_refl h0.size
 show GoesW p e below s Z own_EL _ _ _ (s₁.setTop (mkF m 0 #[sI p1, sI p2, sI p3, sI p4, .unset, .unset, .unset, .unset, .unset, .unset, .unset, .unset, .unset, .unset] []))
 refine GoesW.pre (U' := s₁.setTop (mkF m 5 #[sI p1, sI p2, sI p3, sI p4, .val (.int (p1 &&& (3 : Int32))), .unset, .unset, .unset, .unset, .unset, .unset, .unset, .unset, .unset] [])) (fun t k => XS.iloadN X0.here hx rfl (hb hby at_0) rfl (XS.iconst X0.here hx rfl (hb hby at_1) (XS.iand X0.here hx rfl (hb hby at_2) rfl (XS.istore X0.here hx rfl (hb hby at_3) rfl (l' := #[sI p1, sI p2, sI p3, sI p4, .val (.int (p1 &&& (3 : Int32))), .unset, .unset, .unset, .unset, .unset, .unset, .unset, .unset, .unset]) rfl k)))) ?_
 obtain ⟨nn, hnn⟩ : ∃ z : Int32, z = (p1 &&& (3 : Int32)) := ⟨_, rfl⟩
 rw [← hnn]
 refine GoesW.pre (U' := s₁.setTop (mkF m 6 #[sI p1, sI p2, sI p3, sI p4, sI nn, .unset, .unset, .unset, .unset, .unset, .unset, .unset, .unset, .unset] [(.int p2)])) (fun t k => XS.iloadN X0.here hx rfl (hb hby at_5) rfl k) ?_
 obtain ⟨_, _, ⟨T1, L1, k1, n1⟩, -, X1, ⟨Lc1, hQ1, l1, y1, z1⟩, st1⟩ := Jvm.LawKit.callS X0 hx (y := M1) hown (mvT hZ (wq hw 0 rfl)) (mvT hZ (wq hw 1 rfl)) (mvT hZ (wq hw 2 rfl)) (mvT hZ (wq hw 3 rfl)) (by decide) (backOf (W := 0) (rm_chf l Z a0 hw [] p2 h0 n0 Z0) hZ (wq hw 3 rfl) (wq hw 2 rfl) (by decide) (by decide)) (g := (mkF m 6 #[sI p1, sI p2, sI p3, sI p4, sI nn, .unset, .unset, .unset, .unset, .unset, .unset, .unset, .unset, .unset] [(.int p2)])) rfl (by rw [hml]; rfl) (argsL := [(.int p2)]) (rest := []) (lenOf pd__28I_29C rfl) rfl (by show 2 * 0 + _ ≤ _; exact Nat.le_of_eq rfl) (hb hby at_6) (fun _ _ => ⟨rfl, e0, (by decide : 0 + 0 ≤ _), (by decide : 0 + 0 ≤ _)⟩)
 dsimp only [Pt.U, Pt.locs, Pt.cells, Pt.slots] at X1 l1 y1 z1 st1 hQ1
 subst l1 y1 z1
 obtain ⟨rfl, N1q, HQ1⟩ := hQ1
 have N1 := Fr.app N0 N1q
 refine GoesW.pre (U' := T1.setTop (mkF m 11 #[sI p1, sI p2, sI p3, sI p4, sI nn, sI (own_chf p2), .unset, .unset, .unset, .unset, .unset, .unset, .unset, .unset] [])) (fun t k => st1 t (XS.istore X1.here hx rfl (hb hby at_9) rfl (l' := #[sI p1, sI p2, sI p3, sI p4, sI nn, sI (own_chf p2), .unset, .unset, .unset, .unset, .unset, .unset, .unset, .unset]) rfl k)) ?_
 obtain ⟨ca, hca⟩ : ∃ z : Int32, z = (own_chf p2) := ⟨_, rfl⟩
 rw [← hca]
 have hch_ca : OwnCh ca := by rw [hca]; exact own_chfc _
 refine GoesW.pre (U' := T1.setTop (mkF m 12 #[sI p1, sI p2, sI p3, sI p4, sI nn, sI ca, .unset, .unset, .unset, .unset, .unset, .unset, .unset, .unset] [(.int p3)])) (fun t k => XS.iloadN X1.here hx rfl (hb hby at_11) rfl k) ?_
 obtain ⟨_, _, ⟨T2, L2, k2, n2⟩, -, X2, ⟨Lc2, hQ2, l2, y2, z2⟩, st2⟩ := Jvm.LawKit.callS X1 hx (y := M1) hown (mvT hZ (wq hw 0 rfl)) (mvT hZ (wq hw 1 rfl)) (mvT hZ (wq hw 2 rfl)) (mvT hZ (wq hw 3 rfl)) (by decide) (backOf (W := 0) (rm_chf l Z a0 hw [] p3 h0 n0 Z0) hZ (wq hw 3 rfl) (wq hw 2 rfl) (by decide) (by decide)) (g := (mkF m 12 #[sI p1, sI p2, sI p3, sI p4, sI nn, sI ca, .unset, .unset, .unset, .unset, .unset, .unset, .unset, .unset] [(.int p3)])) rfl (by rw [hml]; rfl) (argsL := [(.int p3)]) (rest := []) (lenOf pd__28I_29C rfl) rfl (by show 2 * 0 + _ ≤ _; exact Nat.le_of_eq rfl) (hb hby at_12) (fun _ _ => ⟨rfl, HQ1, (by decide : 0 + 0 ≤ _), (by decide : 0 + 0 ≤ _)⟩)
 dsimp only [Pt.U, Pt.locs, Pt.cells, Pt.slots] at X2 l2 y2 z2 st2 hQ2
 subst l2 y2 z2
 obtain ⟨rfl, N2q, HQ2⟩ := hQ2
 have N2 := Fr.app N1 N2q
 refine GoesW.pre (U' := T2.setTop (mkF m 17 #[sI p1, sI p2, sI p3, sI p4, sI nn, sI ca, sI (own_chf p3), .unset, .unset, .unset, .unset, .unset, .unset, .unset] [])) (fun t k => st2 t (XS.istore X2.here hx rfl (hb hby at_15) rfl (l' := #[sI p1, sI p2, sI p3, sI p4, sI nn, sI ca, sI (own_chf p3), .unset, .unset, .unset, .unset, .unset, .unset, .unset]) rfl k)) ?_
 obtain ⟨cb, hcb⟩ : ∃ z : Int32, z = (own_chf p3) := ⟨_, rfl⟩
 rw [← hcb]
 have hch_cb : OwnCh cb := by rw [hcb]; exact own_chfc _
 refine GoesW.pre (U' := T2.setTop (mkF m 18 #[sI p1, sI p2, sI p3, sI p4, sI nn, sI ca, sI cb, .unset, .unset, .unset, .unset, .unset, .unset, .unset] [(.int p4)])) (fun t k => XS.iloadN X2.here hx rfl (hb hby at_17) rfl k) ?_
 obtain ⟨_, _, ⟨T3, L3, k3, n3⟩, -, X3, ⟨Lc3, hQ3, l3, y3, z3⟩, st3⟩ := Jvm.LawKit.callS X2 hx (y := M1) hown (mvT hZ (wq hw 0 rfl)) (mvT hZ (wq hw 1 rfl)) (mvT hZ (wq hw 2 rfl)) (mvT hZ (wq hw 3 rfl)) (by decide) (backOf (W := 0) (rm_chf l Z a0 hw [] p4 h0 n0 Z0) hZ (wq hw 3 rfl) (wq hw 2 rfl) (by decide) (by decide)) (g := (mkF m 18 #[sI p1, sI p2, sI p3, sI p4, sI nn, sI ca, sI cb, .unset, .unset, .unset, .unset, .unset, .unset, .unset] [(.int p4)])) rfl (by rw [hml]; rfl) (argsL := [(.int p4)]) (rest := []) (lenOf pd__28I_29C rfl) rfl (by show 2 * 0 + _ ≤ _; exact Nat.le_of_eq rfl) (hb hby at_18) (fun _ _ => ⟨rfl, HQ2, (by decide : 0 + 0 ≤ _), (by decide : 0 + 0 ≤ _)⟩)
 dsimp only [Pt.U, Pt.locs, Pt.cells, Pt.slots] at X3 l3 y3 z3 st3 hQ3
 subst l3 y3 z3
 obtain ⟨rfl, N3q, HQ3⟩ := hQ3
 have N3 := Fr.app N2 N3q
 refine GoesW.pre (U' := T3.setTop (mkF m 23 #[sI p1, sI p2, sI p3, sI p4, sI nn, sI ca, sI cb, sI (own_chf p4), .unset, .unset, .unset, .unset, .unset, .unset] [])) (fun t k => st3 t (XS.istore X3.here hx rfl (hb hby at_21) rfl (l' := #[sI p1, sI p2, sI p3, sI p4, sI nn, sI ca, sI cb, sI (own_chf p4), .unset, .unset, .unset, .unset, .unset, .unset]) rfl k)) ?_
 obtain ⟨cc, hcc⟩ : ∃ z : Int32, z = (own_chf p4) := ⟨_, rfl⟩
 rw [← hcc]
 have hch_cc : OwnCh cc := by rw [hcc]; exact own_chfc _
 suffices J127_4 : ∀ (T4 : State) (h4 : Heap) (lc4 : List Loc) (vm4 : Vm) (ks4 : Nat), Stand p l e room_1 (s.setVm vm4) m #[(.int p1), (.int p2), (.int p3), (.int p4)] below meth c T4 lc4 4 40 → T4.heap = h4 → Fr n0 lc4 → n0 ≤ h4.size → Old Z n0 h4 → s.Since vm4 ks4 → ks4 ≤ h4.size → Z.Warmed39 (s.setVm vm4).vm → (s.setVm vm4).vm.findClass "com/example/bnodiff/bnodiff/model/TermIriPinLaw" = some m.cls → CHv Z own_EL vm4 h4 → CHr Z own_EL s.vm s.heap vm4 h4 → ∀ (jr jb : Addr) (kj : ClassId) (cl : List Int32) (hcl : OwnMk nn ca cb cc cl), OwnStr Z h4 jr jb kj cl →  GoesW p e below s Z own_EL (Q_rm0 Z p1 p2 p3 p4 cs sf h0 n0) room_1.cells room_1.slots (T4.setTop (mkF m 127 #[sI p1, sI p2, sI p3, sI p4, sI nn, sI ca, sI cb, sI cc, sR jr, .unset, .unset, .unset, .unset, .unset] [])) by
  refine GoesW.pre (U' := T3.setTop (mkF m 25 #[sI p1, sI p2, sI p3, sI p4, sI nn, sI ca, sI cb, sI cc, .unset, .unset, .unset, .unset, .unset, .unset] [(.int nn)])) (fun t k => XS.iload X3.here hx rfl (hb hby at_23) rfl k) ?_
  by_cases hc25 : nn = (0 : Int32)
  ·
   refine GoesW.pre (U' := T3.setTop (mkF m 28 #[sI p1, sI p2, sI p3, sI p4, sI nn, sI ca, sI cb, sI cc, .unset, .unset, .unset, .unset, .unset, .unset] [])) (fun t k => XS.ifNo X3.here hx rfl (hb hby at_25) rfl ((if0 _ _).trans (teq hc25).2) k) ?_
   obtain ⟨T5, h5, X5, e5, E5, A5, D5, -, st5⟩ := newO X3 hx hZ hown (wq hw 6 rfl) (wq hw 7 rfl) (wq hw 8 rfl) HQ3 (g := (mkF m 28 #[sI p1, sI p2, sI p3, sI p4, sI nn, sI ca, sI cb, sI cc, .unset, .unset, .unset, .unset, .unset, .unset] [])) rfl (hb hby at_28) (by decide) (by decide)
   obtain ⟨sr, g5⟩ : ∃ z, z = h0.size := ⟨_, rfl⟩
   rw [← g5] at A5 D5 st5
   have g_sr : n0 ≤ sr := Nat.le_trans Z0 (Nat.le_of_eq g5.symm)
   have O := O.ext E5
   have SF_sr := Safe.ext E5 H (Safe.new (x := sr) (Nat.le_of_eq g5.symm))
   have CR := CR.trans (CHr.ext E5 H)
   have H := H.ext E5
   have hk := Nat.le_trans hk E5.1
   have Z5 : n0 ≤ h5.size := Nat.le_trans Z0 E5.1
   have E_sr := A5
   have Fv_sr : Fld Z h5 sr "java/lang/String" "value" "[B" .null := D5 (Or.inr (wq hw 22 rfl)) (ty := (.array .byte)) (by decide)
   have Fc_sr : Fld Z h5 sr "java/lang/String" "coder" "B" (.int (0 : Int32)) := D5 (Or.inr (wq hw 23 rfl)) (ty := .byte) (by decide)
   refine GoesW.pre (U' := T5.setTop (mkF m 33 #[sI p1, sI p2, sI p3, sI p4, sI nn, sI ca, sI cb, sI cc, .unset, .unset, .unset, .unset, .unset, .unset] [(.int (0 : Int32)), (.ref sr), (.ref sr)])) (fun t k => st5 t (XS.dup X5.here hx rfl (hb hby at_31) rfl rfl (XS.iconst X5.here hx rfl (hb hby at_32) k))) ?_
   obtain ⟨T6, h6, k6, X6, e6, E6, A6, B6, st6⟩ := newPE X5 hx hZ (wq hw 9 rfl) e5 (g := (mkF m 33 #[sI p1, sI p2, sI p3, sI p4, sI nn, sI ca, sI cb, sI cc, .unset, .unset, .unset, .unset, .unset, .unset] [(.int (0 : Int32)), (.ref sr), (.ref sr)])) rfl (hb hby at_33) rfl (by decide) (cap := 0) (by decide) (by decide) (by decide) (by decide) (ad := "[C") (by decide)
   obtain ⟨sd, g6⟩ : ∃ z, z = h5.size := ⟨_, rfl⟩
   rw [← g6] at A6 B6 st6
   have ne_sr_sd : sr ≠ sd := Nat.ne_of_lt (Nat.lt_of_lt_of_le E_sr.lt (Nat.le_of_eq g6.symm))
   have ne_sd_sr := ne_sr_sd.symm
   have g_sd : n0 ≤ sd := Nat.le_trans Z5 (Nat.le_of_eq g6.symm)
   have E_sr := E_sr.ext E6
   have Fv_sr := Fv_sr.ext E6
   have Fc_sr := Fc_sr.ext E6
   have O := O.ext E6
   have SF_sr := Safe.ext E6 H SF_sr
   have SF_sd := Safe.ext E6 H (Safe.new (x := sd) (Nat.le_of_eq g6.symm))
   have CR := CR.trans (CHr.ext E6 H)
   have H := H.ext E6
   have hk := Nat.le_trans hk E6.1
   have Z6 : n0 ≤ h6.size := Nat.le_trans Z5 E6.1
   have E_sd := B6
   have V_sd : Arv Z h6 sd k6 .char (0 : Int32) [] (.int (0 : Int32)) := (Arv.new A6 (by decide)).pad (pad_rep [] (.int (0 : Int32)) 0)
   refine GoesW.pre (U' := T6.setTop (mkF m 35 #[sI p1, sI p2, sI p3, sI p4, sI nn, sI ca, sI cb, sI cc, .unset, .unset, .unset, .unset, .unset, .unset] [(.ref sd), (.ref sr), (.ref sr)])) (fun t k => st6 t k) ?_
   obtain ⟨_, _, ⟨T7, L7, k7, n7⟩, -, X7, hS7, hge7, ⟨Lc7, hQ7, l7, y7, z7, CQ7⟩, st7⟩ := X6.specialBackS hx (y := M2) rfl hown (mvT hZ (wq hw 10 rfl)) (mvT hZ (wq hw 11 rfl)) (mvT hZ (wq hw 12 rfl)) (by decide) (own_backSH (s := s) (W := 1) (rm_init1_0 l Z a0 hw hEL [] sr sd k6 h6 n0 Z6 E_sr Fv_sr Fc_sr V_sd ne_sd_sr g_sr) hZ (wq hw 12 rfl) (wq hw 8 rfl) (by decide) (by decide) hEL H (allS (P := fun x => Safe Z own_EL s.vm h6 x ∧ x < h6.size) ⟨SF_sr, E_sr.lt⟩ all0)) (g := (mkF m 35 #[sI p1, sI p2, sI p3, sI p4, sI nn, sI ca, sI cb, sI cc, .unset, .unset, .unset, .unset, .unset, .unset] [(.ref sd), (.ref sr), (.ref sr)])) rfl (by rw [hml]; rfl) (Steps.refl _) (a := sr) (argsL := [(.ref sd)]) (rest := [(.ref sr)]) (lenOf pd__28_5bC_29V rfl) rfl (by show 2 * 0 + _ ≤ _; exact Nat.le_of_eq rfl) (hb hby at_35) (fun _ _ => ⟨rfl, e6, (by decide : 2 + 2 ≤ _), (by decide : 4 + 4 ≤ _)⟩)
   dsimp only [Pt.U, Pt.locs, Pt.cells, Pt.slots] at X7 l7 y7 z7 st7 hQ7 hS7 hge7 CQ7
   subst l7 y7 z7
   obtain ⟨b7, kb7, rfl, N7q, KQ7, fo0_7⟩ := hQ7
   have N7 := Fr.app N3 N7q
   have SF_sr := CQ7.safe E_sr.lt SF_sr
   have SF_sd := CQ7.safe E_sd.lt SF_sd
   have hS := foldS (T := T6) hS (by rw [e6]; exact hk) hS7 hge7
   have hZ : Z.Warmed39 (s.setVm T7.vm).vm := State.Warmed39.trans (t := s.setVm s.vm) hZ hS7.1
   have hown := own_found hS7 hown
   have H := CQ7.1
   have CR := CR.trans CQ7
   have hk := Nat.le_refl T7.heap.size
   have E_sr := E_sr.keep KQ7
   have E_sd := E_sd.keep KQ7
   have V_sd := V_sd.keep KQ7 (ninS ne_sd_sr nin0)
   have Z8 : n0 ≤ T7.heap.size := Nat.le_trans Z6 KQ7.1
   have O := O.keep KQ7 (allS (P := fun x => n0 ≤ x) g_sr all0)
   have S_sr := fo0_7
   refine GoesW.pre (U' := T7.setTop (mkF m 127 #[sI p1, sI p2, sI p3, sI p4, sI nn, sI ca, sI cb, sI cc, sR sr, .unset, .unset, .unset, .unset, .unset] [])) (fun t k => st7.trans (XS.astore X7.here hx rfl (hb hby at_38) rfl rfl (l' := #[sI p1, sI p2, sI p3, sI p4, sI nn, sI ca, sI cb, sI cc, sR sr, .unset, .unset, .unset, .unset, .unset]) rfl (XS.goto X7.here hx rfl (pc0 := 40) (pc' := 127) rfl (hb hby at_40) (by decide) (by decide) k))) ?_
   exact J127_4 _ _ _ _ _ (X7.more (by decide) (by decide)) rfl N7 Z8  O hS hk hZ hown H CR sr b7 kb7 _ (Or.inl ⟨hc25, rfl⟩) S_sr
  ·
   refine GoesW.pre (U' := T3.setTop (mkF m 46 #[sI p1, sI p2, sI p3, sI p4, sI nn, sI ca, sI cb, sI cc, .unset, .unset, .unset, .unset, .unset, .unset] [(.int (1 : Int32)), (.int nn)])) (fun t k => XS.ifYes X3.here hx rfl (pc0 := 25) (pc' := 43) rfl (hb hby at_25) rfl ((if0 _ _).trans (feq hc25).2) (by decide) (by decide) (XS.iload X3.here hx rfl (hb hby at_43) rfl (XS.iconst X3.here hx rfl (hb hby at_45) k))) ?_
   by_cases hc46 : nn = (1 : Int32)
   ·
    refine GoesW.pre (U' := T3.setTop (mkF m 49 #[sI p1, sI p2, sI p3, sI p4, sI nn, sI ca, sI cb, sI cc, .unset, .unset, .unset, .unset, .unset, .unset] [])) (fun t k => XS.icmpNo X3.here hx rfl (hb hby at_46) rfl (teq hc46).2 k) ?_
    obtain ⟨T9, h9, X9, e9, E9, A9, D9, -, st9⟩ := newO X3 hx hZ hown (wq hw 6 rfl) (wq hw 7 rfl) (wq hw 8 rfl) HQ3 (g := (mkF m 49 #[sI p1, sI p2, sI p3, sI p4, sI nn, sI ca, sI cb, sI cc, .unset, .unset, .unset, .unset, .unset, .unset] [])) rfl (hb hby at_49) (by decide) (by decide)
    obtain ⟨sr, g9⟩ : ∃ z, z = h0.size := ⟨_, rfl⟩
    rw [← g9] at A9 D9 st9
    have g_sr : n0 ≤ sr := Nat.le_trans Z0 (Nat.le_of_eq g9.symm)
    have O := O.ext E9
    have SF_sr := Safe.ext E9 H (Safe.new (x := sr) (Nat.le_of_eq g9.symm))
    have CR := CR.trans (CHr.ext E9 H)
    have H := H.ext E9
    have hk := Nat.le_trans hk E9.1
    have Z9 : n0 ≤ h9.size := Nat.le_trans Z0 E9.1
    have E_sr := A9
    have Fv_sr : Fld Z h9 sr "java/lang/String" "value" "[B" .null := D9 (Or.inr (wq hw 22 rfl)) (ty := (.array .byte)) (by decide)
    have Fc_sr : Fld Z h9 sr "java/lang/String" "coder" "B" (.int (0 : Int32)) := D9 (Or.inr (wq hw 23 rfl)) (ty := .byte) (by decide)
    refine GoesW.pre (U' := T9.setTop (mkF m 54 #[sI p1, sI p2, sI p3, sI p4, sI nn, sI ca, sI cb, sI cc, .unset, .unset, .unset, .unset, .unset, .unset] [(.int (1 : Int32)), (.ref sr), (.ref sr)])) (fun t k => st9 t (XS.dup X9.here hx rfl (hb hby at_52) rfl rfl (XS.iconst X9.here hx rfl (hb hby at_53) k))) ?_
    obtain ⟨T10, h10, k10, X10, e10, E10, A10, B10, st10⟩ := newPE X9 hx hZ (wq hw 9 rfl) e9 (g := (mkF m 54 #[sI p1, sI p2, sI p3, sI p4, sI nn, sI ca, sI cb, sI cc, .unset, .unset, .unset, .unset, .unset, .unset] [(.int (1 : Int32)), (.ref sr), (.ref sr)])) rfl (hb hby at_54) rfl (by decide) (cap := 1) (by decide) (by decide) (by decide) (by decide) (ad := "[C") (by decide)
    obtain ⟨sd, g10⟩ : ∃ z, z = h9.size := ⟨_, rfl⟩
    rw [← g10] at A10 B10 st10
    have ne_sr_sd : sr ≠ sd := Nat.ne_of_lt (Nat.lt_of_lt_of_le E_sr.lt (Nat.le_of_eq g10.symm))
    have ne_sd_sr := ne_sr_sd.symm
    have g_sd : n0 ≤ sd := Nat.le_trans Z9 (Nat.le_of_eq g10.symm)
    have E_sr := E_sr.ext E10
    have Fv_sr := Fv_sr.ext E10
    have Fc_sr := Fc_sr.ext E10
    have O := O.ext E10
    have SF_sr := Safe.ext E10 H SF_sr
    have SF_sd := Safe.ext E10 H (Safe.new (x := sd) (Nat.le_of_eq g10.symm))
    have CR := CR.trans (CHr.ext E10 H)
    have H := H.ext E10
    have hk := Nat.le_trans hk E10.1
    have Z10 : n0 ≤ h10.size := Nat.le_trans Z9 E10.1
    have E_sd := B10
    have V_sd : Arv Z h10 sd k10 .char (1 : Int32) [(.int (0 : Int32))] (.int (0 : Int32)) := (Arv.new A10 (by decide)).pad (pad_rep [] (.int (0 : Int32)) 1)
    refine GoesW.pre (U' := T10.setTop (mkF m 60 #[sI p1, sI p2, sI p3, sI p4, sI nn, sI ca, sI cb, sI cc, .unset, .unset, .unset, .unset, .unset, .unset] [(.int ca), (.int (0 : Int32)), (.ref sd), (.ref sd), (.ref sr), (.ref sr)])) (fun t k => st10 t (XS.dup X10.here hx rfl (hb hby at_56) rfl rfl (XS.iconst X10.here hx rfl (hb hby at_57) (XS.iload X10.here hx rfl (hb hby at_58) rfl k)))) ?_
    obtain ⟨cl11, Ar11, q11, Sz11, Ng11, Hs11, Ft11⟩ := id V_sd
    obtain ⟨T11, h11, X11, e11, W11, st11⟩ := stC X10 hx hZ e10 Ar11 (j := (0 : Int32)) (inb_of Sz11 ⟨by decide, by decide⟩) (g := (mkF m 60 #[sI p1, sI p2, sI p3, sI p4, sI nn, sI ca, sI cb, sI cc, .unset, .unset, .unset, .unset, .unset, .unset] [(.int ca), (.int (0 : Int32)), (.ref sd), (.ref sd), (.ref sr), (.ref sr)])) rfl rfl (hb hby at_60)
    have nr11 : nar .char ca = ca := own_nch _ (hch_ca)
    have ft11 : fits .char (.int ca) = true := nr11 ▸ (fits_nar_char ca : fits .char (.int (nar .char ca)) = true)
    rw [nr11] at W11
    have E_sr := E_sr.wr W11
    have Fv_sr := Fv_sr.other W11 (Or.inl ne_sr_sd)
    have Fc_sr := Fc_sr.other W11 (Or.inl ne_sr_sd)
    have E_sd := E_sd.wr W11
    have Z11 : n0 ≤ h11.size := Nat.le_trans Z10 (Keep.of_wr W11).1
    have O := O.wr W11 g_sd
    have SFo := SF_sd
    have SF_sr := Safe.wr W11 SFo H SF_sr
    have SF_sd := Safe.wr W11 SFo H SF_sd
    have CR := CR.trans (CHr.wr W11 SFo H)
    have H := H.wr W11 SFo
    have hk := Nat.le_trans hk (Keep.of_wr W11).1
    have V_sd : Arv Z h11 sd k10 .char (1 : Int32) [(.int ca)] (.int (0 : Int32)) := Arv.set Ar11 q11 Sz11 Ng11 Hs11 Ft11 ft11 W11 0 rfl (Nat.le_of_ble_eq_true rfl)
    have N11 := Fr.snoc X11 N3 g_sd
    refine GoesW.pre (U' := T11.setTop (mkF m 61 #[sI p1, sI p2, sI p3, sI p4, sI nn, sI ca, sI cb, sI cc, .unset, .unset, .unset, .unset, .unset, .unset] [(.ref sd), (.ref sr), (.ref sr)])) (fun t k => st11 t k) ?_
    have lt_sd := E_sd.lt
    have lt_sr := E_sr.lt
    obtain ⟨_, _, ⟨T12, L12, k12, n12⟩, -, X12, ⟨Lc12, hQ12, l12, y12, z12⟩, st12⟩ := X11.specialBack hx (y := M2) rfl hown (mvT hZ (wq hw 10 rfl)) (mvT hZ (wq hw 11 rfl)) (mvT hZ (wq hw 12 rfl)) (by decide) (backOf (W := 1) (rm_init1G l Z a0 hw [] sr sd k10 [ca] cs h11 n0 Z11 E_sr Fv_sr Fc_sr V_sd sC sA sH sL (Nat.le_of_ble_eq_true rfl) (own_cA (hch_ca) own_cN) (by simp) hcs ne_sd_sr g_sr O) hZ (wq hw 12 rfl) (wq hw 8 rfl) (by decide) (by decide)) (g := (mkF m 61 #[sI p1, sI p2, sI p3, sI p4, sI nn, sI ca, sI cb, sI cc, .unset, .unset, .unset, .unset, .unset, .unset] [(.ref sd), (.ref sr), (.ref sr)])) rfl (by rw [hml]; rfl) (Steps.refl _) (a := sr) (argsL := [(.ref sd)]) (rest := [(.ref sr)]) (lenOf pd__28_5bC_29V rfl) rfl (by show 2 * 0 + _ ≤ _; exact Nat.le_of_eq rfl) (hb hby at_61) (fun _ _ => ⟨rfl, e11, (by decide : 2 + 2 ≤ _), (by decide : 5 + 9 ≤ _)⟩)
    dsimp only [Pt.U, Pt.locs, Pt.cells, Pt.slots] at X12 l12 y12 z12 st12 hQ12
    subst l12 y12 z12
    obtain ⟨b12, kb12, rfl, N12q, KQ12, fo0_12, g_b12, sl_b12⟩ := hQ12
    have N12 := Fr.app N11 N12q
    have SF_b12 : Safe Z own_EL s.vm h11 b12 := Safe.new sl_b12
    have E_sr := E_sr.keep KQ12
    have E_sd := E_sd.keep KQ12
    have V_sd := V_sd.keep KQ12 (ninS ne_sd_sr nin0)
    have Z13 : n0 ≤ T12.heap.size := Nat.le_trans Z11 KQ12.1
    have O := O.keep KQ12 (allS (P := fun x => n0 ≤ x) g_sr all0)
    have hsafe := (allS (P := fun x => Safe Z own_EL s.vm _ x) SF_sr all0)
    have SF_sr := Safe.keep KQ12 hsafe H SF_sr
    have SF_sd := Safe.keep KQ12 hsafe H SF_sd
    have SF_b12 := Safe.keep KQ12 hsafe H SF_b12
    have CR := CR.trans (CHr.keep KQ12 hsafe H)
    have H := H.keep KQ12 hsafe
    have hk := Nat.le_trans hk KQ12.1
    have ne_sd_b12 : sd ≠ b12 := Nat.ne_of_lt (Nat.lt_of_lt_of_le lt_sd sl_b12)
    have ne_b12_sd := ne_sd_b12.symm
    have ne_sr_b12 : sr ≠ b12 := Nat.ne_of_lt (Nat.lt_of_lt_of_le lt_sr sl_b12)
    have ne_b12_sr := ne_sr_b12.symm
    have S_sr := fo0_12
    refine GoesW.pre (U' := T12.setTop (mkF m 127 #[sI p1, sI p2, sI p3, sI p4, sI nn, sI ca, sI cb, sI cc, sR sr, .unset, .unset, .unset, .unset, .unset] [])) (fun t k => st12.trans (XS.astore X12.here hx rfl (hb hby at_64) rfl rfl (l' := #[sI p1, sI p2, sI p3, sI p4, sI nn, sI ca, sI cb, sI cc, sR sr, .unset, .unset, .unset, .unset, .unset]) rfl (XS.goto X12.here hx rfl (pc0 := 66) (pc' := 127) rfl (hb hby at_66) (by decide) (by decide) k))) ?_
    exact J127_4 _ _ _ _ _ (X12.more (by decide) (by decide)) rfl N12 Z13  O hS hk hZ hown H CR sr b12 kb12 _ (Or.inr (Or.inl ⟨hc46, rfl⟩)) S_sr
   ·
    refine GoesW.pre (U' := T3.setTop (mkF m 72 #[sI p1, sI p2, sI p3, sI p4, sI nn, sI ca, sI cb, sI cc, .unset, .unset, .unset, .unset, .unset, .unset] [(.int (2 : Int32)), (.int nn)])) (fun t k => XS.icmpYes X3.here hx rfl (pc0 := 46) (pc' := 69) rfl (hb hby at_46) rfl (feq hc46).2 (by decide) (by decide) (XS.iload X3.here hx rfl (hb hby at_69) rfl (XS.iconst X3.here hx rfl (hb hby at_71) k))) ?_
    by_cases hc72 : nn = (2 : Int32)
    ·
     refine GoesW.pre (U' := T3.setTop (mkF m 75 #[sI p1, sI p2, sI p3, sI p4, sI nn, sI ca, sI cb, sI cc, .unset, .unset, .unset, .unset, .unset, .unset] [])) (fun t k => XS.icmpNo X3.here hx rfl (hb hby at_72) rfl (teq hc72).2 k) ?_
     obtain ⟨T14, h14, X14, e14, E14, A14, D14, -, st14⟩ := newO X3 hx hZ hown (wq hw 6 rfl) (wq hw 7 rfl) (wq hw 8 rfl) HQ3 (g := (mkF m 75 #[sI p1, sI p2, sI p3, sI p4, sI nn, sI ca, sI cb, sI cc, .unset, .unset, .unset, .unset, .unset, .unset] [])) rfl (hb hby at_75) (by decide) (by decide)
     obtain ⟨sr, g14⟩ : ∃ z, z = h0.size := ⟨_, rfl⟩
     rw [← g14] at A14 D14 st14
     have g_sr : n0 ≤ sr := Nat.le_trans Z0 (Nat.le_of_eq g14.symm)
     have O := O.ext E14
     have SF_sr := Safe.ext E14 H (Safe.new (x := sr) (Nat.le_of_eq g14.symm))
     have CR := CR.trans (CHr.ext E14 H)
     have H := H.ext E14
     have hk := Nat.le_trans hk E14.1
     have Z14 : n0 ≤ h14.size := Nat.le_trans Z0 E14.1
     have E_sr := A14
     have Fv_sr : Fld Z h14 sr "java/lang/String" "value" "[B" .null := D14 (Or.inr (wq hw 22 rfl)) (ty := (.array .byte)) (by decide)
     have Fc_sr : Fld Z h14 sr "java/lang/String" "coder" "B" (.int (0 : Int32)) := D14 (Or.inr (wq hw 23 rfl)) (ty := .byte) (by decide)
     refine GoesW.pre (U' := T14.setTop (mkF m 80 #[sI p1, sI p2, sI p3, sI p4, sI nn, sI ca, sI cb, sI cc, .unset, .unset, .unset, .unset, .unset, .unset] [(.int (2 : Int32)), (.ref sr), (.ref sr)])) (fun t k => st14 t (XS.dup X14.here hx rfl (hb hby at_78) rfl rfl (XS.iconst X14.here hx rfl (hb hby at_79) k))) ?_
     obtain ⟨T15, h15, k15, X15, e15, E15, A15, B15, st15⟩ := newPE X14 hx hZ (wq hw 9 rfl) e14 (g := (mkF m 80 #[sI p1, sI p2, sI p3, sI p4, sI nn, sI ca, sI cb, sI cc, .unset, .unset, .unset, .unset, .unset, .unset] [(.int (2 : Int32)), (.ref sr), (.ref sr)])) rfl (hb hby at_80) rfl (by decide) (cap := 2) (by decide) (by decide) (by decide) (by decide) (ad := "[C") (by decide)
     obtain ⟨sd, g15⟩ : ∃ z, z = h14.size := ⟨_, rfl⟩
     rw [← g15] at A15 B15 st15
     have ne_sr_sd : sr ≠ sd := Nat.ne_of_lt (Nat.lt_of_lt_of_le E_sr.lt (Nat.le_of_eq g15.symm))
     have ne_sd_sr := ne_sr_sd.symm
     have g_sd : n0 ≤ sd := Nat.le_trans Z14 (Nat.le_of_eq g15.symm)
     have E_sr := E_sr.ext E15
     have Fv_sr := Fv_sr.ext E15
     have Fc_sr := Fc_sr.ext E15
     have O := O.ext E15
     have SF_sr := Safe.ext E15 H SF_sr
     have SF_sd := Safe.ext E15 H (Safe.new (x := sd) (Nat.le_of_eq g15.symm))
     have CR := CR.trans (CHr.ext E15 H)
     have H := H.ext E15
     have hk := Nat.le_trans hk E15.1
     have Z15 : n0 ≤ h15.size := Nat.le_trans Z14 E15.1
     have E_sd := B15
     have V_sd : Arv Z h15 sd k15 .char (2 : Int32) [(.int (0 : Int32)), (.int (0 : Int32))] (.int (0 : Int32)) := (Arv.new A15 (by decide)).pad (pad_rep [] (.int (0 : Int32)) 2)
     refine GoesW.pre (U' := T15.setTop (mkF m 86 #[sI p1, sI p2, sI p3, sI p4, sI nn, sI ca, sI cb, sI cc, .unset, .unset, .unset, .unset, .unset, .unset] [(.int ca), (.int (0 : Int32)), (.ref sd), (.ref sd), (.ref sr), (.ref sr)])) (fun t k => st15 t (XS.dup X15.here hx rfl (hb hby at_82) rfl rfl (XS.iconst X15.here hx rfl (hb hby at_83) (XS.iload X15.here hx rfl (hb hby at_84) rfl k)))) ?_
     obtain ⟨cl16, Ar16, q16, Sz16, Ng16, Hs16, Ft16⟩ := id V_sd
     obtain ⟨T16, h16, X16, e16, W16, st16⟩ := stC X15 hx hZ e15 Ar16 (j := (0 : Int32)) (inb_of Sz16 ⟨by decide, by decide⟩) (g := (mkF m 86 #[sI p1, sI p2, sI p3, sI p4, sI nn, sI ca, sI cb, sI cc, .unset, .unset, .unset, .unset, .unset, .unset] [(.int ca), (.int (0 : Int32)), (.ref sd), (.ref sd), (.ref sr), (.ref sr)])) rfl rfl (hb hby at_86)
     have nr16 : nar .char ca = ca := own_nch _ (hch_ca)
     have ft16 : fits .char (.int ca) = true := nr16 ▸ (fits_nar_char ca : fits .char (.int (nar .char ca)) = true)
     rw [nr16] at W16
     have E_sr := E_sr.wr W16
     have Fv_sr := Fv_sr.other W16 (Or.inl ne_sr_sd)
     have Fc_sr := Fc_sr.other W16 (Or.inl ne_sr_sd)
     have E_sd := E_sd.wr W16
     have Z16 : n0 ≤ h16.size := Nat.le_trans Z15 (Keep.of_wr W16).1
     have O := O.wr W16 g_sd
     have SFo := SF_sd
     have SF_sr := Safe.wr W16 SFo H SF_sr
     have SF_sd := Safe.wr W16 SFo H SF_sd
     have CR := CR.trans (CHr.wr W16 SFo H)
     have H := H.wr W16 SFo
     have hk := Nat.le_trans hk (Keep.of_wr W16).1
     have V_sd : Arv Z h16 sd k15 .char (2 : Int32) [(.int ca), (.int (0 : Int32))] (.int (0 : Int32)) := Arv.set Ar16 q16 Sz16 Ng16 Hs16 Ft16 ft16 W16 0 rfl (Nat.le_of_ble_eq_true rfl)
     have N16 := Fr.snoc X16 N3 g_sd
     refine GoesW.pre (U' := T16.setTop (mkF m 91 #[sI p1, sI p2, sI p3, sI p4, sI nn, sI ca, sI cb, sI cc, .unset, .unset, .unset, .unset, .unset, .unset] [(.int cb), (.int (1 : Int32)), (.ref sd), (.ref sd), (.ref sr), (.ref sr)])) (fun t k => st16 t (XS.dup X16.here hx rfl (hb hby at_87) rfl rfl (XS.iconst X16.here hx rfl (hb hby at_88) (XS.iload X16.here hx rfl (hb hby at_89) rfl k)))) ?_
     obtain ⟨cl17, Ar17, q17, Sz17, Ng17, Hs17, Ft17⟩ := id V_sd
     obtain ⟨T17, h17, X17, e17, W17, st17⟩ := stC X16 hx hZ e16 Ar17 (j := (1 : Int32)) (inb_of Sz17 ⟨by decide, by decide⟩) (g := (mkF m 91 #[sI p1, sI p2, sI p3, sI p4, sI nn, sI ca, sI cb, sI cc, .unset, .unset, .unset, .unset, .unset, .unset] [(.int cb), (.int (1 : Int32)), (.ref sd), (.ref sd), (.ref sr), (.ref sr)])) rfl rfl (hb hby at_91)
     have nr17 : nar .char cb = cb := own_nch _ (hch_cb)
     have ft17 : fits .char (.int cb) = true := nr17 ▸ (fits_nar_char cb : fits .char (.int (nar .char cb)) = true)
     rw [nr17] at W17
     have E_sr := E_sr.wr W17
     have Fv_sr := Fv_sr.other W17 (Or.inl ne_sr_sd)
     have Fc_sr := Fc_sr.other W17 (Or.inl ne_sr_sd)
     have E_sd := E_sd.wr W17
     have Z17 : n0 ≤ h17.size := Nat.le_trans Z16 (Keep.of_wr W17).1
     have O := O.wr W17 g_sd
     have SFo := SF_sd
     have SF_sr := Safe.wr W17 SFo H SF_sr
     have SF_sd := Safe.wr W17 SFo H SF_sd
     have CR := CR.trans (CHr.wr W17 SFo H)
     have H := H.wr W17 SFo
     have hk := Nat.le_trans hk (Keep.of_wr W17).1
     have V_sd : Arv Z h17 sd k15 .char (2 : Int32) [(.int ca), (.int cb)] (.int (0 : Int32)) := Arv.set Ar17 q17 Sz17 Ng17 Hs17 Ft17 ft17 W17 1 rfl (Nat.le_of_ble_eq_true rfl)
     have N17 := Fr.snoc X17 N16 g_sd
     refine GoesW.pre (U' := T17.setTop (mkF m 92 #[sI p1, sI p2, sI p3, sI p4, sI nn, sI ca, sI cb, sI cc, .unset, .unset, .unset, .unset, .unset, .unset] [(.ref sd), (.ref sr), (.ref sr)])) (fun t k => st17 t k) ?_
     have lt_sd := E_sd.lt
     have lt_sr := E_sr.lt
     obtain ⟨_, _, ⟨T18, L18, k18, n18⟩, -, X18, ⟨Lc18, hQ18, l18, y18, z18⟩, st18⟩ := X17.specialBack hx (y := M2) rfl hown (mvT hZ (wq hw 10 rfl)) (mvT hZ (wq hw 11 rfl)) (mvT hZ (wq hw 12 rfl)) (by decide) (backOf (W := 1) (rm_init1G l Z a0 hw [] sr sd k15 ([ca, cb]) cs h17 n0 Z17 E_sr Fv_sr Fc_sr V_sd sC sA sH sL (Nat.le_of_ble_eq_true rfl) (own_cA (hch_ca) (own_cA (hch_cb) own_cN)) (by simp) hcs ne_sd_sr g_sr O) hZ (wq hw 12 rfl) (wq hw 8 rfl) (by decide) (by decide)) (g := (mkF m 92 #[sI p1, sI p2, sI p3, sI p4, sI nn, sI ca, sI cb, sI cc, .unset, .unset, .unset, .unset, .unset, .unset] [(.ref sd), (.ref sr), (.ref sr)])) rfl (by rw [hml]; rfl) (Steps.refl _) (a := sr) (argsL := [(.ref sd)]) (rest := [(.ref sr)]) (lenOf pd__28_5bC_29V rfl) rfl (by show 2 * 0 + _ ≤ _; exact Nat.le_of_eq rfl) (hb hby at_92) (fun _ _ => ⟨rfl, e17, (by decide : 2 + 2 ≤ _), (by decide : 6 + 9 ≤ _)⟩)
     dsimp only [Pt.U, Pt.locs, Pt.cells, Pt.slots] at X18 l18 y18 z18 st18 hQ18
     subst l18 y18 z18
     obtain ⟨b18, kb18, rfl, N18q, KQ18, fo0_18, g_b18, sl_b18⟩ := hQ18
     have N18 := Fr.app N17 N18q
     have SF_b18 : Safe Z own_EL s.vm h17 b18 := Safe.new sl_b18
     have E_sr := E_sr.keep KQ18
     have E_sd := E_sd.keep KQ18
     have V_sd := V_sd.keep KQ18 (ninS ne_sd_sr nin0)
     have Z19 : n0 ≤ T18.heap.size := Nat.le_trans Z17 KQ18.1
     have O := O.keep KQ18 (allS (P := fun x => n0 ≤ x) g_sr all0)
     have hsafe := (allS (P := fun x => Safe Z own_EL s.vm _ x) SF_sr all0)
     have SF_sr := Safe.keep KQ18 hsafe H SF_sr
     have SF_sd := Safe.keep KQ18 hsafe H SF_sd
     have SF_b18 := Safe.keep KQ18 hsafe H SF_b18
     have CR := CR.trans (CHr.keep KQ18 hsafe H)
     have H := H.keep KQ18 hsafe
     have hk := Nat.le_trans hk KQ18.1
     have ne_sd_b18 : sd ≠ b18 := Nat.ne_of_lt (Nat.lt_of_lt_of_le lt_sd sl_b18)
     have ne_b18_sd := ne_sd_b18.symm
     have ne_sr_b18 : sr ≠ b18 := Nat.ne_of_lt (Nat.lt_of_lt_of_le lt_sr sl_b18)
     have ne_b18_sr := ne_sr_b18.symm
     have S_sr := fo0_18
     refine GoesW.pre (U' := T18.setTop (mkF m 127 #[sI p1, sI p2, sI p3, sI p4, sI nn, sI ca, sI cb, sI cc, sR sr, .unset, .unset, .unset, .unset, .unset] [])) (fun t k => st18.trans (XS.astore X18.here hx rfl (hb hby at_95) rfl rfl (l' := #[sI p1, sI p2, sI p3, sI p4, sI nn, sI ca, sI cb, sI cc, sR sr, .unset, .unset, .unset, .unset, .unset]) rfl (XS.goto X18.here hx rfl (pc0 := 97) (pc' := 127) rfl (hb hby at_97) (by decide) (by decide) k))) ?_
     exact J127_4 _ _ _ _ _ (X18.more (by decide) (by decide)) rfl N18 Z19  O hS hk hZ hown H CR sr b18 kb18 _ (Or.inr (Or.inr (Or.inl ⟨hc72, rfl⟩))) S_sr
    ·
     refine GoesW.pre (U' := T3.setTop (mkF m 100 #[sI p1, sI p2, sI p3, sI p4, sI nn, sI ca, sI cb, sI cc, .unset, .unset, .unset, .unset, .unset, .unset] [])) (fun t k => XS.icmpYes X3.here hx rfl (pc0 := 72) (pc' := 100) rfl (hb hby at_72) rfl (feq hc72).2 (by decide) (by decide) k) ?_
     have hn3 := own_nn3 hnn hc25 hc46 hc72
     obtain ⟨T20, h20, X20, e20, E20, A20, D20, -, st20⟩ := newO X3 hx hZ hown (wq hw 6 rfl) (wq hw 7 rfl) (wq hw 8 rfl) HQ3 (g := (mkF m 100 #[sI p1, sI p2, sI p3, sI p4, sI nn, sI ca, sI cb, sI cc, .unset, .unset, .unset, .unset, .unset, .unset] [])) rfl (hb hby at_100) (by decide) (by decide)
     obtain ⟨sr, g20⟩ : ∃ z, z = h0.size := ⟨_, rfl⟩
     rw [← g20] at A20 D20 st20
     have g_sr : n0 ≤ sr := Nat.le_trans Z0 (Nat.le_of_eq g20.symm)
     have O := O.ext E20
     have SF_sr := Safe.ext E20 H (Safe.new (x := sr) (Nat.le_of_eq g20.symm))
     have CR := CR.trans (CHr.ext E20 H)
     have H := H.ext E20
     have hk := Nat.le_trans hk E20.1
     have Z20 : n0 ≤ h20.size := Nat.le_trans Z0 E20.1
     have E_sr := A20
     have Fv_sr : Fld Z h20 sr "java/lang/String" "value" "[B" .null := D20 (Or.inr (wq hw 22 rfl)) (ty := (.array .byte)) (by decide)
     have Fc_sr : Fld Z h20 sr "java/lang/String" "coder" "B" (.int (0 : Int32)) := D20 (Or.inr (wq hw 23 rfl)) (ty := .byte) (by decide)
     refine GoesW.pre (U' := T20.setTop (mkF m 105 #[sI p1, sI p2, sI p3, sI p4, sI nn, sI ca, sI cb, sI cc, .unset, .unset, .unset, .unset, .unset, .unset] [(.int (3 : Int32)), (.ref sr), (.ref sr)])) (fun t k => st20 t (XS.dup X20.here hx rfl (hb hby at_103) rfl rfl (XS.iconst X20.here hx rfl (hb hby at_104) k))) ?_
     obtain ⟨T21, h21, k21, X21, e21, E21, A21, B21, st21⟩ := newPE X20 hx hZ (wq hw 9 rfl) e20 (g := (mkF m 105 #[sI p1, sI p2, sI p3, sI p4, sI nn, sI ca, sI cb, sI cc, .unset, .unset, .unset, .unset, .unset, .unset] [(.int (3 : Int32)), (.ref sr), (.ref sr)])) rfl (hb hby at_105) rfl (by decide) (cap := 3) (by decide) (by decide) (by decide) (by decide) (ad := "[C") (by decide)
     obtain ⟨sd, g21⟩ : ∃ z, z = h20.size := ⟨_, rfl⟩
     rw [← g21] at A21 B21 st21
     have ne_sr_sd : sr ≠ sd := Nat.ne_of_lt (Nat.lt_of_lt_of_le E_sr.lt (Nat.le_of_eq g21.symm))
     have ne_sd_sr := ne_sr_sd.symm
     have g_sd : n0 ≤ sd := Nat.le_trans Z20 (Nat.le_of_eq g21.symm)
     have E_sr := E_sr.ext E21
     have Fv_sr := Fv_sr.ext E21
     have Fc_sr := Fc_sr.ext E21
     have O := O.ext E21
     have SF_sr := Safe.ext E21 H SF_sr
     have SF_sd := Safe.ext E21 H (Safe.new (x := sd) (Nat.le_of_eq g21.symm))
     have CR := CR.trans (CHr.ext E21 H)
     have H := H.ext E21
     have hk := Nat.le_trans hk E21.1
     have Z21 : n0 ≤ h21.size := Nat.le_trans Z20 E21.1
     have E_sd := B21
     have V_sd : Arv Z h21 sd k21 .char (3 : Int32) [(.int (0 : Int32)), (.int (0 : Int32)), (.int (0 : Int32))] (.int (0 : Int32)) := (Arv.new A21 (by decide)).pad (pad_rep [] (.int (0 : Int32)) 3)
     refine GoesW.pre (U' := T21.setTop (mkF m 111 #[sI p1, sI p2, sI p3, sI p4, sI nn, sI ca, sI cb, sI cc, .unset, .unset, .unset, .unset, .unset, .unset] [(.int ca), (.int (0 : Int32)), (.ref sd), (.ref sd), (.ref sr), (.ref sr)])) (fun t k => st21 t (XS.dup X21.here hx rfl (hb hby at_107) rfl rfl (XS.iconst X21.here hx rfl (hb hby at_108) (XS.iload X21.here hx rfl (hb hby at_109) rfl k)))) ?_
     obtain ⟨cl22, Ar22, q22, Sz22, Ng22, Hs22, Ft22⟩ := id V_sd
     obtain ⟨T22, h22, X22, e22, W22, st22⟩ := stC X21 hx hZ e21 Ar22 (j := (0 : Int32)) (inb_of Sz22 ⟨by decide, by decide⟩) (g := (mkF m 111 #[sI p1, sI p2, sI p3, sI p4, sI nn, sI ca, sI cb, sI cc, .unset, .unset, .unset, .unset, .unset, .unset] [(.int ca), (.int (0 : Int32)), (.ref sd), (.ref sd), (.ref sr), (.ref sr)])) rfl rfl (hb hby at_111)
     have nr22 : nar .char ca = ca := own_nch _ (hch_ca)
     have ft22 : fits .char (.int ca) = true := nr22 ▸ (fits_nar_char ca : fits .char (.int (nar .char ca)) = true)
     rw [nr22] at W22
     have E_sr := E_sr.wr W22
     have Fv_sr := Fv_sr.other W22 (Or.inl ne_sr_sd)
     have Fc_sr := Fc_sr.other W22 (Or.inl ne_sr_sd)
     have E_sd := E_sd.wr W22
     have Z22 : n0 ≤ h22.size := Nat.le_trans Z21 (Keep.of_wr W22).1
     have O := O.wr W22 g_sd
     have SFo := SF_sd
     have SF_sr := Safe.wr W22 SFo H SF_sr
     have SF_sd := Safe.wr W22 SFo H SF_sd
     have CR := CR.trans (CHr.wr W22 SFo H)
     have H := H.wr W22 SFo
     have hk := Nat.le_trans hk (Keep.of_wr W22).1
     have V_sd : Arv Z h22 sd k21 .char (3 : Int32) [(.int ca), (.int (0 : Int32)), (.int (0 : Int32))] (.int (0 : Int32)) := Arv.set Ar22 q22 Sz22 Ng22 Hs22 Ft22 ft22 W22 0 rfl (Nat.le_of_ble_eq_true rfl)
     have N22 := Fr.snoc X22 N3 g_sd
     refine GoesW.pre (U' := T22.setTop (mkF m 116 #[sI p1, sI p2, sI p3, sI p4, sI nn, sI ca, sI cb, sI cc, .unset, .unset, .unset, .unset, .unset, .unset] [(.int cb), (.int (1 : Int32)), (.ref sd), (.ref sd), (.ref sr), (.ref sr)])) (fun t k => st22 t (XS.dup X22.here hx rfl (hb hby at_112) rfl rfl (XS.iconst X22.here hx rfl (hb hby at_113) (XS.iload X22.here hx rfl (hb hby at_114) rfl k)))) ?_
     obtain ⟨cl23, Ar23, q23, Sz23, Ng23, Hs23, Ft23⟩ := id V_sd
     obtain ⟨T23, h23, X23, e23, W23, st23⟩ := stC X22 hx hZ e22 Ar23 (j := (1 : Int32)) (inb_of Sz23 ⟨by decide, by decide⟩) (g := (mkF m 116 #[sI p1, sI p2, sI p3, sI p4, sI nn, sI ca, sI cb, sI cc, .unset, .unset, .unset, .unset, .unset, .unset] [(.int cb), (.int (1 : Int32)), (.ref sd), (.ref sd), (.ref sr), (.ref sr)])) rfl rfl (hb hby at_116)
     have nr23 : nar .char cb = cb := own_nch _ (hch_cb)
     have ft23 : fits .char (.int cb) = true := nr23 ▸ (fits_nar_char cb : fits .char (.int (nar .char cb)) = true)
     rw [nr23] at W23
     have E_sr := E_sr.wr W23
     have Fv_sr := Fv_sr.other W23 (Or.inl ne_sr_sd)
     have Fc_sr := Fc_sr.other W23 (Or.inl ne_sr_sd)
     have E_sd := E_sd.wr W23
     have Z23 : n0 ≤ h23.size := Nat.le_trans Z22 (Keep.of_wr W23).1
     have O := O.wr W23 g_sd
     have SFo := SF_sd
     have SF_sr := Safe.wr W23 SFo H SF_sr
     have SF_sd := Safe.wr W23 SFo H SF_sd
     have CR := CR.trans (CHr.wr W23 SFo H)
     have H := H.wr W23 SFo
     have hk := Nat.le_trans hk (Keep.of_wr W23).1
     have V_sd : Arv Z h23 sd k21 .char (3 : Int32) [(.int ca), (.int cb), (.int (0 : Int32))] (.int (0 : Int32)) := Arv.set Ar23 q23 Sz23 Ng23 Hs23 Ft23 ft23 W23 1 rfl (Nat.le_of_ble_eq_true rfl)
     have N23 := Fr.snoc X23 N22 g_sd
     refine GoesW.pre (U' := T23.setTop (mkF m 121 #[sI p1, sI p2, sI p3, sI p4, sI nn, sI ca, sI cb, sI cc, .unset, .unset, .unset, .unset, .unset, .unset] [(.int cc), (.int (2 : Int32)), (.ref sd), (.ref sd), (.ref sr), (.ref sr)])) (fun t k => st23 t (XS.dup X23.here hx rfl (hb hby at_117) rfl rfl (XS.iconst X23.here hx rfl (hb hby at_118) (XS.iload X23.here hx rfl (hb hby at_119) rfl k)))) ?_
     obtain ⟨cl24, Ar24, q24, Sz24, Ng24, Hs24, Ft24⟩ := id V_sd
     obtain ⟨T24, h24, X24, e24, W24, st24⟩ := stC X23 hx hZ e23 Ar24 (j := (2 : Int32)) (inb_of Sz24 ⟨by decide, by decide⟩) (g := (mkF m 121 #[sI p1, sI p2, sI p3, sI p4, sI nn, sI ca, sI cb, sI cc, .unset, .unset, .unset, .unset, .unset, .unset] [(.int cc), (.int (2 : Int32)), (.ref sd), (.ref sd), (.ref sr), (.ref sr)])) rfl rfl (hb hby at_121)
     have nr24 : nar .char cc = cc := own_nch _ (hch_cc)
     have ft24 : fits .char (.int cc) = true := nr24 ▸ (fits_nar_char cc : fits .char (.int (nar .char cc)) = true)
     rw [nr24] at W24
     have E_sr := E_sr.wr W24
     have Fv_sr := Fv_sr.other W24 (Or.inl ne_sr_sd)
     have Fc_sr := Fc_sr.other W24 (Or.inl ne_sr_sd)
     have E_sd := E_sd.wr W24
     have Z24 : n0 ≤ h24.size := Nat.le_trans Z23 (Keep.of_wr W24).1
     have O := O.wr W24 g_sd
     have SFo := SF_sd
     have SF_sr := Safe.wr W24 SFo H SF_sr
     have SF_sd := Safe.wr W24 SFo H SF_sd
     have CR := CR.trans (CHr.wr W24 SFo H)
     have H := H.wr W24 SFo
     have hk := Nat.le_trans hk (Keep.of_wr W24).1
     have V_sd : Arv Z h24 sd k21 .char (3 : Int32) [(.int ca), (.int cb), (.int cc)] (.int (0 : Int32)) := Arv.set Ar24 q24 Sz24 Ng24 Hs24 Ft24 ft24 W24 2 rfl (Nat.le_of_ble_eq_true rfl)
     have N24 := Fr.snoc X24 N23 g_sd
     refine GoesW.pre (U' := T24.setTop (mkF m 122 #[sI p1, sI p2, sI p3, sI p4, sI nn, sI ca, sI cb, sI cc, .unset, .unset, .unset, .unset, .unset, .unset] [(.ref sd), (.ref sr), (.ref sr)])) (fun t k => st24 t k) ?_
     have lt_sd := E_sd.lt
     have lt_sr := E_sr.lt
     obtain ⟨_, _, ⟨T25, L25, k25, n25⟩, -, X25, ⟨Lc25, hQ25, l25, y25, z25⟩, st25⟩ := X24.specialBack hx (y := M2) rfl hown (mvT hZ (wq hw 10 rfl)) (mvT hZ (wq hw 11 rfl)) (mvT hZ (wq hw 12 rfl)) (by decide) (backOf (W := 1) (rm_init1G l Z a0 hw [] sr sd k21 ([ca, cb, cc]) cs h24 n0 Z24 E_sr Fv_sr Fc_sr V_sd sC sA sH sL (Nat.le_of_ble_eq_true rfl) (own_cA (hch_ca) (own_cA (hch_cb) (own_cA (hch_cc) own_cN))) (by simp) hcs ne_sd_sr g_sr O) hZ (wq hw 12 rfl) (wq hw 8 rfl) (by decide) (by decide)) (g := (mkF m 122 #[sI p1, sI p2, sI p3, sI p4, sI nn, sI ca, sI cb, sI cc, .unset, .unset, .unset, .unset, .unset, .unset] [(.ref sd), (.ref sr), (.ref sr)])) rfl (by rw [hml]; rfl) (Steps.refl _) (a := sr) (argsL := [(.ref sd)]) (rest := [(.ref sr)]) (lenOf pd__28_5bC_29V rfl) rfl (by show 2 * 0 + _ ≤ _; exact Nat.le_of_eq rfl) (hb hby at_122) (fun _ _ => ⟨rfl, e24, (by decide : 2 + 2 ≤ _), (by decide : 7 + 9 ≤ _)⟩)
     dsimp only [Pt.U, Pt.locs, Pt.cells, Pt.slots] at X25 l25 y25 z25 st25 hQ25
     subst l25 y25 z25
     obtain ⟨b25, kb25, rfl, N25q, KQ25, fo0_25, g_b25, sl_b25⟩ := hQ25
     have N25 := Fr.app N24 N25q
     have SF_b25 : Safe Z own_EL s.vm h24 b25 := Safe.new sl_b25
     have E_sr := E_sr.keep KQ25
     have E_sd := E_sd.keep KQ25
     have V_sd := V_sd.keep KQ25 (ninS ne_sd_sr nin0)
     have Z26 : n0 ≤ T25.heap.size := Nat.le_trans Z24 KQ25.1
     have O := O.keep KQ25 (allS (P := fun x => n0 ≤ x) g_sr all0)
     have hsafe := (allS (P := fun x => Safe Z own_EL s.vm _ x) SF_sr all0)
     have SF_sr := Safe.keep KQ25 hsafe H SF_sr
     have SF_sd := Safe.keep KQ25 hsafe H SF_sd
     have SF_b25 := Safe.keep KQ25 hsafe H SF_b25
     have CR := CR.trans (CHr.keep KQ25 hsafe H)
     have H := H.keep KQ25 hsafe
     have hk := Nat.le_trans hk KQ25.1
     have ne_sd_b25 : sd ≠ b25 := Nat.ne_of_lt (Nat.lt_of_lt_of_le lt_sd sl_b25)
     have ne_b25_sd := ne_sd_b25.symm
     have ne_sr_b25 : sr ≠ b25 := Nat.ne_of_lt (Nat.lt_of_lt_of_le lt_sr sl_b25)
     have ne_b25_sr := ne_sr_b25.symm
     have S_sr := fo0_25
     refine GoesW.pre (U' := T25.setTop (mkF m 127 #[sI p1, sI p2, sI p3, sI p4, sI nn, sI ca, sI cb, sI cc, sR sr, .unset, .unset, .unset, .unset, .unset] [])) (fun t k => st25.trans (XS.astore X25.here hx rfl (hb hby at_125) rfl rfl (l' := #[sI p1, sI p2, sI p3, sI p4, sI nn, sI ca, sI cb, sI cc, sR sr, .unset, .unset, .unset, .unset, .unset]) rfl k)) ?_
     exact J127_4 _ _ _ _ _ (X25.more (by decide) (by decide)) rfl N25 Z26  O hS hk hZ hown H CR sr b25 kb25 _ (Or.inr (Or.inr (Or.inr ⟨hn3, rfl⟩))) S_sr
 intro T4 h4 lc4 vm4 ks4 X4 e4 N4 Z4  O hS hk hZ hown H CR jr jb kj cl hcl S_jr 
 refine GoesW.pre (U' := T4.setTop (mkF m 129 #[sI p1, sI p2, sI p3, sI p4, sI nn, sI ca, sI cb, sI cc, sR jr, .unset, .unset, .unset, .unset, .unset] [(.ref jr)])) (fun t k => XS.aload X4.here hx rfl (hb hby at_127) rfl rfl k) ?_
 obtain ⟨_, _, ⟨T27, L27, k27, n27⟩, -, X27, hS27, hge27, ⟨Lc27, hQ27, l27, y27, z27, CQ27⟩, st27⟩ := Jvm.RoadKit.callSS X4 hx (y := M5) hown (mvT hZ (wq hw 28 rfl)) (mvT hZ (wq hw 29 rfl)) (mvT hZ (wq hw 30 rfl)) (mvT hZ (wq hw 31 rfl)) (by decide) (own_backSH (s := s) (W := 0) (rm_iri l Z a0 hw hEL [] jr jb kj cl cs sf h4 n0 Z4 S_jr sC sA sH sL sF (own_mkl hcl) hcs hsf O) hZ (wq hw 31 rfl) (wq hw 30 rfl) (by decide) (by decide) hEL H all0) (g := (mkF m 129 #[sI p1, sI p2, sI p3, sI p4, sI nn, sI ca, sI cb, sI cc, sR jr, .unset, .unset, .unset, .unset, .unset] [(.ref jr)])) rfl (by rw [hml]; rfl) (argsL := [(.ref jr)]) (rest := []) (lenOf pd__28Ljava_2flang_2fString_3b_29Lcom_2fexample_2fbnodiff_2fbnodiff_2fmodel_2fTerm_3b rfl) rfl (by show 2 * 0 + _ ≤ _; exact Nat.le_of_eq rfl) (hb hby at_129) (fun _ _ => ⟨rfl, e4, (by decide : 4 + 34 ≤ _), (by decide : 40 + 1553 ≤ _)⟩)
 dsimp only [Pt.U, Pt.locs, Pt.cells, Pt.slots] at X27 l27 y27 z27 st27 hQ27 hS27 hge27 CQ27
 subst l27 y27 z27
 obtain ⟨tt27, tz27, tb27, kt27, rfl, N27q, KQ27, fo0_27, fo1_27, fo2_27⟩ := hQ27
 have N27 := Fr.app N4 N27q
 have hS := foldS (T := T4) hS (by rw [e4]; exact hk) hS27 hge27
 have hZ : Z.Warmed39 (s.setVm T27.vm).vm := State.Warmed39.trans (t := s.setVm vm4) hZ hS27.1
 have hown := own_found hS27 hown
 have H := CQ27.1
 have CR := CR.trans CQ27
 have hk := Nat.le_refl T27.heap.size
 have S_jr := S_jr.keep KQ27 nin0 nin0
 have Z28 : n0 ≤ T27.heap.size := Nat.le_trans Z4 KQ27.1
 have O := O.keep KQ27 all0
 have E_tt27 := fo0_27
 have F_text_tt27 := fo1_27
 have S_tz27 := fo2_27
 refine GoesW.pre (U' := T27.setTop (mkF m 132 #[sI p1, sI p2, sI p3, sI p4, sI nn, sI ca, sI cb, sI cc, sR jr, .unset, .unset, .unset, .unset, .unset] [(.ref tt27)])) (fun t k => st27.trans k) ?_
 obtain ⟨cq29, kq29, q29a, q29b, q29c⟩ := isOf hZ rfl E_tt27
 obtain ⟨_, _, ⟨T29, L29, k29, n29⟩, -, X29, ⟨Lc29, hQ29, l29, y29, z29⟩, st29⟩ := X27.virtualBack hx (y := M23) (z := M23) hown (mvT hZ (wq hw 134 rfl)) (mvT hZ (wq hw 135 rfl)) (notFace_of_selects (args := #[]) (mvT hZ (wq hw 137 rfl))) (mvT hZ (wq hw 137 rfl)) (mvT hZ (wq hw 136 rfl)) (by decide) (backOf (W := 0) (rm_tts l Z a0 hw [] tt27 tz27 T27.heap n0 Z28 F_text_tt27) hZ (wq hw 138 rfl) (wq hw 30 rfl) (by decide) (by decide)) q29a q29c (g := (mkF m 132 #[sI p1, sI p2, sI p3, sI p4, sI nn, sI ca, sI cb, sI cc, sR jr, .unset, .unset, .unset, .unset, .unset] [(.ref tt27)])) rfl (by rw [hml]; rfl) (Steps.refl _) (argsL := []) (rest := []) (lenOf pd__28_29Ljava_2flang_2fString_3b rfl) rfl (by show 2 * 0 + _ ≤ _; exact Nat.le_of_eq rfl) (hb hby at_132) (fun _ _ => ⟨rfl, rfl, (by decide : 38 + 0 ≤ _), (by decide : 1593 + 0 ≤ _)⟩)
 dsimp only [Pt.U, Pt.locs, Pt.cells, Pt.slots] at X29 l29 y29 z29 st29 hQ29
 subst l29 y29 z29
 obtain ⟨rfl, N29q, HQ29⟩ := hQ29
 have N29 := Fr.app N27 N29q
 refine GoesW.pre (U' := T29.setTop (mkF m 140 #[sI p1, sI p2, sI p3, sI p4, sI nn, sI ca, sI cb, sI cc, sR jr, sR tz27, sI (1 : Int32), .unset, .unset, .unset] [])) (fun t k => st29.trans (XS.astore X29.here hx rfl (hb hby at_135) rfl rfl (l' := #[sI p1, sI p2, sI p3, sI p4, sI nn, sI ca, sI cb, sI cc, sR jr, sR tz27, .unset, .unset, .unset, .unset]) rfl (XS.iconst X29.here hx rfl (hb hby at_137) (XS.istore X29.here hx rfl (hb hby at_138) rfl (l' := #[sI p1, sI p2, sI p3, sI p4, sI nn, sI ca, sI cb, sI cc, sR jr, sR tz27, sI (1 : Int32), .unset, .unset, .unset]) rfl k)))) ?_
 suffices J159_30 : ∀ (T31 : State) (lc31 : List Loc), Stand p l e room_1 (s.setVm T27.vm) m #[(.int p1), (.int p2), (.int p3), (.int p4)] below meth c T31 lc31 38 1593 → T31.heap = T27.heap → Fr n0 lc31 → ∀ (y1_ : Int32) (hy1_ : y1_ = Int32.ofNat (own_pre cl (min 1 cl.length)).length), GoesW p e below s Z own_EL (Q_rm0 Z p1 p2 p3 p4 cs sf h0 n0) room_1.cells room_1.slots (T31.setTop (mkF m 159 #[sI p1, sI p2, sI p3, sI p4, sI nn, sI ca, sI cb, sI cc, sR jr, sR tz27, sI (1 : Int32), .unset, .unset, .unset] [(.int y1_)])) by
  refine GoesW.pre (U' := T29.setTop (mkF m 143 #[sI p1, sI p2, sI p3, sI p4, sI nn, sI ca, sI cb, sI cc, sR jr, sR tz27, sI (1 : Int32), .unset, .unset, .unset] [(.int (1 : Int32)), (.int nn)])) (fun t k => XS.iload X29.here hx rfl (hb hby at_140) rfl (XS.iconst X29.here hx rfl (hb hby at_142) k)) ?_
  by_cases hc143 : nn < (1 : Int32)
  ·
   refine GoesW.pre (U' := T29.setTop (mkF m 159 #[sI p1, sI p2, sI p3, sI p4, sI nn, sI ca, sI cb, sI cc, sR jr, sR tz27, sI (1 : Int32), .unset, .unset, .unset] [(.int (1 : Int32))])) (fun t k => XS.icmpYes X29.here hx rfl (pc0 := 143) (pc' := 157) rfl (hb hby at_143) rfl (tlt hc143).1 (by decide) (by decide) (XS.iload X29.here hx rfl (hb hby at_157) rfl k)) ?_
   exact J159_30 _ _ X29 HQ29 N29 (1 : Int32) (own_pos1 hcl rfl hc143 (own_mkc hcl hch_ca hch_cb hch_cc))
  ·
   refine GoesW.pre (U' := T29.setTop (mkF m 150 #[sI p1, sI p2, sI p3, sI p4, sI nn, sI ca, sI cb, sI cc, sR jr, sR tz27, sI (1 : Int32), .unset, .unset, .unset] [(.int ca), (.int (1 : Int32))])) (fun t k => XS.icmpNo X29.here hx rfl (hb hby at_143) rfl (flt hc143).1 (XS.iload X29.here hx rfl (hb hby at_146) rfl (XS.iload X29.here hx rfl (hb hby at_148) rfl k))) ?_
   obtain ⟨_, _, ⟨T32, L32, k32, n32⟩, -, X32, ⟨Lc32, hQ32, l32, y32, z32⟩, st32⟩ := Jvm.LawKit.callS X29 hx (y := M39) hown (mvT hZ (wq hw 200 rfl)) (mvT hZ (wq hw 201 rfl)) (mvT hZ (wq hw 2 rfl)) (mvT hZ (wq hw 202 rfl)) (by decide) (backOf (W := 1) (rm_wid l Z a0 hw [] ca T27.heap n0 Z28) hZ (wq hw 202 rfl) (wq hw 2 rfl) (by decide) (by decide)) (g := (mkF m 150 #[sI p1, sI p2, sI p3, sI p4, sI nn, sI ca, sI cb, sI cc, sR jr, sR tz27, sI (1 : Int32), .unset, .unset, .unset] [(.int ca), (.int (1 : Int32))])) rfl (by rw [hml]; rfl) (argsL := [(.int ca)]) (rest := [(.int (1 : Int32))]) (lenOf pd__28C_29I rfl) rfl (by show 2 * 0 + _ ≤ _; exact Nat.le_of_eq rfl) (hb hby at_150) (fun _ _ => ⟨rfl, HQ29, (by decide : 38 + 0 ≤ _), (by decide : 1593 + 0 ≤ _)⟩)
   dsimp only [Pt.U, Pt.locs, Pt.cells, Pt.slots] at X32 l32 y32 z32 st32 hQ32
   subst l32 y32 z32
   obtain ⟨rfl, N32q, HQ32⟩ := hQ32
   have N32 := Fr.app N29 N32q
   refine GoesW.pre (U' := T32.setTop (mkF m 159 #[sI p1, sI p2, sI p3, sI p4, sI nn, sI ca, sI cb, sI cc, sR jr, sR tz27, sI (1 : Int32), .unset, .unset, .unset] [(.int ((1 : Int32) + (own_width ca)))])) (fun t k => st32 t (XS.iadd X32.here hx rfl (hb hby at_153) rfl (XS.goto X32.here hx rfl (pc0 := 154) (pc' := 159) rfl (hb hby at_154) (by decide) (by decide) k))) ?_
   exact J159_30 _ _ X32 HQ32 N32 ((1 : Int32) + (own_width ca)) (own_poz1 hcl rfl hc143 hch_ca hch_cb hch_cc)
 intro T31 lc31 X31 e31 N31 y1_ hy1_
 refine GoesW.pre (U' := T31.setTop (mkF m 161 #[sI p1, sI p2, sI p3, sI p4, sI nn, sI ca, sI cb, sI cc, sR jr, sR tz27, sI (1 : Int32), sI y1_, .unset, .unset] [])) (fun t k => XS.istore X31.here hx rfl (hb hby at_159) rfl (l' := #[sI p1, sI p2, sI p3, sI p4, sI nn, sI ca, sI cb, sI cc, sR jr, sR tz27, sI (1 : Int32), sI y1_, .unset, .unset]) rfl k) ?_
 suffices J180_33 : ∀ (T34 : State) (lc34 : List Loc), Stand p l e room_1 (s.setVm T27.vm) m #[(.int p1), (.int p2), (.int p3), (.int p4)] below meth c T34 lc34 38 1593 → T34.heap = T27.heap → Fr n0 lc34 → ∀ (y2_ : Int32) (hy2_ : y2_ = Int32.ofNat (own_pre cl (min 2 cl.length)).length), GoesW p e below s Z own_EL (Q_rm0 Z p1 p2 p3 p4 cs sf h0 n0) room_1.cells room_1.slots (T34.setTop (mkF m 180 #[sI p1, sI p2, sI p3, sI p4, sI nn, sI ca, sI cb, sI cc, sR jr, sR tz27, sI (1 : Int32), sI y1_, .unset, .unset] [(.int y2_)])) by
  refine GoesW.pre (U' := T31.setTop (mkF m 164 #[sI p1, sI p2, sI p3, sI p4, sI nn, sI ca, sI cb, sI cc, sR jr, sR tz27, sI (1 : Int32), sI y1_, .unset, .unset] [(.int (2 : Int32)), (.int nn)])) (fun t k => XS.iload X31.here hx rfl (hb hby at_161) rfl (XS.iconst X31.here hx rfl (hb hby at_163) k)) ?_
  by_cases hc164 : nn < (2 : Int32)
  ·
   refine GoesW.pre (U' := T31.setTop (mkF m 180 #[sI p1, sI p2, sI p3, sI p4, sI nn, sI ca, sI cb, sI cc, sR jr, sR tz27, sI (1 : Int32), sI y1_, .unset, .unset] [(.int y1_)])) (fun t k => XS.icmpYes X31.here hx rfl (pc0 := 164) (pc' := 178) rfl (hb hby at_164) rfl (tlt hc164).1 (by decide) (by decide) (XS.iload X31.here hx rfl (hb hby at_178) rfl k)) ?_
   exact J180_33 _ _ X31 e31 N31 y1_ (own_pos2 hcl hy1_ hc164 (own_mkc hcl hch_ca hch_cb hch_cc))
  ·
   refine GoesW.pre (U' := T31.setTop (mkF m 171 #[sI p1, sI p2, sI p3, sI p4, sI nn, sI ca, sI cb, sI cc, sR jr, sR tz27, sI (1 : Int32), sI y1_, .unset, .unset] [(.int cb), (.int y1_)])) (fun t k => XS.icmpNo X31.here hx rfl (hb hby at_164) rfl (flt hc164).1 (XS.iload X31.here hx rfl (hb hby at_167) rfl (XS.iload X31.here hx rfl (hb hby at_169) rfl k))) ?_
   obtain ⟨_, _, ⟨T35, L35, k35, n35⟩, -, X35, ⟨Lc35, hQ35, l35, y35, z35⟩, st35⟩ := Jvm.LawKit.callS X31 hx (y := M39) hown (mvT hZ (wq hw 200 rfl)) (mvT hZ (wq hw 201 rfl)) (mvT hZ (wq hw 2 rfl)) (mvT hZ (wq hw 202 rfl)) (by decide) (backOf (W := 1) (rm_wid l Z a0 hw [] cb T27.heap n0 Z28) hZ (wq hw 202 rfl) (wq hw 2 rfl) (by decide) (by decide)) (g := (mkF m 171 #[sI p1, sI p2, sI p3, sI p4, sI nn, sI ca, sI cb, sI cc, sR jr, sR tz27, sI (1 : Int32), sI y1_, .unset, .unset] [(.int cb), (.int y1_)])) rfl (by rw [hml]; rfl) (argsL := [(.int cb)]) (rest := [(.int y1_)]) (lenOf pd__28C_29I rfl) rfl (by show 2 * 0 + _ ≤ _; exact Nat.le_of_eq rfl) (hb hby at_171) (fun _ _ => ⟨rfl, e31, (by decide : 38 + 0 ≤ _), (by decide : 1593 + 0 ≤ _)⟩)
   dsimp only [Pt.U, Pt.locs, Pt.cells, Pt.slots] at X35 l35 y35 z35 st35 hQ35
   subst l35 y35 z35
   obtain ⟨rfl, N35q, HQ35⟩ := hQ35
   have N35 := Fr.app N31 N35q
   refine GoesW.pre (U' := T35.setTop (mkF m 180 #[sI p1, sI p2, sI p3, sI p4, sI nn, sI ca, sI cb, sI cc, sR jr, sR tz27, sI (1 : Int32), sI y1_, .unset, .unset] [(.int (y1_ + (own_width cb)))])) (fun t k => st35 t (XS.iadd X35.here hx rfl (hb hby at_174) rfl (XS.goto X35.here hx rfl (pc0 := 175) (pc' := 180) rfl (hb hby at_175) (by decide) (by decide) k))) ?_
   exact J180_33 _ _ X35 HQ35 N35 (y1_ + (own_width cb)) (own_poz2 hcl hy1_ hc164 hch_ca hch_cb hch_cc)
 intro T34 lc34 X34 e34 N34 y2_ hy2_
 refine GoesW.pre (U' := T34.setTop (mkF m 182 #[sI p1, sI p2, sI p3, sI p4, sI nn, sI ca, sI cb, sI cc, sR jr, sR tz27, sI (1 : Int32), sI y1_, sI y2_, .unset] [])) (fun t k => XS.istore X34.here hx rfl (hb hby at_180) rfl (l' := #[sI p1, sI p2, sI p3, sI p4, sI nn, sI ca, sI cb, sI cc, sR jr, sR tz27, sI (1 : Int32), sI y1_, sI y2_, .unset]) rfl k) ?_
 suffices J201_36 : ∀ (T37 : State) (lc37 : List Loc), Stand p l e room_1 (s.setVm T27.vm) m #[(.int p1), (.int p2), (.int p3), (.int p4)] below meth c T37 lc37 38 1593 → T37.heap = T27.heap → Fr n0 lc37 → ∀ (y3_ : Int32) (hy3_ : y3_ = Int32.ofNat (own_pre cl (min 3 cl.length)).length), GoesW p e below s Z own_EL (Q_rm0 Z p1 p2 p3 p4 cs sf h0 n0) room_1.cells room_1.slots (T37.setTop (mkF m 201 #[sI p1, sI p2, sI p3, sI p4, sI nn, sI ca, sI cb, sI cc, sR jr, sR tz27, sI (1 : Int32), sI y1_, sI y2_, .unset] [(.int y3_)])) by
  refine GoesW.pre (U' := T34.setTop (mkF m 185 #[sI p1, sI p2, sI p3, sI p4, sI nn, sI ca, sI cb, sI cc, sR jr, sR tz27, sI (1 : Int32), sI y1_, sI y2_, .unset] [(.int (3 : Int32)), (.int nn)])) (fun t k => XS.iload X34.here hx rfl (hb hby at_182) rfl (XS.iconst X34.here hx rfl (hb hby at_184) k)) ?_
  by_cases hc185 : nn < (3 : Int32)
  ·
   refine GoesW.pre (U' := T34.setTop (mkF m 201 #[sI p1, sI p2, sI p3, sI p4, sI nn, sI ca, sI cb, sI cc, sR jr, sR tz27, sI (1 : Int32), sI y1_, sI y2_, .unset] [(.int y2_)])) (fun t k => XS.icmpYes X34.here hx rfl (pc0 := 185) (pc' := 199) rfl (hb hby at_185) rfl (tlt hc185).1 (by decide) (by decide) (XS.iload X34.here hx rfl (hb hby at_199) rfl k)) ?_
   exact J201_36 _ _ X34 e34 N34 y2_ (own_pos3 hcl hy2_ hc185 (own_mkc hcl hch_ca hch_cb hch_cc))
  ·
   refine GoesW.pre (U' := T34.setTop (mkF m 192 #[sI p1, sI p2, sI p3, sI p4, sI nn, sI ca, sI cb, sI cc, sR jr, sR tz27, sI (1 : Int32), sI y1_, sI y2_, .unset] [(.int cc), (.int y2_)])) (fun t k => XS.icmpNo X34.here hx rfl (hb hby at_185) rfl (flt hc185).1 (XS.iload X34.here hx rfl (hb hby at_188) rfl (XS.iload X34.here hx rfl (hb hby at_190) rfl k))) ?_
   obtain ⟨_, _, ⟨T38, L38, k38, n38⟩, -, X38, ⟨Lc38, hQ38, l38, y38, z38⟩, st38⟩ := Jvm.LawKit.callS X34 hx (y := M39) hown (mvT hZ (wq hw 200 rfl)) (mvT hZ (wq hw 201 rfl)) (mvT hZ (wq hw 2 rfl)) (mvT hZ (wq hw 202 rfl)) (by decide) (backOf (W := 1) (rm_wid l Z a0 hw [] cc T27.heap n0 Z28) hZ (wq hw 202 rfl) (wq hw 2 rfl) (by decide) (by decide)) (g := (mkF m 192 #[sI p1, sI p2, sI p3, sI p4, sI nn, sI ca, sI cb, sI cc, sR jr, sR tz27, sI (1 : Int32), sI y1_, sI y2_, .unset] [(.int cc), (.int y2_)])) rfl (by rw [hml]; rfl) (argsL := [(.int cc)]) (rest := [(.int y2_)]) (lenOf pd__28C_29I rfl) rfl (by show 2 * 0 + _ ≤ _; exact Nat.le_of_eq rfl) (hb hby at_192) (fun _ _ => ⟨rfl, e34, (by decide : 38 + 0 ≤ _), (by decide : 1593 + 0 ≤ _)⟩)
   dsimp only [Pt.U, Pt.locs, Pt.cells, Pt.slots] at X38 l38 y38 z38 st38 hQ38
   subst l38 y38 z38
   obtain ⟨rfl, N38q, HQ38⟩ := hQ38
   have N38 := Fr.app N34 N38q
   refine GoesW.pre (U' := T38.setTop (mkF m 201 #[sI p1, sI p2, sI p3, sI p4, sI nn, sI ca, sI cb, sI cc, sR jr, sR tz27, sI (1 : Int32), sI y1_, sI y2_, .unset] [(.int (y2_ + (own_width cc)))])) (fun t k => st38 t (XS.iadd X38.here hx rfl (hb hby at_195) rfl (XS.goto X38.here hx rfl (pc0 := 196) (pc' := 201) rfl (hb hby at_196) (by decide) (by decide) k))) ?_
   exact J201_36 _ _ X38 HQ38 N38 (y2_ + (own_width cc)) (own_poz3 hcl hy2_ hc185 hch_ca hch_cb hch_cc)
 intro T37 lc37 X37 e37 N37 y3_ hy3_
 refine GoesW.pre (U' := T37.setTop (mkF m 203 #[sI p1, sI p2, sI p3, sI p4, sI nn, sI ca, sI cb, sI cc, sR jr, sR tz27, sI (1 : Int32), sI y1_, sI y2_, sI y3_] [])) (fun t k => XS.istore X37.here hx rfl (hb hby at_201) rfl (l' := #[sI p1, sI p2, sI p3, sI p4, sI nn, sI ca, sI cb, sI cc, sR jr, sR tz27, sI (1 : Int32), sI y1_, sI y2_, sI y3_]) rfl k) ?_
 obtain ⟨sl, hsl⟩ : ∃ z, z = own_iri cl := ⟨_, rfl⟩
 rw [← hsl] at S_tz27
 obtain ⟨hq1, hq2, hq3, hq4, hq5⟩ := own_lawP cl cl.length rfl (own_mkl hcl) (own_mkc hcl hch_ca hch_cb hch_cc) sl hsl
 have hsl4 : sl.length ≤ 4096 := Nat.le_trans hq2 (by decide)
 have hye : y3_ = Int32.ofNat (own_pre cl cl.length).length := by rw [hy3_, Nat.min_eq_right (own_mkl hcl)]
 refine GoesW.pre (U' := T37.setTop (mkF m 205 #[sI p1, sI p2, sI p3, sI p4, sI nn, sI ca, sI cb, sI cc, sR jr, sR tz27, sI (1 : Int32), sI y1_, sI y2_, sI y3_] [(.ref tz27)])) (fun t k => XS.aload X37.here hx rfl (hb hby at_203) rfl rfl k) ?_
 obtain ⟨cq39, kq39, q39a, q39b, q39c⟩ := isOf hZ e37 S_tz27.1
 obtain ⟨_, _, ⟨T39, L39, k39, n39⟩, -, X39, ⟨Lc39, hQ39, l39, y39, z39⟩, st39⟩ := X37.virtualBack hx (y := M6) (z := M6) hown (mvT hZ (wq hw 139 rfl)) (mvT hZ (wq hw 36 rfl)) (notFace_of_selects (args := #[]) (mvT hZ (wq hw 38 rfl))) (mvT hZ (wq hw 38 rfl)) (mvT hZ (wq hw 37 rfl)) (by decide) (backOf (W := 0) (rm_len l Z a0 hw [] tz27 tb27 kt27 sl cs T27.heap n0 Z28 S_tz27 sC hcs hsl4 O) hZ (wq hw 39 rfl) (wq hw 8 rfl) (by decide) (by decide)) q39a q39c (g := (mkF m 205 #[sI p1, sI p2, sI p3, sI p4, sI nn, sI ca, sI cb, sI cc, sR jr, sR tz27, sI (1 : Int32), sI y1_, sI y2_, sI y3_] [(.ref tz27)])) rfl (by rw [hml]; rfl) (Steps.refl _) (argsL := []) (rest := []) (lenOf pd__28_29I rfl) rfl (by show 2 * 0 + _ ≤ _; exact Nat.le_of_eq rfl) (hb hby at_205) (fun _ _ => ⟨rfl, e37, (by decide : 38 + 0 ≤ _), (by decide : 1593 + 0 ≤ _)⟩)
 dsimp only [Pt.U, Pt.locs, Pt.cells, Pt.slots] at X39 l39 y39 z39 st39 hQ39
 subst l39 y39 z39
 obtain ⟨rfl, N39q, HQ39⟩ := hQ39
 have N39 := Fr.app N37 N39q
 refine GoesW.pre (U' := T39.setTop (mkF m 212 #[sI p1, sI p2, sI p3, sI p4, sI nn, sI ca, sI cb, sI cc, sR jr, sR tz27, sI (1 : Int32), sI y1_, sI y2_, sI y3_] [(.int (y3_ + (1 : Int32))), (.int (Int32.ofNat sl.length))])) (fun t k => st39.trans (XS.iload X39.here hx rfl (hb hby at_208) rfl (XS.iconst X39.here hx rfl (hb hby at_210) (XS.iadd X39.here hx rfl (hb hby at_211) rfl k)))) ?_
 have hc212 : (Int32.ofNat sl.length) = (y3_ + (1 : Int32)) := (by rw [hye]; exact own_lenP _ _ hq1)
 refine GoesW.pre (U' := T39.setTop (mkF m 220 #[sI p1, sI p2, sI p3, sI p4, sI nn, sI ca, sI cb, sI cc, sR jr, sR tz27, sI (1 : Int32), sI y1_, sI y2_, sI y3_] [(.int (0 : Int32)), (.ref tz27)])) (fun t k => XS.icmpYes X39.here hx rfl (pc0 := 212) (pc' := 217) rfl (hb hby at_212) rfl (teq hc212).1 (by decide) (by decide) (XS.aload X39.here hx rfl (hb hby at_217) rfl rfl (XS.iconst X39.here hx rfl (hb hby at_219) k))) ?_
 obtain ⟨cq40, kq40, q40a, q40b, q40c⟩ := isOf hZ HQ39 S_tz27.1
 obtain ⟨_, _, ⟨T40, L40, k40, n40⟩, -, X40, ⟨Lc40, hQ40, l40, y40, z40⟩, st40⟩ := X39.virtualBack hx (y := M24) (z := M24) hown (mvT hZ (wq hw 140 rfl)) (mvT hZ (wq hw 141 rfl)) (notFace_of_selects (args := #[]) (mvT hZ (wq hw 143 rfl))) (mvT hZ (wq hw 143 rfl)) (mvT hZ (wq hw 142 rfl)) (by decide) (backOf (W := 0) (rm_chG l Z a0 hw [] tz27 tb27 kt27 sl (0 : Int32) cs sf T27.heap n0 Z28 S_tz27 sC sA sH sL sF (by decide) (by have := own_ix 0 sl.length (by omega) (by omega); exact this.2) hsl4 hcs hsf O) hZ (wq hw 144 rfl) (wq hw 8 rfl) (by decide) (by decide)) q40a q40c (g := (mkF m 220 #[sI p1, sI p2, sI p3, sI p4, sI nn, sI ca, sI cb, sI cc, sR jr, sR tz27, sI (1 : Int32), sI y1_, sI y2_, sI y3_] [(.int (0 : Int32)), (.ref tz27)])) rfl (by rw [hml]; rfl) (Steps.refl _) (argsL := [(.int (0 : Int32))]) (rest := []) (lenOf pd__28I_29C rfl) rfl (by show 2 * 0 + _ ≤ _; exact Nat.le_of_eq rfl) (hb hby at_220) (fun _ _ => ⟨rfl, HQ39, (by decide : 38 + 0 ≤ _), (by decide : 1593 + 0 ≤ _)⟩)
 dsimp only [Pt.U, Pt.locs, Pt.cells, Pt.slots] at X40 l40 y40 z40 st40 hQ40
 subst l40 y40 z40
 obtain ⟨rfl, N40q, HQ40⟩ := hQ40
 have N40 := Fr.app N39 N40q
 refine GoesW.pre (U' := T40.setTop (mkF m 225 #[sI p1, sI p2, sI p3, sI p4, sI nn, sI ca, sI cb, sI cc, sR jr, sR tz27, sI (1 : Int32), sI y1_, sI y2_, sI y3_] [(.int (60 : Int32)), (.int (sl.getD (0 : Int32).toNatClampNeg 0))])) (fun t k => st40.trans (XS.bipush X40.here hx rfl (hb hby at_223) k)) ?_
 have hc225 : (sl.getD (0 : Int32).toNatClampNeg 0) = (60 : Int32) := hq3
 refine GoesW.pre (U' := T40.setTop (mkF m 232 #[sI p1, sI p2, sI p3, sI p4, sI nn, sI ca, sI cb, sI cc, sR jr, sR tz27, sI (1 : Int32), sI y1_, sI y2_, sI y3_] [(.int y3_), (.ref tz27)])) (fun t k => XS.icmpNo X40.here hx rfl (hb hby at_225) rfl (teq hc225).2 (XS.aload X40.here hx rfl (hb hby at_228) rfl rfl (XS.iload X40.here hx rfl (hb hby at_230) rfl k))) ?_
 obtain ⟨cq41, kq41, q41a, q41b, q41c⟩ := isOf hZ HQ40 S_tz27.1
 obtain ⟨_, _, ⟨T41, L41, k41, n41⟩, -, X41, ⟨Lc41, hQ41, l41, y41, z41⟩, st41⟩ := X40.virtualBack hx (y := M24) (z := M24) hown (mvT hZ (wq hw 140 rfl)) (mvT hZ (wq hw 141 rfl)) (notFace_of_selects (args := #[]) (mvT hZ (wq hw 143 rfl))) (mvT hZ (wq hw 143 rfl)) (mvT hZ (wq hw 142 rfl)) (by decide) (backOf (W := 0) (rm_chG l Z a0 hw [] tz27 tb27 kt27 sl y3_ cs sf T27.heap n0 Z28 S_tz27 sC sA sH sL sF (by rw [hye]; exact own_neg _ (by omega)) (by rw [hye]; exact (own_ix (own_pre cl cl.length).length sl.length (by omega) (by omega)).2) hsl4 hcs hsf O) hZ (wq hw 144 rfl) (wq hw 8 rfl) (by decide) (by decide)) q41a q41c (g := (mkF m 232 #[sI p1, sI p2, sI p3, sI p4, sI nn, sI ca, sI cb, sI cc, sR jr, sR tz27, sI (1 : Int32), sI y1_, sI y2_, sI y3_] [(.int y3_), (.ref tz27)])) rfl (by rw [hml]; rfl) (Steps.refl _) (argsL := [(.int y3_)]) (rest := []) (lenOf pd__28I_29C rfl) rfl (by show 2 * 0 + _ ≤ _; exact Nat.le_of_eq rfl) (hb hby at_232) (fun _ _ => ⟨rfl, HQ40, (by decide : 38 + 0 ≤ _), (by decide : 1593 + 0 ≤ _)⟩)
 dsimp only [Pt.U, Pt.locs, Pt.cells, Pt.slots] at X41 l41 y41 z41 st41 hQ41
 subst l41 y41 z41
 obtain ⟨rfl, N41q, HQ41⟩ := hQ41
 have N41 := Fr.app N40 N41q
 refine GoesW.pre (U' := T41.setTop (mkF m 237 #[sI p1, sI p2, sI p3, sI p4, sI nn, sI ca, sI cb, sI cc, sR jr, sR tz27, sI (1 : Int32), sI y1_, sI y2_, sI y3_] [(.int (62 : Int32)), (.int (sl.getD y3_.toNatClampNeg 0))])) (fun t k => st41.trans (XS.bipush X41.here hx rfl (hb hby at_235) k)) ?_
 have hc237 : (sl.getD y3_.toNatClampNeg 0) = (62 : Int32) := (by rw [hye, own_ixn _ (by omega)]; exact hq4)
 refine GoesW.pre (U' := T41.setTop (mkF m 242 #[sI p1, sI p2, sI p3, sI p4, sI nn, sI ca, sI cb, sI cc, sR jr, sR tz27, sI (1 : Int32), sI y1_, sI y2_, sI y3_] [])) (fun t k => XS.icmpYes X41.here hx rfl (pc0 := 237) (pc' := 242) rfl (hb hby at_237) rfl (teq hc237).1 (by decide) (by decide) k) ?_
 suffices J262_42 : ∀ (T43 : State) (lc43 : List Loc), Stand p l e room_1 (s.setVm T27.vm) m #[(.int p1), (.int p2), (.int p3), (.int p4)] below meth c T43 lc43 38 1593 → T43.heap = T27.heap → Fr n0 lc43 → ∀ (_ : True), GoesW p e below s Z own_EL (Q_rm0 Z p1 p2 p3 p4 cs sf h0 n0) room_1.cells room_1.slots (T43.setTop (mkF m 262 #[sI p1, sI p2, sI p3, sI p4, sI nn, sI ca, sI cb, sI cc, sR jr, sR tz27, sI (1 : Int32), sI y1_, sI y2_, sI y3_] [])) by
  refine GoesW.pre (U' := T41.setTop (mkF m 245 #[sI p1, sI p2, sI p3, sI p4, sI nn, sI ca, sI cb, sI cc, sR jr, sR tz27, sI (1 : Int32), sI y1_, sI y2_, sI y3_] [(.int (1 : Int32)), (.int nn)])) (fun t k => XS.iload X41.here hx rfl (hb hby at_242) rfl (XS.iconst X41.here hx rfl (hb hby at_244) k)) ?_
  by_cases hc245 : nn < (1 : Int32)
  ·
   refine GoesW.pre (U' := T41.setTop (mkF m 262 #[sI p1, sI p2, sI p3, sI p4, sI nn, sI ca, sI cb, sI cc, sR jr, sR tz27, sI (1 : Int32), sI y1_, sI y2_, sI y3_] [])) (fun t k => XS.icmpYes X41.here hx rfl (pc0 := 245) (pc' := 262) rfl (hb hby at_245) rfl (tlt hc245).1 (by decide) (by decide) k) ?_
   exact J262_42 _ _ X41 HQ41 N41 trivial
  ·
   refine GoesW.pre (U' := T41.setTop (mkF m 254 #[sI p1, sI p2, sI p3, sI p4, sI nn, sI ca, sI cb, sI cc, sR jr, sR tz27, sI (1 : Int32), sI y1_, sI y2_, sI y3_] [(.int ca), (.int (1 : Int32)), (.ref tz27)])) (fun t k => XS.icmpNo X41.here hx rfl (hb hby at_245) rfl (flt hc245).1 (XS.aload X41.here hx rfl (hb hby at_248) rfl rfl (XS.iload X41.here hx rfl (hb hby at_250) rfl (XS.iload X41.here hx rfl (hb hby at_252) rfl k)))) ?_
   obtain ⟨_, _, ⟨T44, L44, k44, n44⟩, -, X44, ⟨Lc44, hQ44, l44, y44, z44⟩, st44⟩ := Jvm.LawKit.callS X41 hx (y := M41) hown (mvT hZ (wq hw 206 rfl)) (mvT hZ (wq hw 207 rfl)) (mvT hZ (wq hw 2 rfl)) (mvT hZ (wq hw 208 rfl)) (by decide) (backOf (W := 0) (rm_ok l Z a0 hw [] tz27 tb27 kt27 sl (1 : Int32) ca cs sf T27.heap n0 Z28 S_tz27 sC sA sH sL sF hsl4 (own_okp1 hcl hc245 hq5) hcs hsf O) hZ (wq hw 208 rfl) (wq hw 2 rfl) (by decide) (by decide)) (g := (mkF m 254 #[sI p1, sI p2, sI p3, sI p4, sI nn, sI ca, sI cb, sI cc, sR jr, sR tz27, sI (1 : Int32), sI y1_, sI y2_, sI y3_] [(.int ca), (.int (1 : Int32)), (.ref tz27)])) rfl (by rw [hml]; rfl) (argsL := [(.ref tz27), (.int (1 : Int32)), (.int ca)]) (rest := []) (lenOf pd__28Ljava_2flang_2fString_3bIC_29Z rfl) rfl (by show 2 * 0 + _ ≤ _; exact Nat.le_of_eq rfl) (hb hby at_254) (fun _ _ => ⟨rfl, HQ41, (by decide : 38 + 0 ≤ _), (by decide : 1593 + 0 ≤ _)⟩)
   dsimp only [Pt.U, Pt.locs, Pt.cells, Pt.slots] at X44 l44 y44 z44 st44 hQ44
   subst l44 y44 z44
   obtain ⟨rfl, N44q, HQ44⟩ := hQ44
   have N44 := Fr.app N41 N44q
   refine GoesW.pre (U' := T44.setTop (mkF m 257 #[sI p1, sI p2, sI p3, sI p4, sI nn, sI ca, sI cb, sI cc, sR jr, sR tz27, sI (1 : Int32), sI y1_, sI y2_, sI y3_] [(.int (1 : Int32))])) (fun t k => st44 t k) ?_
   have hc257 : ¬ ((1 : Int32) = (0 : Int32)) := by decide
   refine GoesW.pre (U' := T44.setTop (mkF m 262 #[sI p1, sI p2, sI p3, sI p4, sI nn, sI ca, sI cb, sI cc, sR jr, sR tz27, sI (1 : Int32), sI y1_, sI y2_, sI y3_] [])) (fun t k => XS.ifYes X44.here hx rfl (pc0 := 257) (pc' := 262) rfl (hb hby at_257) rfl ((if0 _ _).trans (feq hc257).2) (by decide) (by decide) k) ?_
   exact J262_42 _ _ X44 HQ44 N44 trivial
 intro T43 lc43 X43 e43 N43 _
 refine GoesW.pre (U' := T43.setTop (mkF m 265 #[sI p1, sI p2, sI p3, sI p4, sI nn, sI ca, sI cb, sI cc, sR jr, sR tz27, sI (1 : Int32), sI y1_, sI y2_, sI y3_] [(.int (2 : Int32)), (.int nn)])) (fun t k => XS.iload X43.here hx rfl (hb hby at_262) rfl (XS.iconst X43.here hx rfl (hb hby at_264) k)) ?_
 by_cases hc265 : nn < (2 : Int32)
 ·
  refine GoesW.pre (U' := T43.setTop (mkF m 282 #[sI p1, sI p2, sI p3, sI p4, sI nn, sI ca, sI cb, sI cc, sR jr, sR tz27, sI (1 : Int32), sI y1_, sI y2_, sI y3_] [])) (fun t k => XS.icmpYes X43.here hx rfl (pc0 := 265) (pc' := 282) rfl (hb hby at_265) rfl (tlt hc265).1 (by decide) (by decide) k) ?_
  suffices J302_45 : ∀ (T46 : State) (lc46 : List Loc), Stand p l e room_1 (s.setVm T27.vm) m #[(.int p1), (.int p2), (.int p3), (.int p4)] below meth c T46 lc46 38 1593 → T46.heap = T27.heap → Fr n0 lc46 → ∀ (_ : True), GoesW p e below s Z own_EL (Q_rm0 Z p1 p2 p3 p4 cs sf h0 n0) room_1.cells room_1.slots (T46.setTop (mkF m 302 #[sI p1, sI p2, sI p3, sI p4, sI nn, sI ca, sI cb, sI cc, sR jr, sR tz27, sI (1 : Int32), sI y1_, sI y2_, sI y3_] [])) by
   refine GoesW.pre (U' := T43.setTop (mkF m 285 #[sI p1, sI p2, sI p3, sI p4, sI nn, sI ca, sI cb, sI cc, sR jr, sR tz27, sI (1 : Int32), sI y1_, sI y2_, sI y3_] [(.int (3 : Int32)), (.int nn)])) (fun t k => XS.iload X43.here hx rfl (hb hby at_282) rfl (XS.iconst X43.here hx rfl (hb hby at_284) k)) ?_
   by_cases hc285 : nn < (3 : Int32)
   ·
    refine GoesW.pre (U' := T43.setTop (mkF m 302 #[sI p1, sI p2, sI p3, sI p4, sI nn, sI ca, sI cb, sI cc, sR jr, sR tz27, sI (1 : Int32), sI y1_, sI y2_, sI y3_] [])) (fun t k => XS.icmpYes X43.here hx rfl (pc0 := 285) (pc' := 302) rfl (hb hby at_285) rfl (tlt hc285).1 (by decide) (by decide) k) ?_
    exact J302_45 _ _ X43 e43 N43 trivial
   ·
    refine GoesW.pre (U' := T43.setTop (mkF m 294 #[sI p1, sI p2, sI p3, sI p4, sI nn, sI ca, sI cb, sI cc, sR jr, sR tz27, sI (1 : Int32), sI y1_, sI y2_, sI y3_] [(.int cc), (.int y2_), (.ref tz27)])) (fun t k => XS.icmpNo X43.here hx rfl (hb hby at_285) rfl (flt hc285).1 (XS.aload X43.here hx rfl (hb hby at_288) rfl rfl (XS.iload X43.here hx rfl (hb hby at_290) rfl (XS.iload X43.here hx rfl (hb hby at_292) rfl k)))) ?_
    obtain ⟨_, _, ⟨T47, L47, k47, n47⟩, -, X47, ⟨Lc47, hQ47, l47, y47, z47⟩, st47⟩ := Jvm.LawKit.callS X43 hx (y := M41) hown (mvT hZ (wq hw 206 rfl)) (mvT hZ (wq hw 207 rfl)) (mvT hZ (wq hw 2 rfl)) (mvT hZ (wq hw 208 rfl)) (by decide) (backOf (W := 0) (rm_ok l Z a0 hw [] tz27 tb27 kt27 sl y2_ cc cs sf T27.heap n0 Z28 S_tz27 sC sA sH sL sF hsl4 (own_okp3 hcl hc285 hy2_ hq5) hcs hsf O) hZ (wq hw 208 rfl) (wq hw 2 rfl) (by decide) (by decide)) (g := (mkF m 294 #[sI p1, sI p2, sI p3, sI p4, sI nn, sI ca, sI cb, sI cc, sR jr, sR tz27, sI (1 : Int32), sI y1_, sI y2_, sI y3_] [(.int cc), (.int y2_), (.ref tz27)])) rfl (by rw [hml]; rfl) (argsL := [(.ref tz27), (.int y2_), (.int cc)]) (rest := []) (lenOf pd__28Ljava_2flang_2fString_3bIC_29Z rfl) rfl (by show 2 * 0 + _ ≤ _; exact Nat.le_of_eq rfl) (hb hby at_294) (fun _ _ => ⟨rfl, e43, (by decide : 38 + 0 ≤ _), (by decide : 1593 + 0 ≤ _)⟩)
    dsimp only [Pt.U, Pt.locs, Pt.cells, Pt.slots] at X47 l47 y47 z47 st47 hQ47
    subst l47 y47 z47
    obtain ⟨rfl, N47q, HQ47⟩ := hQ47
    have N47 := Fr.app N43 N47q
    refine GoesW.pre (U' := T47.setTop (mkF m 297 #[sI p1, sI p2, sI p3, sI p4, sI nn, sI ca, sI cb, sI cc, sR jr, sR tz27, sI (1 : Int32), sI y1_, sI y2_, sI y3_] [(.int (1 : Int32))])) (fun t k => st47 t k) ?_
    have hc297 : ¬ ((1 : Int32) = (0 : Int32)) := by decide
    refine GoesW.pre (U' := T47.setTop (mkF m 302 #[sI p1, sI p2, sI p3, sI p4, sI nn, sI ca, sI cb, sI cc, sR jr, sR tz27, sI (1 : Int32), sI y1_, sI y2_, sI y3_] [])) (fun t k => XS.ifYes X47.here hx rfl (pc0 := 297) (pc' := 302) rfl (hb hby at_297) rfl ((if0 _ _).trans (feq hc297).2) (by decide) (by decide) k) ?_
    exact J302_45 _ _ X47 HQ47 N47 trivial
  intro T46 lc46 X46 e46 N46 _
  refine GoesW.pre (U' := T46.setTop (mkF m 303 #[sI p1, sI p2, sI p3, sI p4, sI nn, sI ca, sI cb, sI cc, sR jr, sR tz27, sI (1 : Int32), sI y1_, sI y2_, sI y3_] [(.int (1 : Int32))])) (fun t k => XS.iconst X46.here hx rfl (hb hby at_302) k) ?_
  refine GoesW.ret X46 hZ hEL hS hk H CR (v := (some (.int (1 : Int32)))) (fun h => by rw [hret] at h; cases h) hlk (by decide) (by decide) e46 (fun fs hr => retN X46 hx (t := .boolean) hret (by simp) (hb hby at_303) hr) ?_
  exact ⟨rfl, N46⟩
 ·
  refine GoesW.pre (U' := T43.setTop (mkF m 274 #[sI p1, sI p2, sI p3, sI p4, sI nn, sI ca, sI cb, sI cc, sR jr, sR tz27, sI (1 : Int32), sI y1_, sI y2_, sI y3_] [(.int cb), (.int y1_), (.ref tz27)])) (fun t k => XS.icmpNo X43.here hx rfl (hb hby at_265) rfl (flt hc265).1 (XS.aload X43.here hx rfl (hb hby at_268) rfl rfl (XS.iload X43.here hx rfl (hb hby at_270) rfl (XS.iload X43.here hx rfl (hb hby at_272) rfl k)))) ?_
  obtain ⟨_, _, ⟨T48, L48, k48, n48⟩, -, X48, ⟨Lc48, hQ48, l48, y48, z48⟩, st48⟩ := Jvm.LawKit.callS X43 hx (y := M41) hown (mvT hZ (wq hw 206 rfl)) (mvT hZ (wq hw 207 rfl)) (mvT hZ (wq hw 2 rfl)) (mvT hZ (wq hw 208 rfl)) (by decide) (backOf (W := 0) (rm_ok l Z a0 hw [] tz27 tb27 kt27 sl y1_ cb cs sf T27.heap n0 Z28 S_tz27 sC sA sH sL sF hsl4 (own_okp2 hcl hc265 hy1_ hq5) hcs hsf O) hZ (wq hw 208 rfl) (wq hw 2 rfl) (by decide) (by decide)) (g := (mkF m 274 #[sI p1, sI p2, sI p3, sI p4, sI nn, sI ca, sI cb, sI cc, sR jr, sR tz27, sI (1 : Int32), sI y1_, sI y2_, sI y3_] [(.int cb), (.int y1_), (.ref tz27)])) rfl (by rw [hml]; rfl) (argsL := [(.ref tz27), (.int y1_), (.int cb)]) (rest := []) (lenOf pd__28Ljava_2flang_2fString_3bIC_29Z rfl) rfl (by show 2 * 0 + _ ≤ _; exact Nat.le_of_eq rfl) (hb hby at_274) (fun _ _ => ⟨rfl, e43, (by decide : 38 + 0 ≤ _), (by decide : 1593 + 0 ≤ _)⟩)
  dsimp only [Pt.U, Pt.locs, Pt.cells, Pt.slots] at X48 l48 y48 z48 st48 hQ48
  subst l48 y48 z48
  obtain ⟨rfl, N48q, HQ48⟩ := hQ48
  have N48 := Fr.app N43 N48q
  refine GoesW.pre (U' := T48.setTop (mkF m 277 #[sI p1, sI p2, sI p3, sI p4, sI nn, sI ca, sI cb, sI cc, sR jr, sR tz27, sI (1 : Int32), sI y1_, sI y2_, sI y3_] [(.int (1 : Int32))])) (fun t k => st48 t k) ?_
  have hc277 : ¬ ((1 : Int32) = (0 : Int32)) := by decide
  refine GoesW.pre (U' := T48.setTop (mkF m 285 #[sI p1, sI p2, sI p3, sI p4, sI nn, sI ca, sI cb, sI cc, sR jr, sR tz27, sI (1 : Int32), sI y1_, sI y2_, sI y3_] [(.int (3 : Int32)), (.int nn)])) (fun t k => XS.ifYes X48.here hx rfl (pc0 := 277) (pc' := 282) rfl (hb hby at_277) rfl ((if0 _ _).trans (feq hc277).2) (by decide) (by decide) (XS.iload X48.here hx rfl (hb hby at_282) rfl (XS.iconst X48.here hx rfl (hb hby at_284) k))) ?_
  by_cases hc285 : nn < (3 : Int32)
  ·
   refine GoesW.pre (U' := T48.setTop (mkF m 303 #[sI p1, sI p2, sI p3, sI p4, sI nn, sI ca, sI cb, sI cc, sR jr, sR tz27, sI (1 : Int32), sI y1_, sI y2_, sI y3_] [(.int (1 : Int32))])) (fun t k => XS.icmpYes X48.here hx rfl (pc0 := 285) (pc' := 302) rfl (hb hby at_285) rfl (tlt hc285).1 (by decide) (by decide) (XS.iconst X48.here hx rfl (hb hby at_302) k)) ?_
   refine GoesW.ret X48 hZ hEL hS hk H CR (v := (some (.int (1 : Int32)))) (fun h => by rw [hret] at h; cases h) hlk (by decide) (by decide) HQ48 (fun fs hr => retN X48 hx (t := .boolean) hret (by simp) (hb hby at_303) hr) ?_
   exact ⟨rfl, N48⟩
  ·
   refine GoesW.pre (U' := T48.setTop (mkF m 294 #[sI p1, sI p2, sI p3, sI p4, sI nn, sI ca, sI cb, sI cc, sR jr, sR tz27, sI (1 : Int32), sI y1_, sI y2_, sI y3_] [(.int cc), (.int y2_), (.ref tz27)])) (fun t k => XS.icmpNo X48.here hx rfl (hb hby at_285) rfl (flt hc285).1 (XS.aload X48.here hx rfl (hb hby at_288) rfl rfl (XS.iload X48.here hx rfl (hb hby at_290) rfl (XS.iload X48.here hx rfl (hb hby at_292) rfl k)))) ?_
   obtain ⟨_, _, ⟨T49, L49, k49, n49⟩, -, X49, ⟨Lc49, hQ49, l49, y49, z49⟩, st49⟩ := Jvm.LawKit.callS X48 hx (y := M41) hown (mvT hZ (wq hw 206 rfl)) (mvT hZ (wq hw 207 rfl)) (mvT hZ (wq hw 2 rfl)) (mvT hZ (wq hw 208 rfl)) (by decide) (backOf (W := 0) (rm_ok l Z a0 hw [] tz27 tb27 kt27 sl y2_ cc cs sf T27.heap n0 Z28 S_tz27 sC sA sH sL sF hsl4 (own_okp3 hcl hc285 hy2_ hq5) hcs hsf O) hZ (wq hw 208 rfl) (wq hw 2 rfl) (by decide) (by decide)) (g := (mkF m 294 #[sI p1, sI p2, sI p3, sI p4, sI nn, sI ca, sI cb, sI cc, sR jr, sR tz27, sI (1 : Int32), sI y1_, sI y2_, sI y3_] [(.int cc), (.int y2_), (.ref tz27)])) rfl (by rw [hml]; rfl) (argsL := [(.ref tz27), (.int y2_), (.int cc)]) (rest := []) (lenOf pd__28Ljava_2flang_2fString_3bIC_29Z rfl) rfl (by show 2 * 0 + _ ≤ _; exact Nat.le_of_eq rfl) (hb hby at_294) (fun _ _ => ⟨rfl, HQ48, (by decide : 38 + 0 ≤ _), (by decide : 1593 + 0 ≤ _)⟩)
   dsimp only [Pt.U, Pt.locs, Pt.cells, Pt.slots] at X49 l49 y49 z49 st49 hQ49
   subst l49 y49 z49
   obtain ⟨rfl, N49q, HQ49⟩ := hQ49
   have N49 := Fr.app N48 N49q
   refine GoesW.pre (U' := T49.setTop (mkF m 297 #[sI p1, sI p2, sI p3, sI p4, sI nn, sI ca, sI cb, sI cc, sR jr, sR tz27, sI (1 : Int32), sI y1_, sI y2_, sI y3_] [(.int (1 : Int32))])) (fun t k => st49 t k) ?_
   have hc297 : ¬ ((1 : Int32) = (0 : Int32)) := by decide
   refine GoesW.pre (U' := T49.setTop (mkF m 303 #[sI p1, sI p2, sI p3, sI p4, sI nn, sI ca, sI cb, sI cc, sR jr, sR tz27, sI (1 : Int32), sI y1_, sI y2_, sI y3_] [(.int (1 : Int32))])) (fun t k => XS.ifYes X49.here hx rfl (pc0 := 297) (pc' := 302) rfl (hb hby at_297) rfl ((if0 _ _).trans (feq hc297).2) (by decide) (by decide) (XS.iconst X49.here hx rfl (hb hby at_302) k)) ?_
   refine GoesW.ret X49 hZ hEL hS hk H CR (v := (some (.int (1 : Int32)))) (fun h => by rw [hret] at h; cases h) hlk (by decide) (by decide) HQ49 (fun fs hr => retN X49 hx (t := .boolean) hret (by simp) (hb hby at_303) hr) ?_
   exact ⟨rfl, N49⟩
theorem own_stat {Z : State} {args : Array Value} {t : Term} {k : Int32} (w : (Cond.eq t (Term.int k)).value args Z none Z [] = some true) : t.eval args Z none [] Z = some (.int k) := by
  obtain ⟨x, y, e1, e2, k1, -⟩ := cmp_v (Or.inl w)
  have e3 : y = .int k := (Option.some.inj (e2.symm.trans (Term.int_eval k)))
  subst e3
  have e4 : ∃ i, x = .int i := by
    have w' := w
    simp only [Cond.value, e1, e2] at w'
    cases x <;> simp at w' ⊢
  obtain ⟨i, rfl⟩ := e4
  rw [e1, gotT (Cond.eq_ints e1 e2) w]
set_option maxRecDepth 65536 in
set_option maxHeartbeats 40000000 in
theorem comes_1 {Post : Tables → Env → Array Value → State → Outcome → State → Prop} (hpost : ∀ tb e args s v u, (limb_1_1.after args s (.returned v) u = true ∧ limb_1_2.after args s (.returned v) u = true ∧ True) → ReturnedEndW s (.returned v) u (Jvm.fieldLocs frame_1_writes args s ++ Jvm.arrayLocs frame_1_arrays args s ++ Jvm.staticLocs frame_1_statics s) 40 4480 → Post tb e args s (.returned v) u) :
    ArmFor flags0 classFile x code maxLocals ret World_1 tables_1 room_1 Calls_1 rest_1 Pre_1 Post := by
  intro l hfl _ _ p e ha hc hk s m args below hf hA hF happ hP
  obtain ⟨hcalls, hrest, hpre⟩ := hP
  obtain ⟨-, -, -, hnamed, -, -, -, hat⟩ := (Spec.applies_iff hf).mp happ
  obtain ⟨hg, hn⟩ := and_e (Cond.before_iff.mp (show (Jvm.Cond.and given_1 narrow_1).before args s = true from hpre))
  obtain ⟨g1, g2⟩ := and_e hg
  obtain ⟨g3, g4⟩ := and_e g2
  obtain ⟨g5, g6⟩ := and_e g4
  obtain ⟨g7, g8⟩ := and_e g6
  obtain ⟨w0, w1, w2, w3, rfl⟩ : ∃ w0 w1 w2 w3 : Value, args = #[w0, w1, w2, w3] := by
    have hs : args.size = 4 := by simpa [Cond.value, given_1] using g1
    obtain ⟨L⟩ := args
    match L, hs with
    | [w0, w1, w2, w3], _ => exact ⟨w0, w1, w2, w3, rfl⟩
  have hw := fun d (hd : d ∈ tables_1) => atoms_spec (ws := Jvm.Cond.code x code maxLocals ret :: tables_1) hat d (List.mem_cons_of_mem _ hd)
  have hfit : Fit s := fun {y c} hc i hi => by
    obtain ⟨ha, rfl⟩ := Array.getElem?_eq_some_iff.mp hc
    have q := List.all_eq_true.mp ((Array.all_eq_true_iff_forall_mem.mp hF) _ (Array.getElem_mem ha)) i (List.mem_range.mpr hi)
    simpa [Array.getElem?_eq_getElem hi] using q
  obtain ⟨hsets, hown0⟩ := atoms_of _ (rest_1_c_eq ▸ (show rest_1_c.before _ s = true from hrest))
  have hr0 := Cond.before_iff.mp hown0
  obtain ⟨i0, ei0⟩ := is_v g3
  obtain rfl : w0 = (.int i0) := Option.some.inj ei0
  obtain ⟨i1, ei1⟩ := is_v g5
  obtain rfl : w1 = (.int i1) := Option.some.inj ei1
  obtain ⟨i2, ei2⟩ := is_v g7
  obtain rfl : w2 = (.int i2) := Option.some.inj ei2
  obtain ⟨i3, ei3⟩ := is_v g8
  obtain rfl : w3 = (.int i3) := Option.some.inj ei3
  obtain ⟨cs, ecs⟩ := is_v (Cond.before_iff.mp (hsets _ (List.mem_of_getElem? (i := 1) rfl)))
  have S_CS : Sta s s.heap "java/lang/String" "COMPACT_STRINGS" "Z" (.int cs) := Sta.start ecs (Or.inl (hsets _ (List.mem_of_getElem? (i := 0) rfl)))
  have hcs : ¬ (cs = (0 : Int32)) := gotF (Cond.eq_ints ecs (Term.int_eval (0))) (not_v (Cond.before_iff.mp (hsets _ (List.mem_of_getElem? (i := 2) rfl))))
  obtain ⟨sf, esf, hsf⟩ := isR_v (Cond.before_iff.mp (hsets _ (List.mem_of_getElem? (i := 8) rfl)))
  have S_SF : Sta s s.heap "jdk/internal/util/Preconditions" "SIOOBE_FORMATTER" "Ljava/util/function/BiFunction;" sf := Sta.start esf (Or.inl (hsets _ (List.mem_of_getElem? (i := 7) rfl)))
  have S_AD : Sta s s.heap "java/lang/StringUTF16" "$assertionsDisabled" "Z" (.int (1 : Int32)) := Sta.start (own_stat (Cond.before_iff.mp (hsets _ (List.mem_of_getElem? (i := 12) rfl)))) (Or.inl (hsets _ (List.mem_of_getElem? (i := 11) rfl)))
  have S_HI : Sta s s.heap "java/lang/StringUTF16" "HI_BYTE_SHIFT" "I" (.int (0 : Int32)) := Sta.start (own_stat (Cond.before_iff.mp (hsets _ (List.mem_of_getElem? (i := 15) rfl)))) (Or.inl (hsets _ (List.mem_of_getElem? (i := 14) rfl)))
  have S_LO : Sta s s.heap "java/lang/StringUTF16" "LO_BYTE_SHIFT" "I" (.int (8 : Int32)) := Sta.start (own_stat (Cond.before_iff.mp (hsets _ (List.mem_of_getElem? (i := 18) rfl)))) (Or.inl (hsets _ (List.mem_of_getElem? (i := 17) rfl)))
  have hEL : EW s _ own_EL := (EW.cons (wq hw 172 rfl) (by decide) (EW.cons (wq hw 209 rfl) (by decide) (EW.cons (wq hw 257 rfl) (by decide) (EW.cons (wq hw 20 rfl) (by decide) EW.nil))))
  have hCH : CHv s own_EL s.vm s.heap := CHv.start hEL (fun p hp => hcalls.1 p hp) (hsets _ (List.mem_of_getElem? (i := 2) rfl)) (wq hw 21 rfl) (wq hw 7 rfl)
  obtain ⟨n, o, h1, h2, h3, _, L, rfl, ⟨rfl, N⟩, -, hq⟩ := rm0 l s _ hw hEL tables_1 i0 i1 i2 i3 cs sf s.heap s.heap.size (Nat.le_refl _) S_CS S_AD S_HI S_LO S_SF hcs hsf (Old.start s) p e ha hc hk s m _ below hf ((Spec.applies_iff_loose hf).mp happ).1 ⟨rfl, State.Warmed39.refl s, rfl, hCH, all0⟩ trivial
  refine ⟨n, _, h1, h2, h3, hpost _ _ _ _ _ _ ⟨Cond.after_iff.mpr rfl, Cond.after_iff.mpr (eq_i res_at (Term.int_eval (1)) rfl), trivial⟩ ⟨hq.1, hq.2.1, hq.2.2.1, (hq.2.2.2.sift fun y hy => Or.inr (N y hy)).mono (by decide) (by decide)⟩⟩
theorem main_1_1 : Claimed_1_1 := comes_1 fun _ _ _ _ _ _ h hF => ⟨h.1, hF⟩
theorem main_1_2 : Claimed_1_2 := comes_1 fun _ _ _ _ _ _ h hF => ⟨h.2.1, hF⟩
end Jvm.Pilot.@@N@@
namespace Jvm.Pilot.@@N@@
open Jvm Jvm.ClassFile Sem Op Lib Jvm.Free Jvm.Stand Jvm.Pilot.@@N@@.Jvm.D
/-! MADE BY PROGRAM (witnessworld.py) out of the Statement's table words and the real class files: 26 classes; the members and pool entries that the words name. The judged class is class 1, her method 1. -/
namespace start1
open Jvm.ClassFile
def u (s : String) : CpInfo := .utf8 (stringToUtf16 s)
/-- a pool by its gaps: so many unusable entries, then the entry; so many at the end -/
def gap : Nat → List CpInfo → List CpInfo
  | 0, r => r
  | n + 1, r => .unusable :: gap n r
def poolList (es : List (Nat × CpInfo)) (last : Nat) : List CpInfo := es.foldr (fun e r => gap e.1 (e.2 :: r)) (gap last [])
def pool (es : List (Nat × CpInfo)) (last : Nat) : Array CpInfo := ⟨poolList es last⟩
def fileOf (pool : Array CpInfo) (this : Nat) (attrs : Array Attribute := #[]) (ms : Array MethodInfo := #[]) (fl : Nat := 33) (sup : Nat := 0) (ifs : Array Nat := #[]) (fds : Array FieldInfo := #[]) : ClassFile where
  minorVersion := 0
  majorVersion := 65
  constantPool := pool
  accessFlags := fl
  thisClass := this
  superClass := sup
  interfaces := ifs
  fields := fds
  methods := ms
  attributes := attrs
def plain (name : String) (sup : Option ClassId) : Class where
  name := name
  kind := .ordinary
  loader := none
  accessFlags := 33
  super := sup
  interfaces := #[]
  cf := none
  fields := #[]
  methods := #[]
  instanceTypes := #[]
  staticTypes := #[]
  resolved := #[]
  callSites := []
  init := .initialized
  statics := none
  mirror := none

def pool0 : Array CpInfo := pool [(5, u "<init>"), (0, u "()V"), (1, .class_ 10), (1, u "java/lang/Object"), (85, u "clone"), (0, u "()Ljava/lang/Object;")] 26

def k0c0 : Code := { maxStack := 0, maxLocals := 1, code := object_method_1_code, exceptionTable := #[], attributes := #[] }
def k0m0 : Method := { name := "<init>", desc := "()V", sig := { parameters := [], returnType := none }, accessFlags := 1, code := some k0c0 }
def k0m1 : Method := { name := "clone", desc := "()Ljava/lang/Object;", sig := { parameters := [], returnType := some (.object "java/lang/Object") }, accessFlags := 260, code := none }
/-- java/lang/Object -/
def k0 : Class := { plain "java/lang/Object" none with
  accessFlags := 33
  interfaces := #[]
  cf := some (fileOf pool0 8 #[] #[{ accessFlags := 1, nameIndex := 5, descriptorIndex := 6, attributes := #[] }, { accessFlags := 260, nameIndex := 96, descriptorIndex := 97, attributes := #[] }] 33 0 #[] #[])
  fields := #[]
  methods := #[k0m0, k0m1]
  instanceTypes := #[]
  staticTypes := #[]
  resolved := Array.replicate 124 none
  statics := none }

def pool1 : Array CpInfo := pool [(2, .class_ 4), (1, u "java/lang/Object"), (0, u "<init>"), (0, u "()V"), (0, .methodref 8 9), (0, .class_ 10), (0, .nameAndType 11 12), (0, u "com/example/bnodiff/bnodiff/model/TermIriPinLaw"), (0, u "ch"), (0, u "(I)C"), (0, .class_ 14), (0, u "java/lang/String"), (0, .methodref 13 16), (0, .nameAndType 5 17), (0, u "([C)V"), (0, .methodref 19 20), (0, .class_ 21), (0, .nameAndType 22 23), (0, u "com/example/bnodiff/bnodiff/model/Term"), (0, u "iri"), (0, u "(Ljava/lang/String;)Lcom/example/bnodiff/bnodiff/model/Term;"), (0, .methodref 19 25), (0, .nameAndType 26 27), (0, u "toString"), (0, u "()Ljava/lang/String;"), (0, .methodref 8 29), (0, .nameAndType 30 31), (0, u "width"), (0, u "(C)I"), (0, .methodref 13 33), (0, .nameAndType 34 35), (0, u "length"), (0, u "()I"), (0, .methodref 13 37), (0, .nameAndType 38 12), (0, u "charAt"), (0, .methodref 8 40), (0, .nameAndType 41 42), (0, u "ok"), (0, u "(Ljava/lang/String;IC)Z"), (0, .integer 65536), (0, .integer 65535), (0, .methodref 8 46), (0, .nameAndType 47 48), (0, u "escaped"), (0, u "(C)Z"), (0, .methodref 8 50), (0, .nameAndType 51 12), (0, u "hex"), (2, u "law"), (0, u "(IIII)Z")] 3

def k1m0 : Method := { name := "<init>", desc := "()V", sig := { parameters := [], returnType := none }, accessFlags := 1, code := none }
def k1c1 : Code := { maxStack := 6, maxLocals := 14, code := code, exceptionTable := #[], attributes := #[] }
def k1m1 : Method := { name := "law", desc := "(IIII)Z", sig := { parameters := [.int, .int, .int, .int], returnType := some .boolean }, accessFlags := 9, code := some k1c1 }
def k1c2 : Code := { maxStack := 2, maxLocals := 1, code := method_3_code, exceptionTable := #[], attributes := #[] }
def k1m2 : Method := { name := "ch", desc := "(I)C", sig := { parameters := [.int], returnType := some .char }, accessFlags := 10, code := some k1c2 }
def k1c3 : Code := { maxStack := 2, maxLocals := 1, code := method_4_code, exceptionTable := #[], attributes := #[] }
def k1m3 : Method := { name := "escaped", desc := "(C)Z", sig := { parameters := [.char], returnType := some .boolean }, accessFlags := 10, code := some k1c3 }
def k1c4 : Code := { maxStack := 1, maxLocals := 1, code := method_5_code, exceptionTable := #[], attributes := #[] }
def k1m4 : Method := { name := "width", desc := "(C)I", sig := { parameters := [.char], returnType := some .int }, accessFlags := 10, code := some k1c4 }
def k1c5 : Code := { maxStack := 3, maxLocals := 1, code := method_6_code, exceptionTable := #[], attributes := #[] }
def k1m5 : Method := { name := "hex", desc := "(I)C", sig := { parameters := [.int], returnType := some .char }, accessFlags := 10, code := some k1c5 }
def k1c6 : Code := { maxStack := 3, maxLocals := 3, code := method_7_code, exceptionTable := #[], attributes := #[] }
def k1m6 : Method := { name := "ok", desc := "(Ljava/lang/String;IC)Z", sig := { parameters := [(.object "java/lang/String"), .int, .char], returnType := some .boolean }, accessFlags := 10, code := some k1c6 }
/-- com/example/bnodiff/bnodiff/model/TermIriPinLaw -/
def k1 : Class := { plain "com/example/bnodiff/bnodiff/model/TermIriPinLaw" (some 0) with
  accessFlags := 49
  interfaces := #[]
  cf := some (fileOf pool1 8 #[] #[{ accessFlags := 1, nameIndex := 5, descriptorIndex := 6, attributes := #[] }, { accessFlags := 9, nameIndex := 54, descriptorIndex := 55, attributes := #[] }, { accessFlags := 10, nameIndex := 11, descriptorIndex := 12, attributes := #[] }, { accessFlags := 10, nameIndex := 47, descriptorIndex := 48, attributes := #[] }, { accessFlags := 10, nameIndex := 30, descriptorIndex := 31, attributes := #[] }, { accessFlags := 10, nameIndex := 51, descriptorIndex := 12, attributes := #[] }, { accessFlags := 10, nameIndex := 41, descriptorIndex := 42, attributes := #[] }] 49 2 #[] #[])
  fields := #[]
  methods := #[k1m0, k1m1, k1m2, k1m3, k1m4, k1m5, k1m6]
  instanceTypes := #[]
  staticTypes := #[]
  resolved := Array.replicate 59 none
  statics := none }

def pool2 : Array CpInfo := pool [(1, .class_ 2), (0, u "java/io/Serializable"), (0, .class_ 4), (0, u "java/lang/Object")] 2

/-- java/io/Serializable -/
def k2 : Class := { plain "java/io/Serializable" (some 0) with
  accessFlags := 1537
  interfaces := #[]
  cf := some (fileOf pool2 1 #[] #[] 1537 3 #[] #[])
  fields := #[]
  methods := #[]
  instanceTypes := #[]
  staticTypes := #[]
  resolved := Array.replicate 7 none
  statics := none }

def pool3 : Array CpInfo := pool [(1, .class_ 2), (0, u "java/lang/Comparable"), (0, .class_ 4), (0, u "java/lang/Object")] 7

/-- java/lang/Comparable -/
def k3 : Class := { plain "java/lang/Comparable" (some 0) with
  accessFlags := 1537
  interfaces := #[]
  cf := some (fileOf pool3 1 #[] #[] 1537 3 #[] #[])
  fields := #[]
  methods := #[]
  instanceTypes := #[]
  staticTypes := #[]
  resolved := Array.replicate 12 none
  statics := none }

def pool4 : Array CpInfo := pool [(2, .class_ 4), (1, u "java/lang/CharSequence"), (42, .class_ 48), (0, u "java/lang/CharSequence$1CodePointIterator"), (10, .class_ 60), (0, u "java/lang/CharSequence$1CharIterator"), (5, .class_ 67), (0, u "java/lang/Object")] 63

/-- java/lang/CharSequence -/
def k4 : Class := { plain "java/lang/CharSequence" (some 0) with
  accessFlags := 1537
  interfaces := #[]
  cf := some (fileOf pool4 2 #[.nestMembers #[47, 59]] #[] 1537 66 #[] #[])
  fields := #[]
  methods := #[]
  instanceTypes := #[]
  staticTypes := #[]
  resolved := Array.replicate 131 none
  statics := none }

def pool5 : Array CpInfo := pool [(1, .class_ 2), (0, u "java/lang/constant/Constable"), (0, .class_ 4), (0, u "java/lang/Object")] 6

/-- java/lang/constant/Constable -/
def k5 : Class := { plain "java/lang/constant/Constable" (some 0) with
  accessFlags := 1537
  interfaces := #[]
  cf := some (fileOf pool5 1 #[] #[] 1537 3 #[] #[])
  fields := #[]
  methods := #[]
  instanceTypes := #[]
  staticTypes := #[]
  resolved := Array.replicate 11 none
  statics := none }

def pool6 : Array CpInfo := pool [(1, .class_ 2), (0, u "java/lang/constant/ConstantDesc"), (0, .class_ 4), (0, u "java/lang/Object")] 32

/-- java/lang/constant/ConstantDesc -/
def k6 : Class := { plain "java/lang/constant/ConstantDesc" (some 0) with
  accessFlags := 1537
  interfaces := #[]
  cf := some (fileOf pool6 1 #[] #[] 1537 3 #[] #[])
  fields := #[]
  methods := #[]
  instanceTypes := #[]
  staticTypes := #[]
  resolved := Array.replicate 37 none
  statics := none }

def pool7 : Array CpInfo := pool [(1, .methodref 2 3), (0, .class_ 4), (0, .nameAndType 5 6), (0, u "java/lang/Object"), (0, u "<init>"), (0, u "()V"), (0, .string 8), (0, u ""), (0, .fieldref 10 11), (0, .class_ 12), (0, .nameAndType 13 14), (0, u "java/lang/String"), (0, u "value"), (0, u "[B"), (0, .fieldref 10 16), (0, .nameAndType 17 18), (0, u "coder"), (0, u "B"), (2, u "hash"), (0, u "I"), (2, u "hashIsZero"), (0, u "Z"), (0, .methodref 10 28), (0, .nameAndType 5 29), (0, u "([CIILjava/lang/Void;)V"), (6, u "checkBoundsOffCount"), (0, u "(III)I"), (0, .fieldref 10 39), (0, .nameAndType 40 26), (0, u "COMPACT_STRINGS"), (1, .class_ 44), (1, u "java/lang/StringUTF16"), (0, u "compress"), (1, .methodref 42 48), (0, .nameAndType 49 50), (0, u "coderFromArrayLen"), (0, u "([BI)B"), (3, .methodref 55 56), (0, .class_ 57), (0, .nameAndType 58 59), (0, u "java/util/Arrays"), (0, u "copyOfRange"), (0, u "([BII)[B"), (46, .methodref 107 108), (0, .class_ 109), (0, .nameAndType 110 111), (0, u "java/lang/StringLatin1"), (0, u "inflate"), (0, u "([BI[BII)V"), (30, u "()Z"), (34, .methodref 42 178), (0, .nameAndType 45 179), (0, u "([CII)[B"), (13, .class_ 195), (1, u "java/lang/System"), (16, .methodref 193 213), (0, .nameAndType 214 215), (0, u "arraycopy"), (0, u "(Ljava/lang/Object;ILjava/lang/Object;II)V"), (118, u "()I"), (0, .methodref 10 336), (0, .nameAndType 17 337), (0, u "()B"), (2, u "()[B"), (22, u "([BI)C"), (27, u "(II)V"), (35, u "(I)C"), (61, .methodref 10 490), (0, .nameAndType 5 491), (0, u "(Ljava/lang/AbstractStringBuilder;Ljava/lang/Void;)V"), (0, .methodref 10 493), (0, .nameAndType 494 142), (0, u "isLatin1"), (0, .methodref 107 496), (0, .nameAndType 497 363), (0, u "charAt"), (0, .methodref 42 496), (2, u "checkIndex"), (3, .methodref 10 506), (0, .nameAndType 507 334), (0, u "length"), (24, u "getBytes"), (16, .methodref 550 506), (0, .class_ 551), (0, u "java/lang/AbstractStringBuilder"), (0, .methodref 550 553), (0, .nameAndType 554 340), (0, u "getValue"), (20, .class_ 576), (0, u "java/lang/CharSequence"), (22, u "CASE_INSENSITIVE_ORDER"), (0, u "Ljava/util/Comparator;"), (32, .methodref 10 634), (0, .nameAndType 635 636), (0, u "indexOf"), (0, u "(II)I"), (0, .methodref 107 638), (0, .nameAndType 635 639), (0, u "([BIII)I"), (125, u "(I)I"), (55, u "([BIB)V"), (188, u "([C)V"), (36, .methodref 550 493), (0, .fieldref 550 1049), (0, .nameAndType 1050 26), (0, u "maybeLatin1"), (2, .fieldref 1054 1055), (0, .class_ 1056), (0, .nameAndType 1057 1058), (0, u "jdk/internal/util/Preconditions"), (0, u "SIOOBE_FORMATTER"), (0, u "Ljava/util/function/BiFunction;"), (0, .methodref 1054 1060), (0, .nameAndType 501 1061), (0, u "(IILjava/util/function/BiFunction;)I"), (2, u "(IIILjava/util/function/BiFunction;)I"), (0, .methodref 1054 1066), (0, .nameAndType 1067 1064), (0, u "checkFromIndexSize"), (33, u "serialPersistentFields"), (0, u "[Ljava/io/ObjectStreamField;"), (0, .class_ 1104), (0, u "java/lang/String$CaseInsensitiveComparator"), (1, .class_ 1107), (0, u "java/io/Serializable"), (0, .class_ 1109), (0, u "java/lang/Comparable"), (0, .class_ 1111), (0, u "java/lang/constant/Constable"), (0, .class_ 1113), (0, u "java/lang/constant/ConstantDesc"), (2, u "serialVersionUID"), (0, u "J"), (3, u "REPL"), (0, u "C"), (2, u "LATIN1"), (1, u "UTF16"), (105, u "(Ljava/lang/StringBuilder;)V")] 217

def k7m0 : Method := { name := "<init>", desc := "()V", sig := { parameters := [], returnType := none }, accessFlags := 1, code := none }
def k7c1 : Code := { maxStack := 5, maxLocals := 2, code := jdk_42_method_3_code, exceptionTable := #[], attributes := #[] }
def k7m1 : Method := { name := "<init>", desc := "([C)V", sig := { parameters := [(.array .char)], returnType := none }, accessFlags := 1, code := some k7c1 }
def k7c2 : Code := { maxStack := 3, maxLocals := 2, code := jdk_42_method_53_code, exceptionTable := #[], attributes := #[] }
def k7m2 : Method := { name := "<init>", desc := "(Ljava/lang/StringBuilder;)V", sig := { parameters := [(.object "java/lang/StringBuilder")], returnType := none }, accessFlags := 1, code := some k7c2 }
def k7c3 : Code := { maxStack := 2, maxLocals := 1, code := jdk_42_method_54_code, exceptionTable := #[], attributes := #[] }
def k7m3 : Method := { name := "length", desc := "()I", sig := { parameters := [], returnType := some .int }, accessFlags := 1, code := some k7c3 }
def k7c4 : Code := { maxStack := 2, maxLocals := 2, code := jdk_42_method_56_code, exceptionTable := #[], attributes := #[] }
def k7m4 : Method := { name := "charAt", desc := "(I)C", sig := { parameters := [.int], returnType := some .char }, accessFlags := 1, code := some k7c4 }
def k7c5 : Code := { maxStack := 3, maxLocals := 2, code := jdk_42_method_79_code, exceptionTable := #[], attributes := #[] }
def k7m5 : Method := { name := "indexOf", desc := "(I)I", sig := { parameters := [.int], returnType := some .int }, accessFlags := 1, code := some k7c5 }
def k7c6 : Code := { maxStack := 4, maxLocals := 3, code := jdk_42_method_80_code, exceptionTable := #[], attributes := #[] }
def k7m6 : Method := { name := "indexOf", desc := "(II)I", sig := { parameters := [.int, .int], returnType := some .int }, accessFlags := 1, code := some k7c6 }
def k7c7 : Code := { maxStack := 5, maxLocals := 4, code := jdk_42_method_147_code, exceptionTable := #[], attributes := #[] }
def k7m7 : Method := { name := "getBytes", desc := "([BIB)V", sig := { parameters := [(.array .byte), .int, .byte], returnType := none }, accessFlags := 0, code := some k7c7 }
def k7c8 : Code := { maxStack := 4, maxLocals := 6, code := jdk_42_method_149_code, exceptionTable := #[], attributes := #[] }
def k7m8 : Method := { name := "<init>", desc := "([CIILjava/lang/Void;)V", sig := { parameters := [(.array .char), .int, .int, (.object "java/lang/Void")], returnType := none }, accessFlags := 2, code := some k7c8 }
def k7c9 : Code := { maxStack := 5, maxLocals := 5, code := jdk_42_method_150_code, exceptionTable := #[], attributes := #[] }
def k7m9 : Method := { name := "<init>", desc := "(Ljava/lang/AbstractStringBuilder;Ljava/lang/Void;)V", sig := { parameters := [(.object "java/lang/AbstractStringBuilder"), (.object "java/lang/Void")], returnType := none }, accessFlags := 0, code := some k7c9 }
def k7c10 : Code := { maxStack := 1, maxLocals := 1, code := jdk_42_method_152_code, exceptionTable := #[], attributes := #[] }
def k7m10 : Method := { name := "coder", desc := "()B", sig := { parameters := [], returnType := some .byte }, accessFlags := 0, code := some k7c10 }
def k7c11 : Code := { maxStack := 1, maxLocals := 1, code := jdk_42_method_154_code, exceptionTable := #[], attributes := #[] }
def k7m11 : Method := { name := "isLatin1", desc := "()Z", sig := { parameters := [], returnType := some .boolean }, accessFlags := 0, code := some k7c11 }
def k7c12 : Code := { maxStack := 3, maxLocals := 2, code := jdk_42_method_155_code, exceptionTable := #[], attributes := #[] }
def k7m12 : Method := { name := "checkIndex", desc := "(II)V", sig := { parameters := [.int, .int], returnType := none }, accessFlags := 8, code := some k7c12 }
def k7c13 : Code := { maxStack := 4, maxLocals := 3, code := jdk_42_method_157_code, exceptionTable := #[], attributes := #[] }
def k7m13 : Method := { name := "checkBoundsOffCount", desc := "(III)I", sig := { parameters := [.int, .int, .int], returnType := some .int }, accessFlags := 8, code := some k7c13 }
/-- java/lang/String -/
def k7 : Class := { plain "java/lang/String" (some 0) with
  accessFlags := 49
  interfaces := #[2, 3, 4, 5, 6]
  cf := some (fileOf pool7 10 #[.nestMembers #[1103]] #[{ accessFlags := 1, nameIndex := 5, descriptorIndex := 6, attributes := #[] }, { accessFlags := 1, nameIndex := 5, descriptorIndex := 1010, attributes := #[] }, { accessFlags := 1, nameIndex := 5, descriptorIndex := 1233, attributes := #[] }, { accessFlags := 1, nameIndex := 507, descriptorIndex := 334, attributes := #[] }, { accessFlags := 1, nameIndex := 497, descriptorIndex := 427, attributes := #[] }, { accessFlags := 1, nameIndex := 635, descriptorIndex := 765, attributes := #[] }, { accessFlags := 1, nameIndex := 635, descriptorIndex := 636, attributes := #[] }, { accessFlags := 0, nameIndex := 532, descriptorIndex := 821, attributes := #[] }, { accessFlags := 2, nameIndex := 5, descriptorIndex := 29, attributes := #[] }, { accessFlags := 0, nameIndex := 5, descriptorIndex := 491, attributes := #[] }, { accessFlags := 0, nameIndex := 17, descriptorIndex := 337, attributes := #[] }, { accessFlags := 0, nameIndex := 494, descriptorIndex := 142, attributes := #[] }, { accessFlags := 8, nameIndex := 501, descriptorIndex := 391, attributes := #[] }, { accessFlags := 8, nameIndex := 36, descriptorIndex := 37, attributes := #[] }] 49 2 #[1106, 1108, 575, 1110, 1112] #[{ accessFlags := 18, nameIndex := 13, descriptorIndex := 14, attributes := #[] }, { accessFlags := 18, nameIndex := 17, descriptorIndex := 18, attributes := #[] }, { accessFlags := 2, nameIndex := 21, descriptorIndex := 22, attributes := #[] }, { accessFlags := 2, nameIndex := 25, descriptorIndex := 26, attributes := #[] }, { accessFlags := 26, nameIndex := 1116, descriptorIndex := 1117, attributes := #[] }, { accessFlags := 24, nameIndex := 40, descriptorIndex := 26, attributes := #[] }, { accessFlags := 26, nameIndex := 1101, descriptorIndex := 1102, attributes := #[] }, { accessFlags := 26, nameIndex := 1121, descriptorIndex := 1122, attributes := #[] }, { accessFlags := 25, nameIndex := 599, descriptorIndex := 600, attributes := #[] }, { accessFlags := 24, nameIndex := 1125, descriptorIndex := 18, attributes := #[] }, { accessFlags := 24, nameIndex := 1127, descriptorIndex := 18, attributes := #[] }])
  fields := #[{ name := "value", type := (.array .byte), accessFlags := 18, slot := 0, constantValue := 0 }, { name := "coder", type := .byte, accessFlags := 18, slot := 1, constantValue := 0 }, { name := "hash", type := .int, accessFlags := 2, slot := 2, constantValue := 0 }, { name := "hashIsZero", type := .boolean, accessFlags := 2, slot := 3, constantValue := 0 }, { name := "serialVersionUID", type := .long, accessFlags := 26, slot := 0, constantValue := 0 }, { name := "COMPACT_STRINGS", type := .boolean, accessFlags := 24, slot := 1, constantValue := 0 }, { name := "serialPersistentFields", type := (.array (.object "java/io/ObjectStreamField")), accessFlags := 26, slot := 2, constantValue := 0 }, { name := "REPL", type := .char, accessFlags := 26, slot := 3, constantValue := 0 }, { name := "CASE_INSENSITIVE_ORDER", type := (.object "java/util/Comparator"), accessFlags := 25, slot := 4, constantValue := 0 }, { name := "LATIN1", type := .byte, accessFlags := 24, slot := 5, constantValue := 0 }, { name := "UTF16", type := .byte, accessFlags := 24, slot := 6, constantValue := 0 }]
  methods := #[k7m0, k7m1, k7m2, k7m3, k7m4, k7m5, k7m6, k7m7, k7m8, k7m9, k7m10, k7m11, k7m12, k7m13]
  instanceTypes := #[(.array .byte), .byte, .int, .boolean]
  staticTypes := #[.long, .boolean, (.array (.object "java/io/ObjectStreamField")), .char, (.object "java/util/Comparator"), .byte, .byte]
  resolved := Array.replicate 1451 none
  statics := some 0 }

def pool8 : Array CpInfo := pool [(1, .methodref 2 3), (0, .class_ 4), (0, .nameAndType 5 6), (0, u "java/lang/Object"), (0, u "<init>"), (0, u "()V"), (0, .fieldref 8 9), (0, .class_ 10), (0, .nameAndType 11 12), (0, u "com/example/bnodiff/bnodiff/model/Term"), (0, u "text"), (0, u "Ljava/lang/String;"), (0, .class_ 14), (0, u "java/lang/StringBuilder"), (0, .methodref 16 17), (0, .class_ 18), (0, .nameAndType 19 20), (0, u "java/lang/String"), (0, u "length"), (0, u "()I"), (0, .methodref 13 22), (0, .nameAndType 5 23), (0, u "(I)V"), (0, .methodref 13 25), (0, .nameAndType 26 27), (0, u "append"), (0, u "(C)Ljava/lang/StringBuilder;"), (0, .methodref 16 29), (0, .nameAndType 30 31), (0, u "charAt"), (0, u "(I)C"), (0, .string 33), (0, u "<>\"{}|^`\\"), (0, .methodref 16 35), (0, .nameAndType 36 37), (0, u "indexOf"), (0, u "(I)I"), (0, .string 39), (0, u "\\u00"), (0, .methodref 13 41), (0, .nameAndType 26 42), (0, u "(Ljava/lang/String;)Ljava/lang/StringBuilder;"), (0, .string 44), (0, u "0123456789ABCDEF"), (0, .methodref 13 46), (0, .nameAndType 47 48), (0, u "toString"), (0, u "()Ljava/lang/String;"), (0, .methodref 8 50), (0, .nameAndType 5 51), (0, u "(Ljava/lang/String;)V"), (12, u "iri"), (0, u "(Ljava/lang/String;)Lcom/example/bnodiff/bnodiff/model/Term;"), (73, u "XSD_STRING"), (1, u "BLANK_PREFIX"), (0, u "HEX_DIGITS")] 47

def k8c0 : Code := { maxStack := 2, maxLocals := 2, code := prog_54_method_1_code, exceptionTable := #[], attributes := #[] }
def k8m0 : Method := { name := "<init>", desc := "(Ljava/lang/String;)V", sig := { parameters := [(.object "java/lang/String")], returnType := none }, accessFlags := 2, code := some k8c0 }
def k8c1 : Code := { maxStack := 4, maxLocals := 4, code := prog_54_method_2_code, exceptionTable := #[], attributes := #[] }
def k8m1 : Method := { name := "iri", desc := "(Ljava/lang/String;)Lcom/example/bnodiff/bnodiff/model/Term;", sig := { parameters := [(.object "java/lang/String")], returnType := some (.object "com/example/bnodiff/bnodiff/model/Term") }, accessFlags := 9, code := some k8c1 }
def k8c2 : Code := { maxStack := 1, maxLocals := 1, code := prog_54_method_10_code, exceptionTable := #[], attributes := #[] }
def k8m2 : Method := { name := "toString", desc := "()Ljava/lang/String;", sig := { parameters := [], returnType := some (.object "java/lang/String") }, accessFlags := 1, code := some k8c2 }
/-- com/example/bnodiff/bnodiff/model/Term -/
def k8 : Class := { plain "com/example/bnodiff/bnodiff/model/Term" (some 0) with
  accessFlags := 49
  interfaces := #[]
  cf := some (fileOf pool8 8 #[] #[{ accessFlags := 2, nameIndex := 5, descriptorIndex := 51, attributes := #[] }, { accessFlags := 9, nameIndex := 64, descriptorIndex := 65, attributes := #[] }, { accessFlags := 1, nameIndex := 47, descriptorIndex := 48, attributes := #[] }] 49 2 #[] #[{ accessFlags := 25, nameIndex := 139, descriptorIndex := 12, attributes := #[] }, { accessFlags := 26, nameIndex := 141, descriptorIndex := 12, attributes := #[] }, { accessFlags := 26, nameIndex := 142, descriptorIndex := 12, attributes := #[] }, { accessFlags := 18, nameIndex := 11, descriptorIndex := 12, attributes := #[] }])
  fields := #[{ name := "XSD_STRING", type := (.object "java/lang/String"), accessFlags := 25, slot := 0, constantValue := 0 }, { name := "BLANK_PREFIX", type := (.object "java/lang/String"), accessFlags := 26, slot := 1, constantValue := 0 }, { name := "HEX_DIGITS", type := (.object "java/lang/String"), accessFlags := 26, slot := 2, constantValue := 0 }, { name := "text", type := (.object "java/lang/String"), accessFlags := 18, slot := 0, constantValue := 0 }]
  methods := #[k8m0, k8m1, k8m2]
  instanceTypes := #[(.object "java/lang/String")]
  staticTypes := #[(.object "java/lang/String"), (.object "java/lang/String"), (.object "java/lang/String")]
  resolved := Array.replicate 190 none
  statics := none }

def pool9 : Array CpInfo := pool [(1, .class_ 2), (0, u "java/lang/Appendable"), (0, .class_ 4), (0, u "java/lang/Object")] 9

/-- java/lang/Appendable -/
def k9 : Class := { plain "java/lang/Appendable" (some 0) with
  accessFlags := 1537
  interfaces := #[]
  cf := some (fileOf pool9 1 #[] #[] 1537 3 #[] #[])
  fields := #[]
  methods := #[]
  instanceTypes := #[]
  staticTypes := #[]
  resolved := Array.replicate 14 none
  statics := none }

def pool10 : Array CpInfo := pool [(1, .class_ 2), (0, u "java/lang/String"), (0, .methodref 4 5), (0, .class_ 6), (0, .nameAndType 7 8), (0, u "java/lang/Object"), (0, u "<init>"), (0, u "()V"), (1, .class_ 12), (1, u "java/lang/AbstractStringBuilder"), (0, u "EMPTYVALUE"), (0, u "[B"), (0, .fieldref 10 16), (0, .nameAndType 17 14), (0, u "value"), (0, .fieldref 1 19), (0, .nameAndType 20 21), (0, u "COMPACT_STRINGS"), (0, u "Z"), (0, .fieldref 10 23), (0, .nameAndType 24 25), (0, u "coder"), (0, u "B"), (0, .methodref 27 28), (0, .class_ 29), (0, .nameAndType 30 31), (0, u "java/lang/StringUTF16"), (0, u "newBytesFor"), (0, u "(I)[B"), (0, .methodref 1 33), (0, .nameAndType 34 35), (0, u "length"), (0, u "()I"), (3, .integer 2147483647), (0, .methodref 1 41), (0, .nameAndType 24 42), (0, u "()B"), (2, u "append"), (0, u "(Ljava/lang/String;)Ljava/lang/AbstractStringBuilder;"), (1, .class_ 49), (0, u "java/lang/CharSequence"), (19, u "(Ljava/lang/String;)V"), (5, u "maybeLatin1"), (3, .fieldref 10 80), (0, .nameAndType 81 82), (0, u "count"), (0, u "I"), (0, .methodref 10 84), (0, .nameAndType 85 86), (0, u "isLatin1"), (0, u "()Z"), (1, .class_ 90), (1, u "java/lang/StringLatin1"), (9, .methodref 10 101), (0, .nameAndType 102 103), (0, u "ensureCapacityInternal"), (0, u "(I)V"), (0, .methodref 10 105), (0, .nameAndType 106 107), (0, u "newCapacity"), (0, u "(I)I"), (0, .methodref 109 110), (0, .class_ 111), (0, .nameAndType 112 113), (0, u "java/util/Arrays"), (0, u "copyOf"), (0, u "([BI)[B"), (0, .methodref 115 116), (0, .class_ 117), (0, .nameAndType 118 119), (0, u "jdk/internal/util/ArraysSupport"), (0, u "newLength"), (0, u "(III)I"), (5, .methodref 88 126), (0, .nameAndType 127 128), (0, u "inflate"), (0, u "([BI[BII)V"), (7, u "([BII)V"), (54, .methodref 88 192), (0, .nameAndType 193 194), (0, u "canEncode"), (0, u "(C)Z"), (0, .methodref 10 196), (0, .nameAndType 127 8), (0, .methodref 27 198), (0, .nameAndType 199 136), (0, u "putCharSB"), (8, .methodref 10 209), (0, .nameAndType 210 211), (0, u "putStringAt"), (0, u "(ILjava/lang/String;)V"), (5, u "inflateIfNeededFor"), (2, .nameAndType 221 222), (0, u "getBytes"), (0, u "([BIB)V"), (69, u "(C)Ljava/lang/AbstractStringBuilder;"), (104, .methodref 10 398), (0, .nameAndType 217 69), (0, .methodref 1 220), (3, u "()[B"), (40, .class_ 445), (0, u "java/lang/Appendable"), (106, u "getValue")] 56

def k10m0 : Method := { name := "<init>", desc := "()V", sig := { parameters := [], returnType := none }, accessFlags := 0, code := none }
def k10c1 : Code := { maxStack := 2, maxLocals := 2, code := jdk_68_method_2_code, exceptionTable := #[], attributes := #[] }
def k10m1 : Method := { name := "<init>", desc := "(I)V", sig := { parameters := [.int], returnType := none }, accessFlags := 0, code := some k10c1 }
def k10c2 : Code := { maxStack := 1, maxLocals := 1, code := jdk_68_method_6_code, exceptionTable := #[], attributes := #[] }
def k10m2 : Method := { name := "length", desc := "()I", sig := { parameters := [], returnType := some .int }, accessFlags := 1, code := some k10c2 }
def k10c3 : Code := { maxStack := 4, maxLocals := 3, code := jdk_68_method_9_code, exceptionTable := #[], attributes := #[] }
def k10m3 : Method := { name := "ensureCapacityInternal", desc := "(I)V", sig := { parameters := [.int], returnType := none }, accessFlags := 2, code := some k10c3 }
def k10c4 : Code := { maxStack := 5, maxLocals := 6, code := jdk_68_method_10_code, exceptionTable := #[], attributes := #[] }
def k10m4 : Method := { name := "newCapacity", desc := "(I)I", sig := { parameters := [.int], returnType := some .int }, accessFlags := 2, code := some k10c4 }
def k10c5 : Code := { maxStack := 5, maxLocals := 2, code := jdk_68_method_11_code, exceptionTable := #[], attributes := #[] }
def k10m5 : Method := { name := "inflate", desc := "()V", sig := { parameters := [], returnType := none }, accessFlags := 2, code := some k10c5 }
def k10c6 : Code := { maxStack := 3, maxLocals := 3, code := jdk_68_method_22_code, exceptionTable := #[], attributes := #[] }
def k10m6 : Method := { name := "append", desc := "(Ljava/lang/String;)Ljava/lang/AbstractStringBuilder;", sig := { parameters := [(.object "java/lang/String")], returnType := some (.object "java/lang/AbstractStringBuilder") }, accessFlags := 1, code := some k10c6 }
def k10c7 : Code := { maxStack := 5, maxLocals := 2, code := jdk_68_method_31_code, exceptionTable := #[], attributes := #[] }
def k10m7 : Method := { name := "append", desc := "(C)Ljava/lang/AbstractStringBuilder;", sig := { parameters := [.char], returnType := some (.object "java/lang/AbstractStringBuilder") }, accessFlags := 1, code := some k10c7 }
def k10c8 : Code := { maxStack := 1, maxLocals := 1, code := jdk_68_method_64_code, exceptionTable := #[], attributes := #[] }
def k10m8 : Method := { name := "getValue", desc := "()[B", sig := { parameters := [], returnType := some (.array .byte) }, accessFlags := 16, code := some k10c8 }
def k10c9 : Code := { maxStack := 1, maxLocals := 1, code := jdk_68_method_68_code, exceptionTable := #[], attributes := #[] }
def k10m9 : Method := { name := "isLatin1", desc := "()Z", sig := { parameters := [], returnType := some .boolean }, accessFlags := 16, code := some k10c9 }
def k10c10 : Code := { maxStack := 2, maxLocals := 2, code := jdk_68_method_71_code, exceptionTable := #[], attributes := #[] }
def k10m10 : Method := { name := "inflateIfNeededFor", desc := "(Ljava/lang/String;)V", sig := { parameters := [(.object "java/lang/String")], returnType := none }, accessFlags := 2, code := some k10c10 }
def k10c11 : Code := { maxStack := 4, maxLocals := 3, code := jdk_68_method_73_code, exceptionTable := #[], attributes := #[] }
def k10m11 : Method := { name := "putStringAt", desc := "(ILjava/lang/String;)V", sig := { parameters := [.int, (.object "java/lang/String")], returnType := none }, accessFlags := 2, code := some k10c11 }
/-- java/lang/AbstractStringBuilder -/
def k10 : Class := { plain "java/lang/AbstractStringBuilder" (some 0) with
  accessFlags := 1056
  interfaces := #[9, 4]
  cf := some (fileOf pool10 10 #[] #[{ accessFlags := 0, nameIndex := 7, descriptorIndex := 8, attributes := #[] }, { accessFlags := 0, nameIndex := 7, descriptorIndex := 103, attributes := #[] }, { accessFlags := 1, nameIndex := 34, descriptorIndex := 35, attributes := #[] }, { accessFlags := 2, nameIndex := 102, descriptorIndex := 103, attributes := #[] }, { accessFlags := 2, nameIndex := 106, descriptorIndex := 107, attributes := #[] }, { accessFlags := 2, nameIndex := 127, descriptorIndex := 8, attributes := #[] }, { accessFlags := 1, nameIndex := 45, descriptorIndex := 46, attributes := #[] }, { accessFlags := 1, nameIndex := 45, descriptorIndex := 292, attributes := #[] }, { accessFlags := 16, nameIndex := 552, descriptorIndex := 403, attributes := #[] }, { accessFlags := 16, nameIndex := 85, descriptorIndex := 86, attributes := #[] }, { accessFlags := 2, nameIndex := 217, descriptorIndex := 69, attributes := #[] }, { accessFlags := 2, nameIndex := 210, descriptorIndex := 211, attributes := #[] }] 1056 4 #[444, 48] #[{ accessFlags := 0, nameIndex := 17, descriptorIndex := 14, attributes := #[] }, { accessFlags := 0, nameIndex := 24, descriptorIndex := 25, attributes := #[] }, { accessFlags := 0, nameIndex := 75, descriptorIndex := 21, attributes := #[] }, { accessFlags := 0, nameIndex := 81, descriptorIndex := 82, attributes := #[] }, { accessFlags := 26, nameIndex := 13, descriptorIndex := 14, attributes := #[] }])
  fields := #[{ name := "value", type := (.array .byte), accessFlags := 0, slot := 0, constantValue := 0 }, { name := "coder", type := .byte, accessFlags := 0, slot := 1, constantValue := 0 }, { name := "maybeLatin1", type := .boolean, accessFlags := 0, slot := 2, constantValue := 0 }, { name := "count", type := .int, accessFlags := 0, slot := 3, constantValue := 0 }, { name := "EMPTYVALUE", type := (.array .byte), accessFlags := 26, slot := 0, constantValue := 0 }]
  methods := #[k10m0, k10m1, k10m2, k10m3, k10m4, k10m5, k10m6, k10m7, k10m8, k10m9, k10m10, k10m11]
  instanceTypes := #[(.array .byte), .byte, .boolean, .int]
  staticTypes := #[(.array .byte)]
  resolved := Array.replicate 609 none
  statics := none }

def pool11 : Array CpInfo := pool [(1, .methodref 2 3), (0, .class_ 4), (0, .nameAndType 5 6), (0, u "java/lang/AbstractStringBuilder"), (0, u "<init>"), (0, u "(I)V"), (11, .class_ 20), (1, u "java/lang/String"), (3, .class_ 26), (1, u "java/lang/StringBuilder"), (0, u "append"), (0, u "(Ljava/lang/String;)Ljava/lang/StringBuilder;"), (0, .methodref 2 30), (0, .nameAndType 27 31), (0, u "(Ljava/lang/String;)Ljava/lang/AbstractStringBuilder;"), (18, .methodref 2 51), (0, .nameAndType 27 52), (0, u "(C)Ljava/lang/AbstractStringBuilder;"), (84, .methodref 18 138), (0, .nameAndType 5 139), (0, u "(Ljava/lang/StringBuilder;)V"), (5, u "()V"), (10, u "()I"), (129, u "(C)Ljava/lang/StringBuilder;"), (56, .methodref 2 344), (0, .nameAndType 345 156), (0, u "length"), (3, .class_ 350), (0, u "java/lang/Appendable"), (0, .class_ 352), (0, u "java/io/Serializable"), (0, .class_ 354), (0, u "java/lang/Comparable"), (0, .class_ 356), (0, u "java/lang/CharSequence"), (0, u "serialVersionUID"), (0, u "J"), (40, u "toString"), (0, u "()Ljava/lang/String;")] 21

def k11m0 : Method := { name := "<init>", desc := "()V", sig := { parameters := [], returnType := none }, accessFlags := 1, code := none }
def k11c1 : Code := { maxStack := 2, maxLocals := 2, code := jdk_67_method_2_code, exceptionTable := #[], attributes := #[] }
def k11m1 : Method := { name := "<init>", desc := "(I)V", sig := { parameters := [.int], returnType := none }, accessFlags := 1, code := some k11c1 }
def k11c2 : Code := { maxStack := 2, maxLocals := 2, code := jdk_67_method_7_code, exceptionTable := #[], attributes := #[] }
def k11m2 : Method := { name := "append", desc := "(Ljava/lang/String;)Ljava/lang/StringBuilder;", sig := { parameters := [(.object "java/lang/String")], returnType := some (.object "java/lang/StringBuilder") }, accessFlags := 1, code := some k11c2 }
def k11c3 : Code := { maxStack := 2, maxLocals := 2, code := jdk_67_method_14_code, exceptionTable := #[], attributes := #[] }
def k11m3 : Method := { name := "append", desc := "(C)Ljava/lang/StringBuilder;", sig := { parameters := [.char], returnType := some (.object "java/lang/StringBuilder") }, accessFlags := 1, code := some k11c3 }
def k11c4 : Code := { maxStack := 3, maxLocals := 1, code := jdk_67_method_42_code, exceptionTable := #[], attributes := #[] }
def k11m4 : Method := { name := "toString", desc := "()Ljava/lang/String;", sig := { parameters := [], returnType := some (.object "java/lang/String") }, accessFlags := 1, code := some k11c4 }
def k11c5 : Code := { maxStack := 1, maxLocals := 1, code := jdk_67_method_93_code, exceptionTable := #[], attributes := #[] }
def k11m5 : Method := { name := "length", desc := "()I", sig := { parameters := [], returnType := some .int }, accessFlags := 4161, code := some k11c5 }
/-- java/lang/StringBuilder -/
def k11 : Class := { plain "java/lang/StringBuilder" (some 10) with
  accessFlags := 49
  interfaces := #[9, 2, 3, 4]
  cf := some (fileOf pool11 24 #[] #[{ accessFlags := 1, nameIndex := 5, descriptorIndex := 145, attributes := #[] }, { accessFlags := 1, nameIndex := 5, descriptorIndex := 6, attributes := #[] }, { accessFlags := 1, nameIndex := 27, descriptorIndex := 28, attributes := #[] }, { accessFlags := 1, nameIndex := 27, descriptorIndex := 286, attributes := #[] }, { accessFlags := 1, nameIndex := 399, descriptorIndex := 400, attributes := #[] }, { accessFlags := 4161, nameIndex := 345, descriptorIndex := 156, attributes := #[] }] 49 2 #[349, 351, 353, 355] #[{ accessFlags := 24, nameIndex := 357, descriptorIndex := 358, attributes := #[] }])
  fields := #[{ name := "serialVersionUID", type := .long, accessFlags := 24, slot := 0, constantValue := 0 }]
  methods := #[k11m0, k11m1, k11m2, k11m3, k11m4, k11m5]
  instanceTypes := #[(.array .byte), .byte, .boolean, .int]
  staticTypes := #[.long]
  resolved := Array.replicate 422 none
  statics := none }

def pool12 : Array CpInfo := pool [(1, .class_ 2), (0, u "java/lang/String"), (1, .class_ 6), (1, u "java/lang/Object"), (0, u "<init>"), (0, u "()V"), (0, .methodref 1 10), (0, .nameAndType 11 12), (0, u "checkIndex"), (0, u "(II)V"), (1, .class_ 16), (1, u "java/lang/StringLatin1"), (0, u "inflate"), (2, .class_ 22), (1, u "java/lang/StringUTF16"), (3, .nameAndType 17 27), (0, u "([BI[BII)V"), (10, .methodref 39 40), (0, .class_ 41), (0, .nameAndType 42 43), (0, u "java/lang/Math"), (0, u "min"), (0, u "(II)I"), (9, u "([BI)C"), (34, .methodref 14 89), (0, .nameAndType 90 91), (0, u "canEncode"), (0, u "(I)Z"), (0, .methodref 39 93), (0, .nameAndType 94 43), (0, u "max"), (0, .methodref 14 96), (0, .nameAndType 97 98), (0, u "indexOfChar"), (0, u "([BIII)I"), (2, u "indexOf"), (3, u "(C)Z"), (15, u "$assertionsDisabled"), (0, u "Z"), (98, .class_ 223), (1, u "java/lang/StringLatin1$LinesSpliterator"), (16, .methodref 20 26), (11, u "charAt"), (137, .class_ 391), (0, u "java/lang/StringLatin1$CharsSpliterator")] 3

def k12m0 : Method := { name := "<init>", desc := "()V", sig := { parameters := [], returnType := none }, accessFlags := 0, code := none }
def k12c1 : Code := { maxStack := 2, maxLocals := 2, code := jdk_43_method_2_code, exceptionTable := #[], attributes := #[] }
def k12m1 : Method := { name := "charAt", desc := "([BI)C", sig := { parameters := [(.array .byte), .int], returnType := some .char }, accessFlags := 9, code := some k12c1 }
def k12c2 : Code := { maxStack := 2, maxLocals := 1, code := jdk_43_method_3_code, exceptionTable := #[], attributes := #[] }
def k12m2 : Method := { name := "canEncode", desc := "(C)Z", sig := { parameters := [.char], returnType := some .boolean }, accessFlags := 9, code := some k12c2 }
def k12c3 : Code := { maxStack := 2, maxLocals := 1, code := jdk_43_method_4_code, exceptionTable := #[], attributes := #[] }
def k12m3 : Method := { name := "canEncode", desc := "(I)Z", sig := { parameters := [.int], returnType := some .boolean }, accessFlags := 9, code := some k12c3 }
def k12c4 : Code := { maxStack := 4, maxLocals := 4, code := jdk_43_method_22_code, exceptionTable := #[], attributes := #[] }
def k12m4 : Method := { name := "indexOf", desc := "([BIII)I", sig := { parameters := [(.array .byte), .int, .int, .int], returnType := some .int }, accessFlags := 9, code := some k12c4 }
def k12c5 : Code := { maxStack := 2, maxLocals := 6, code := jdk_43_method_23_code, exceptionTable := #[], attributes := #[] }
def k12m5 : Method := { name := "indexOfChar", desc := "([BIII)I", sig := { parameters := [(.array .byte), .int, .int, .int], returnType := some .int }, accessFlags := 10, code := some k12c5 }
def k12c6 : Code := { maxStack := 5, maxLocals := 5, code := jdk_43_method_50_code, exceptionTable := #[], attributes := #[] }
def k12m6 : Method := { name := "inflate", desc := "([BI[BII)V", sig := { parameters := [(.array .byte), .int, (.array .byte), .int, .int], returnType := none }, accessFlags := 9, code := some k12c6 }
/-- java/lang/StringLatin1 -/
def k12 : Class := { plain "java/lang/StringLatin1" (some 0) with
  accessFlags := 48
  interfaces := #[]
  cf := some (fileOf pool12 14 #[.nestMembers #[390, 221]] #[{ accessFlags := 0, nameIndex := 7, descriptorIndex := 8, attributes := #[] }, { accessFlags := 9, nameIndex := 252, descriptorIndex := 53, attributes := #[] }, { accessFlags := 9, nameIndex := 90, descriptorIndex := 105, attributes := #[] }, { accessFlags := 9, nameIndex := 90, descriptorIndex := 91, attributes := #[] }, { accessFlags := 9, nameIndex := 101, descriptorIndex := 98, attributes := #[] }, { accessFlags := 10, nameIndex := 97, descriptorIndex := 98, attributes := #[] }, { accessFlags := 9, nameIndex := 17, descriptorIndex := 27, attributes := #[] }] 48 4 #[] #[{ accessFlags := 4120, nameIndex := 121, descriptorIndex := 122, attributes := #[] }])
  fields := #[{ name := "$assertionsDisabled", type := .boolean, accessFlags := 4120, slot := 0, constantValue := 0 }]
  methods := #[k12m0, k12m1, k12m2, k12m3, k12m4, k12m5, k12m6]
  instanceTypes := #[]
  staticTypes := #[.boolean]
  resolved := Array.replicate 395 none
  statics := none }

def pool13 : Array CpInfo := pool [(2, .class_ 4), (1, u "java/lang/Object"), (0, u "<init>"), (0, u "()V"), (7, .class_ 16), (1, u "java/util/Arrays"), (57, .class_ 76), (1, u "java/util/Arrays$NaturalOrder"), (32, u "()Ljava/lang/Object;"), (3, .class_ 115), (1, u "java/util/Arrays$LegacyMergeSort"), (1, u "Z"), (10, .nameAndType 129 109), (0, u "clone"), (9, u "copyOfRange"), (10, .methodref 151 152), (0, .class_ 153), (0, .nameAndType 154 155), (0, u "java/lang/System"), (0, u "arraycopy"), (0, u "(Ljava/lang/Object;ILjava/lang/Object;II)V"), (146, u "copyOf"), (1, .methodref 305 306), (0, .class_ 307), (0, .nameAndType 308 309), (0, u "java/lang/Math"), (0, u "min"), (0, u "(II)I"), (0, .methodref 311 128), (0, .class_ 312), (0, u "[B"), (26, .methodref 14 340), (0, .nameAndType 341 342), (0, u "copyOfRangeByte"), (0, u "([BII)[B"), (0, .methodref 14 344), (0, .nameAndType 345 346), (0, u "checkLength"), (0, u "(II)V"), (28, .class_ 376), (0, u "java/util/Arrays$ArrayList"), (68, u "$assertionsDisabled"), (269, u "MIN_ARRAY_SORT_GRAN"), (0, u "I"), (2, u "INSERTIONSORT_THRESHOLD"), (149, u "([BI)[B"), (105, .class_ 976), (0, u "java/util/Arrays$ArrayItr")] 52

def k13m0 : Method := { name := "<init>", desc := "()V", sig := { parameters := [], returnType := none }, accessFlags := 2, code := none }
def k13c1 : Code := { maxStack := 6, maxLocals := 3, code := jdk_65_method_121_code, exceptionTable := #[], attributes := #[] }
def k13m1 : Method := { name := "copyOf", desc := "([BI)[B", sig := { parameters := [(.array .byte), .int], returnType := some (.array .byte) }, accessFlags := 9, code := some k13c1 }
def k13c2 : Code := { maxStack := 4, maxLocals := 2, code := jdk_65_method_131_code, exceptionTable := #[], attributes := #[] }
def k13m2 : Method := { name := "checkLength", desc := "(II)V", sig := { parameters := [.int, .int], returnType := none }, accessFlags := 10, code := some k13c2 }
def k13c3 : Code := { maxStack := 3, maxLocals := 3, code := jdk_65_method_132_code, exceptionTable := #[], attributes := #[] }
def k13m3 : Method := { name := "copyOfRange", desc := "([BII)[B", sig := { parameters := [(.array .byte), .int, .int], returnType := some (.array .byte) }, accessFlags := 9, code := some k13c3 }
def k13c4 : Code := { maxStack := 6, maxLocals := 5, code := jdk_65_method_133_code, exceptionTable := #[], attributes := #[] }
def k13m4 : Method := { name := "copyOfRangeByte", desc := "([BII)[B", sig := { parameters := [(.array .byte), .int, .int], returnType := some (.array .byte) }, accessFlags := 10, code := some k13c4 }
/-- java/util/Arrays -/
def k13 : Class := { plain "java/util/Arrays" (some 0) with
  accessFlags := 49
  interfaces := #[]
  cf := some (fileOf pool13 14 #[.nestMembers #[975, 375, 113, 74]] #[{ accessFlags := 2, nameIndex := 5, descriptorIndex := 6, attributes := #[] }, { accessFlags := 9, nameIndex := 302, descriptorIndex := 869, attributes := #[] }, { accessFlags := 10, nameIndex := 345, descriptorIndex := 346, attributes := #[] }, { accessFlags := 9, nameIndex := 139, descriptorIndex := 342, attributes := #[] }, { accessFlags := 10, nameIndex := 341, descriptorIndex := 342, attributes := #[] }] 49 2 #[] #[{ accessFlags := 26, nameIndex := 715, descriptorIndex := 716, attributes := #[] }, { accessFlags := 26, nameIndex := 719, descriptorIndex := 716, attributes := #[] }, { accessFlags := 4120, nameIndex := 445, descriptorIndex := 117, attributes := #[] }])
  fields := #[{ name := "MIN_ARRAY_SORT_GRAN", type := .int, accessFlags := 26, slot := 0, constantValue := 0 }, { name := "INSERTIONSORT_THRESHOLD", type := .int, accessFlags := 26, slot := 1, constantValue := 0 }, { name := "$assertionsDisabled", type := .boolean, accessFlags := 4120, slot := 2, constantValue := 0 }]
  methods := #[k13m0, k13m1, k13m2, k13m3, k13m4]
  instanceTypes := #[]
  staticTypes := #[.int, .int, .boolean]
  resolved := Array.replicate 1029 none
  statics := none }

def pool14 : Array CpInfo := pool [(1, .class_ 2), (0, u "java/lang/Cloneable"), (0, .class_ 4), (0, u "java/lang/Object")] 2

/-- java/lang/Cloneable -/
def k14 : Class := { plain "java/lang/Cloneable" (some 0) with
  accessFlags := 1537
  interfaces := #[]
  cf := some (fileOf pool14 1 #[] #[] 1537 3 #[] #[])
  fields := #[]
  methods := #[]
  instanceTypes := #[]
  staticTypes := #[]
  resolved := Array.replicate 7 none
  statics := none }

def pool15 : Array CpInfo := pool [(2, .class_ 4), (1, u "java/lang/Object"), (0, u "<init>"), (0, u "()V"), (17, .class_ 26), (1, u "jdk/internal/util/Preconditions"), (6, u "checkIndex"), (15, u "checkFromIndexSize"), (5, .class_ 56), (0, u "jdk/internal/util/Preconditions$4"), (57, .class_ 115), (0, u "jdk/internal/util/Preconditions$1"), (7, u "SIOOBE_FORMATTER"), (0, u "Ljava/util/function/BiFunction;"), (0, .class_ 126), (0, u "jdk/internal/util/Preconditions$2"), (3, u "AIOOBE_FORMATTER"), (0, .class_ 132), (0, u "jdk/internal/util/Preconditions$3"), (3, u "IOOBE_FORMATTER"), (41, u "(IILjava/util/function/BiFunction;)I"), (4, u "(IIILjava/util/function/BiFunction;)I")] 10

def k15m0 : Method := { name := "<init>", desc := "()V", sig := { parameters := [], returnType := none }, accessFlags := 1, code := none }
def k15c1 : Code := { maxStack := 3, maxLocals := 3, code := jdk_41_method_11_code, exceptionTable := #[], attributes := #[] }
def k15m1 : Method := { name := "checkIndex", desc := "(IILjava/util/function/BiFunction;)I", sig := { parameters := [.int, .int, (.object "java/util/function/BiFunction")], returnType := some .int }, accessFlags := 9, code := some k15c1 }
def k15c2 : Code := { maxStack := 4, maxLocals := 4, code := jdk_41_method_13_code, exceptionTable := #[], attributes := #[] }
def k15m2 : Method := { name := "checkFromIndexSize", desc := "(IIILjava/util/function/BiFunction;)I", sig := { parameters := [.int, .int, .int, (.object "java/util/function/BiFunction")], returnType := some .int }, accessFlags := 9, code := some k15c2 }
/-- jdk/internal/util/Preconditions -/
def k15 : Class := { plain "jdk/internal/util/Preconditions" (some 0) with
  accessFlags := 33
  interfaces := #[]
  cf := some (fileOf pool15 24 #[.nestMembers #[55, 131, 125, 114]] #[{ accessFlags := 1, nameIndex := 5, descriptorIndex := 6, attributes := #[] }, { accessFlags := 9, nameIndex := 33, descriptorIndex := 178, attributes := #[] }, { accessFlags := 9, nameIndex := 49, descriptorIndex := 183, attributes := #[] }] 33 2 #[] #[{ accessFlags := 25, nameIndex := 123, descriptorIndex := 124, attributes := #[] }, { accessFlags := 25, nameIndex := 130, descriptorIndex := 124, attributes := #[] }, { accessFlags := 25, nameIndex := 136, descriptorIndex := 124, attributes := #[] }])
  fields := #[{ name := "SIOOBE_FORMATTER", type := (.object "java/util/function/BiFunction"), accessFlags := 25, slot := 0, constantValue := 0 }, { name := "AIOOBE_FORMATTER", type := (.object "java/util/function/BiFunction"), accessFlags := 25, slot := 1, constantValue := 0 }, { name := "IOOBE_FORMATTER", type := (.object "java/util/function/BiFunction"), accessFlags := 25, slot := 2, constantValue := 0 }]
  methods := #[k15m0, k15m1, k15m2]
  instanceTypes := #[]
  staticTypes := #[(.object "java/util/function/BiFunction"), (.object "java/util/function/BiFunction"), (.object "java/util/function/BiFunction")]
  resolved := Array.replicate 194 none
  statics := some 1 }

def pool16 : Array CpInfo := pool [(3, .class_ 4), (0, u "java/lang/String"), (1, .class_ 8), (1, u "java/lang/Object"), (0, u "<init>"), (0, u "()V"), (0, .methodref 12 13), (0, .class_ 14), (0, .nameAndType 15 16), (0, u "java/lang/StringUTF16"), (0, u "newBytesLength"), (0, u "(I)I"), (3, .integer 1073741823), (23, .fieldref 12 45), (0, .nameAndType 46 47), (0, u "$assertionsDisabled"), (0, u "Z"), (0, .methodref 12 49), (0, .nameAndType 50 51), (0, u "length"), (0, u "([B)I"), (7, .fieldref 12 60), (0, .nameAndType 61 62), (0, u "HI_BYTE_SHIFT"), (0, u "I"), (0, .fieldref 12 64), (0, .nameAndType 65 62), (0, u "LO_BYTE_SHIFT"), (1, .methodref 12 68), (0, .nameAndType 69 70), (0, u "checkIndex"), (0, u "(I[B)V"), (0, .methodref 12 72), (0, .nameAndType 73 74), (0, u "getChar"), (0, u "([BI)C"), (24, u "(II[B)V"), (7, .methodref 12 108), (0, .nameAndType 109 110), (0, u "newBytesFor"), (0, u "(I)[B"), (0, .methodref 12 112), (0, .nameAndType 113 114), (0, u "putChar"), (0, u "([BII)V"), (0, .methodref 12 116), (0, .nameAndType 117 118), (0, u "compress"), (0, u "([CI[BII)I"), (0, .methodref 12 120), (0, .nameAndType 121 122), (0, u "toBytes"), (0, u "([CII)[B"), (17, u "inflate"), (0, u "([BI[BII)V"), (31, .methodref 12 174), (0, .nameAndType 175 99), (0, u "checkBoundsOffCount"), (85, u "coderFromArrayLen"), (0, u "([BI)B"), (18, u "(III)I"), (87, .class_ 371), (1, u "java/lang/StringUTF16$LinesSpliterator"), (20, u "charAt"), (21, .methodref 3 415), (0, .nameAndType 69 416), (0, u "(II)V"), (2, .methodref 3 420), (0, .nameAndType 175 281), (9, u "MAX_LENGTH"), (155, u "putCharSB"), (40, .class_ 628), (0, u "java/lang/StringUTF16$CodePointsSpliterator"), (0, .class_ 630), (0, u "java/lang/StringUTF16$CharsSpliterator")] 4

def k16m0 : Method := { name := "<init>", desc := "()V", sig := { parameters := [], returnType := none }, accessFlags := 0, code := none }
def k16c1 : Code := { maxStack := 1, maxLocals := 1, code := jdk_52_method_2_code, exceptionTable := #[], attributes := #[] }
def k16m1 : Method := { name := "newBytesFor", desc := "(I)[B", sig := { parameters := [.int], returnType := some (.array .byte) }, accessFlags := 9, code := some k16c1 }
def k16c2 : Code := { maxStack := 4, maxLocals := 1, code := jdk_52_method_3_code, exceptionTable := #[], attributes := #[] }
def k16m2 : Method := { name := "newBytesLength", desc := "(I)I", sig := { parameters := [.int], returnType := some .int }, accessFlags := 9, code := some k16c2 }
def k16c3 : Code := { maxStack := 4, maxLocals := 3, code := jdk_52_method_4_code, exceptionTable := #[], attributes := #[] }
def k16m3 : Method := { name := "putChar", desc := "([BII)V", sig := { parameters := [(.array .byte), .int, .int], returnType := none }, accessFlags := 8, code := some k16c3 }
def k16c4 : Code := { maxStack := 3, maxLocals := 2, code := jdk_52_method_5_code, exceptionTable := #[], attributes := #[] }
def k16m4 : Method := { name := "getChar", desc := "([BI)C", sig := { parameters := [(.array .byte), .int], returnType := some .char }, accessFlags := 8, code := some k16c4 }
def k16c5 : Code := { maxStack := 2, maxLocals := 1, code := jdk_52_method_6_code, exceptionTable := #[], attributes := #[] }
def k16m5 : Method := { name := "length", desc := "([B)I", sig := { parameters := [(.array .byte)], returnType := some .int }, accessFlags := 9, code := some k16c5 }
def k16c6 : Code := { maxStack := 4, maxLocals := 5, code := jdk_52_method_14_code, exceptionTable := #[], attributes := #[] }
def k16m6 : Method := { name := "toBytes", desc := "([CII)[B", sig := { parameters := [(.array .char), .int, .int], returnType := some (.array .byte) }, accessFlags := 9, code := some k16c6 }
def k16c7 : Code := { maxStack := 2, maxLocals := 2, code := jdk_52_method_15_code, exceptionTable := #[], attributes := #[] }
def k16m7 : Method := { name := "coderFromArrayLen", desc := "([BI)B", sig := { parameters := [(.array .byte), .int], returnType := some .byte }, accessFlags := 8, code := some k16c7 }
def k16c8 : Code := { maxStack := 5, maxLocals := 6, code := jdk_52_method_16_code, exceptionTable := #[], attributes := #[] }
def k16m8 : Method := { name := "compress", desc := "([CII)[B", sig := { parameters := [(.array .char), .int, .int], returnType := some (.array .byte) }, accessFlags := 9, code := some k16c8 }
def k16c9 : Code := { maxStack := 3, maxLocals := 7, code := jdk_52_method_21_code, exceptionTable := #[], attributes := #[] }
def k16m9 : Method := { name := "compress", desc := "([CI[BII)I", sig := { parameters := [(.array .char), .int, (.array .byte), .int, .int], returnType := some .int }, accessFlags := 9, code := some k16c9 }
def k16c10 : Code := { maxStack := 3, maxLocals := 3, code := jdk_52_method_71_code, exceptionTable := #[], attributes := #[] }
def k16m10 : Method := { name := "putCharSB", desc := "([BII)V", sig := { parameters := [(.array .byte), .int, .int], returnType := none }, accessFlags := 9, code := some k16c10 }
def k16c11 : Code := { maxStack := 2, maxLocals := 2, code := jdk_52_method_83_code, exceptionTable := #[], attributes := #[] }
def k16m11 : Method := { name := "charAt", desc := "([BI)C", sig := { parameters := [(.array .byte), .int], returnType := some .char }, accessFlags := 9, code := some k16c11 }
def k16c12 : Code := { maxStack := 4, maxLocals := 6, code := jdk_52_method_86_code, exceptionTable := #[], attributes := #[] }
def k16m12 : Method := { name := "inflate", desc := "([BI[BII)V", sig := { parameters := [(.array .byte), .int, (.array .byte), .int, .int], returnType := none }, accessFlags := 9, code := some k16c12 }
def k16c13 : Code := { maxStack := 2, maxLocals := 2, code := jdk_52_method_91_code, exceptionTable := #[], attributes := #[] }
def k16m13 : Method := { name := "checkIndex", desc := "(I[B)V", sig := { parameters := [.int, (.array .byte)], returnType := none }, accessFlags := 9, code := some k16c13 }
def k16c14 : Code := { maxStack := 3, maxLocals := 3, code := jdk_52_method_94_code, exceptionTable := #[], attributes := #[] }
def k16m14 : Method := { name := "checkBoundsOffCount", desc := "(II[B)V", sig := { parameters := [.int, .int, (.array .byte)], returnType := none }, accessFlags := 9, code := some k16c14 }
/-- java/lang/StringUTF16 -/
def k16 : Class := { plain "java/lang/StringUTF16" (some 0) with
  accessFlags := 48
  interfaces := #[]
  cf := some (fileOf pool16 12 #[.nestMembers #[627, 629, 369]] #[{ accessFlags := 0, nameIndex := 9, descriptorIndex := 10, attributes := #[] }, { accessFlags := 9, nameIndex := 109, descriptorIndex := 110, attributes := #[] }, { accessFlags := 9, nameIndex := 15, descriptorIndex := 16, attributes := #[] }, { accessFlags := 8, nameIndex := 113, descriptorIndex := 114, attributes := #[] }, { accessFlags := 8, nameIndex := 73, descriptorIndex := 74, attributes := #[] }, { accessFlags := 9, nameIndex := 50, descriptorIndex := 51, attributes := #[] }, { accessFlags := 9, nameIndex := 121, descriptorIndex := 122, attributes := #[] }, { accessFlags := 8, nameIndex := 261, descriptorIndex := 262, attributes := #[] }, { accessFlags := 9, nameIndex := 117, descriptorIndex := 122, attributes := #[] }, { accessFlags := 9, nameIndex := 117, descriptorIndex := 118, attributes := #[] }, { accessFlags := 9, nameIndex := 586, descriptorIndex := 114, attributes := #[] }, { accessFlags := 9, nameIndex := 392, descriptorIndex := 74, attributes := #[] }, { accessFlags := 9, nameIndex := 140, descriptorIndex := 141, attributes := #[] }, { accessFlags := 9, nameIndex := 69, descriptorIndex := 70, attributes := #[] }, { accessFlags := 9, nameIndex := 175, descriptorIndex := 99, attributes := #[] }] 48 6 #[] #[{ accessFlags := 26, nameIndex := 61, descriptorIndex := 62, attributes := #[] }, { accessFlags := 26, nameIndex := 65, descriptorIndex := 62, attributes := #[] }, { accessFlags := 24, nameIndex := 430, descriptorIndex := 62, attributes := #[] }, { accessFlags := 4120, nameIndex := 46, descriptorIndex := 47, attributes := #[] }])
  fields := #[{ name := "HI_BYTE_SHIFT", type := .int, accessFlags := 26, slot := 0, constantValue := 0 }, { name := "LO_BYTE_SHIFT", type := .int, accessFlags := 26, slot := 1, constantValue := 0 }, { name := "MAX_LENGTH", type := .int, accessFlags := 24, slot := 2, constantValue := 0 }, { name := "$assertionsDisabled", type := .boolean, accessFlags := 4120, slot := 3, constantValue := 0 }]
  methods := #[k16m0, k16m1, k16m2, k16m3, k16m4, k16m5, k16m6, k16m7, k16m8, k16m9, k16m10, k16m11, k16m12, k16m13, k16m14]
  instanceTypes := #[]
  staticTypes := #[.int, .int, .int, .boolean]
  resolved := Array.replicate 635 none
  statics := some 2 }

def pool17 : Array CpInfo := pool [(1, .class_ 2), (0, u "java/lang/Math"), (1, .class_ 6), (1, u "java/lang/Object"), (0, u "<init>"), (0, u "()V"), (89, .class_ 100), (1, u "java/lang/Math$RandomNumberGeneratorHolder"), (71, u "negativeZeroFloatBits"), (0, u "J"), (2, u "negativeZeroDoubleBits"), (21, u "max"), (2, u "min"), (43, u "$assertionsDisabled"), (0, u "Z"), (88, u "(II)I"), (2, u "twoToTheDoubleScaleDown"), (0, u "D"), (4, u "twoToTheDoubleScaleUp"), (9, u "E"), (3, u "PI"), (2, u "TAU"), (2, u "DEGREES_TO_RADIANS"), (0, u "RADIANS_TO_DEGREES")] 94

def k17m0 : Method := { name := "<init>", desc := "()V", sig := { parameters := [], returnType := none }, accessFlags := 2, code := none }
def k17c1 : Code := { maxStack := 2, maxLocals := 2, code := jdk_29_method_65_code, exceptionTable := #[], attributes := #[] }
def k17m1 : Method := { name := "max", desc := "(II)I", sig := { parameters := [.int, .int], returnType := some .int }, accessFlags := 9, code := some k17c1 }
def k17c2 : Code := { maxStack := 2, maxLocals := 2, code := jdk_29_method_69_code, exceptionTable := #[], attributes := #[] }
def k17m2 : Method := { name := "min", desc := "(II)I", sig := { parameters := [.int, .int], returnType := some .int }, accessFlags := 9, code := some k17c2 }
/-- java/lang/Math -/
def k17 : Class := { plain "java/lang/Math" (some 0) with
  accessFlags := 49
  interfaces := #[]
  cf := some (fileOf pool17 1 #[.nestMembers #[98]] #[{ accessFlags := 2, nameIndex := 7, descriptorIndex := 8, attributes := #[] }, { accessFlags := 9, nameIndex := 198, descriptorIndex := 335, attributes := #[] }, { accessFlags := 9, nameIndex := 201, descriptorIndex := 335, attributes := #[] }] 49 4 #[] #[{ accessFlags := 25, nameIndex := 354, descriptorIndex := 339, attributes := #[] }, { accessFlags := 25, nameIndex := 358, descriptorIndex := 339, attributes := #[] }, { accessFlags := 25, nameIndex := 361, descriptorIndex := 339, attributes := #[] }, { accessFlags := 26, nameIndex := 364, descriptorIndex := 339, attributes := #[] }, { accessFlags := 26, nameIndex := 365, descriptorIndex := 339, attributes := #[] }, { accessFlags := 26, nameIndex := 172, descriptorIndex := 173, attributes := #[] }, { accessFlags := 26, nameIndex := 176, descriptorIndex := 173, attributes := #[] }, { accessFlags := 8, nameIndex := 344, descriptorIndex := 339, attributes := #[] }, { accessFlags := 8, nameIndex := 338, descriptorIndex := 339, attributes := #[] }, { accessFlags := 4120, nameIndex := 245, descriptorIndex := 246, attributes := #[] }])
  fields := #[{ name := "E", type := .double, accessFlags := 25, slot := 0, constantValue := 0 }, { name := "PI", type := .double, accessFlags := 25, slot := 1, constantValue := 0 }, { name := "TAU", type := .double, accessFlags := 25, slot := 2, constantValue := 0 }, { name := "DEGREES_TO_RADIANS", type := .double, accessFlags := 26, slot := 3, constantValue := 0 }, { name := "RADIANS_TO_DEGREES", type := .double, accessFlags := 26, slot := 4, constantValue := 0 }, { name := "negativeZeroFloatBits", type := .long, accessFlags := 26, slot := 5, constantValue := 0 }, { name := "negativeZeroDoubleBits", type := .long, accessFlags := 26, slot := 6, constantValue := 0 }, { name := "twoToTheDoubleScaleUp", type := .double, accessFlags := 8, slot := 7, constantValue := 0 }, { name := "twoToTheDoubleScaleDown", type := .double, accessFlags := 8, slot := 8, constantValue := 0 }, { name := "$assertionsDisabled", type := .boolean, accessFlags := 4120, slot := 9, constantValue := 0 }]
  methods := #[k17m0, k17m1, k17m2]
  instanceTypes := #[]
  staticTypes := #[.double, .double, .double, .double, .double, .long, .long, .double, .double, .boolean]
  resolved := Array.replicate 460 none
  statics := none }

def pool18 : Array CpInfo := pool [(9, u "<init>"), (6, .class_ 18), (1, u "java/lang/Object"), (0, u "()V"), (1, .class_ 23), (1, u "jdk/internal/util/ArraysSupport"), (0, u "LOG2_ARRAY_LONG_INDEX_SCALE"), (0, u "I"), (2, u "U"), (0, u "Ljdk/internal/misc/Unsafe;"), (8, u "BIG_ENDIAN"), (0, u "Z"), (8, u "LOG2_BYTE_BIT_SIZE"), (4, u "LOG2_ARRAY_INT_INDEX_SCALE"), (54, u "JLA"), (0, u "Ljdk/internal/access/JavaLangAccess;"), (11, u "LOG2_ARRAY_BOOLEAN_INDEX_SCALE"), (9, u "LOG2_ARRAY_BYTE_INDEX_SCALE"), (5, u "LOG2_ARRAY_CHAR_INDEX_SCALE"), (5, u "LOG2_ARRAY_SHORT_INDEX_SCALE"), (18, u "LOG2_ARRAY_FLOAT_INDEX_SCALE"), (24, u "LOG2_ARRAY_DOUBLE_INDEX_SCALE"), (6, .methodref 195 196), (0, .class_ 197), (0, .nameAndType 198 199), (0, u "java/lang/Math"), (0, u "max"), (0, u "(II)I"), (0, .integer 2147483639), (76, u "T_BOOLEAN"), (2, u "T_CHAR"), (1, u "T_FLOAT"), (1, u "T_DOUBLE"), (1, u "T_BYTE"), (1, u "T_SHORT"), (1, u "T_INT"), (1, u "T_LONG"), (1, u "SOFT_MAX_ARRAY_LENGTH"), (56, u "newLength"), (0, u "(III)I")] 25

def k18m0 : Method := { name := "<init>", desc := "()V", sig := { parameters := [], returnType := none }, accessFlags := 2, code := none }
def k18c1 : Code := { maxStack := 3, maxLocals := 4, code := jdk_48_method_27_code, exceptionTable := #[], attributes := #[] }
def k18m1 : Method := { name := "newLength", desc := "(III)I", sig := { parameters := [.int, .int, .int], returnType := some .int }, accessFlags := 9, code := some k18c1 }
/-- jdk/internal/util/ArraysSupport -/
def k18 : Class := { plain "jdk/internal/util/ArraysSupport" (some 0) with
  accessFlags := 33
  interfaces := #[]
  cf := some (fileOf pool18 21 #[] #[{ accessFlags := 2, nameIndex := 9, descriptorIndex := 19, attributes := #[] }, { accessFlags := 9, nameIndex := 351, descriptorIndex := 352, attributes := #[] }] 33 16 #[] #[{ accessFlags := 24, nameIndex := 28, descriptorIndex := 29, attributes := #[] }, { accessFlags := 26, nameIndex := 38, descriptorIndex := 39, attributes := #[] }, { accessFlags := 25, nameIndex := 121, descriptorIndex := 25, attributes := #[] }, { accessFlags := 25, nameIndex := 131, descriptorIndex := 25, attributes := #[] }, { accessFlags := 25, nameIndex := 137, descriptorIndex := 25, attributes := #[] }, { accessFlags := 25, nameIndex := 143, descriptorIndex := 25, attributes := #[] }, { accessFlags := 25, nameIndex := 53, descriptorIndex := 25, attributes := #[] }, { accessFlags := 25, nameIndex := 24, descriptorIndex := 25, attributes := #[] }, { accessFlags := 25, nameIndex := 162, descriptorIndex := 25, attributes := #[] }, { accessFlags := 25, nameIndex := 187, descriptorIndex := 25, attributes := #[] }, { accessFlags := 26, nameIndex := 48, descriptorIndex := 25, attributes := #[] }, { accessFlags := 25, nameIndex := 277, descriptorIndex := 25, attributes := #[] }, { accessFlags := 25, nameIndex := 280, descriptorIndex := 25, attributes := #[] }, { accessFlags := 25, nameIndex := 282, descriptorIndex := 25, attributes := #[] }, { accessFlags := 25, nameIndex := 284, descriptorIndex := 25, attributes := #[] }, { accessFlags := 25, nameIndex := 286, descriptorIndex := 25, attributes := #[] }, { accessFlags := 25, nameIndex := 288, descriptorIndex := 25, attributes := #[] }, { accessFlags := 25, nameIndex := 290, descriptorIndex := 25, attributes := #[] }, { accessFlags := 25, nameIndex := 292, descriptorIndex := 25, attributes := #[] }, { accessFlags := 26, nameIndex := 108, descriptorIndex := 109, attributes := #[] }, { accessFlags := 25, nameIndex := 294, descriptorIndex := 25, attributes := #[] }])
  fields := #[{ name := "U", type := (.object "jdk/internal/misc/Unsafe"), accessFlags := 24, slot := 0, constantValue := 0 }, { name := "BIG_ENDIAN", type := .boolean, accessFlags := 26, slot := 1, constantValue := 0 }, { name := "LOG2_ARRAY_BOOLEAN_INDEX_SCALE", type := .int, accessFlags := 25, slot := 2, constantValue := 0 }, { name := "LOG2_ARRAY_BYTE_INDEX_SCALE", type := .int, accessFlags := 25, slot := 3, constantValue := 0 }, { name := "LOG2_ARRAY_CHAR_INDEX_SCALE", type := .int, accessFlags := 25, slot := 4, constantValue := 0 }, { name := "LOG2_ARRAY_SHORT_INDEX_SCALE", type := .int, accessFlags := 25, slot := 5, constantValue := 0 }, { name := "LOG2_ARRAY_INT_INDEX_SCALE", type := .int, accessFlags := 25, slot := 6, constantValue := 0 }, { name := "LOG2_ARRAY_LONG_INDEX_SCALE", type := .int, accessFlags := 25, slot := 7, constantValue := 0 }, { name := "LOG2_ARRAY_FLOAT_INDEX_SCALE", type := .int, accessFlags := 25, slot := 8, constantValue := 0 }, { name := "LOG2_ARRAY_DOUBLE_INDEX_SCALE", type := .int, accessFlags := 25, slot := 9, constantValue := 0 }, { name := "LOG2_BYTE_BIT_SIZE", type := .int, accessFlags := 26, slot := 10, constantValue := 0 }, { name := "T_BOOLEAN", type := .int, accessFlags := 25, slot := 11, constantValue := 0 }, { name := "T_CHAR", type := .int, accessFlags := 25, slot := 12, constantValue := 0 }, { name := "T_FLOAT", type := .int, accessFlags := 25, slot := 13, constantValue := 0 }, { name := "T_DOUBLE", type := .int, accessFlags := 25, slot := 14, constantValue := 0 }, { name := "T_BYTE", type := .int, accessFlags := 25, slot := 15, constantValue := 0 }, { name := "T_SHORT", type := .int, accessFlags := 25, slot := 16, constantValue := 0 }, { name := "T_INT", type := .int, accessFlags := 25, slot := 17, constantValue := 0 }, { name := "T_LONG", type := .int, accessFlags := 25, slot := 18, constantValue := 0 }, { name := "JLA", type := (.object "jdk/internal/access/JavaLangAccess"), accessFlags := 26, slot := 19, constantValue := 0 }, { name := "SOFT_MAX_ARRAY_LENGTH", type := .int, accessFlags := 25, slot := 20, constantValue := 0 }]
  methods := #[k18m0, k18m1]
  instanceTypes := #[]
  staticTypes := #[(.object "jdk/internal/misc/Unsafe"), .boolean, .int, .int, .int, .int, .int, .int, .int, .int, .int, .int, .int, .int, .int, .int, .int, .int, .int, (.object "jdk/internal/access/JavaLangAccess"), .int]
  resolved := Array.replicate 378 none
  statics := none }

def pool19 : Array CpInfo := pool [(2, .class_ 4), (1, u "java/lang/Object"), (0, u "<init>"), (0, u "()V"), (1, .class_ 10), (1, u "java/lang/System"), (0, u "allowSecurityManager"), (0, u "I"), (16, u "cons"), (0, u "Ljava/io/Console;"), (77, .class_ 110), (1, u "java/lang/System$CallersHolder"), (43, u "initialErrStream"), (0, u "Ljava/io/PrintStream;"), (19, u "security"), (0, u "Ljava/lang/SecurityManager;"), (31, .class_ 209), (0, u "java/lang/System$1"), (7, u "props"), (0, u "Ljava/util/Properties;"), (2, u "lineSeparator"), (0, u "Ljava/lang/String;"), (96, .class_ 321), (1, u "java/lang/System$LoggerFinder"), (5, .class_ 328), (0, u "java/lang/System$Logger"), (67, u "err"), (2, u "out"), (91, u "notSupportedJnuEncoding"), (15, u "in"), (17, u "initialIn"), (0, u "Ljava/io/InputStream;"), (35, u "bootLayer"), (0, u "Ljava/lang/ModuleLayer;"), (99, .class_ 664), (0, u "java/lang/System$2"), (9, u "NEVER"), (2, u "MAYBE"), (49, u "arraycopy"), (0, u "(Ljava/lang/Object;ILjava/lang/Object;II)V"), (72, .class_ 802), (0, u "java/lang/System$Logger$Level")] 31

def k19m0 : Method := { name := "<init>", desc := "()V", sig := { parameters := [], returnType := none }, accessFlags := 2, code := none }
def k19m1 : Method := { name := "arraycopy", desc := "(Ljava/lang/Object;ILjava/lang/Object;II)V", sig := { parameters := [(.object "java/lang/Object"), .int, (.object "java/lang/Object"), .int, .int], returnType := none }, accessFlags := 265, code := none }
/-- java/lang/System -/
def k19 : Class := { plain "java/lang/System" (some 0) with
  accessFlags := 49
  interfaces := #[]
  cf := some (fileOf pool19 8 #[.nestMembers #[319, 327, 801, 108, 663, 208]] #[{ accessFlags := 2, nameIndex := 5, descriptorIndex := 6, attributes := #[] }, { accessFlags := 265, nameIndex := 727, descriptorIndex := 728, attributes := #[] }] 49 2 #[] #[{ accessFlags := 25, nameIndex := 507, descriptorIndex := 526, attributes := #[] }, { accessFlags := 25, nameIndex := 399, descriptorIndex := 155, attributes := #[] }, { accessFlags := 25, nameIndex := 396, descriptorIndex := 155, attributes := #[] }, { accessFlags := 10, nameIndex := 525, descriptorIndex := 526, attributes := #[] }, { accessFlags := 26, nameIndex := 674, descriptorIndex := 12, attributes := #[] }, { accessFlags := 26, nameIndex := 677, descriptorIndex := 12, attributes := #[] }, { accessFlags := 10, nameIndex := 11, descriptorIndex := 12, attributes := #[] }, { accessFlags := 74, nameIndex := 175, descriptorIndex := 176, attributes := #[] }, { accessFlags := 10, nameIndex := 491, descriptorIndex := 222, attributes := #[] }, { accessFlags := 74, nameIndex := 29, descriptorIndex := 30, attributes := #[] }, { accessFlags := 74, nameIndex := 154, descriptorIndex := 155, attributes := #[] }, { accessFlags := 10, nameIndex := 217, descriptorIndex := 218, attributes := #[] }, { accessFlags := 10, nameIndex := 221, descriptorIndex := 222, attributes := #[] }, { accessFlags := 8, nameIndex := 562, descriptorIndex := 563, attributes := #[] }])
  fields := #[{ name := "in", type := (.object "java/io/InputStream"), accessFlags := 25, slot := 0, constantValue := 0 }, { name := "out", type := (.object "java/io/PrintStream"), accessFlags := 25, slot := 1, constantValue := 0 }, { name := "err", type := (.object "java/io/PrintStream"), accessFlags := 25, slot := 2, constantValue := 0 }, { name := "initialIn", type := (.object "java/io/InputStream"), accessFlags := 10, slot := 3, constantValue := 0 }, { name := "NEVER", type := .int, accessFlags := 26, slot := 4, constantValue := 0 }, { name := "MAYBE", type := .int, accessFlags := 26, slot := 5, constantValue := 0 }, { name := "allowSecurityManager", type := .int, accessFlags := 10, slot := 6, constantValue := 0 }, { name := "security", type := (.object "java/lang/SecurityManager"), accessFlags := 74, slot := 7, constantValue := 0 }, { name := "notSupportedJnuEncoding", type := (.object "java/lang/String"), accessFlags := 10, slot := 8, constantValue := 0 }, { name := "cons", type := (.object "java/io/Console"), accessFlags := 74, slot := 9, constantValue := 0 }, { name := "initialErrStream", type := (.object "java/io/PrintStream"), accessFlags := 74, slot := 10, constantValue := 0 }, { name := "props", type := (.object "java/util/Properties"), accessFlags := 10, slot := 11, constantValue := 0 }, { name := "lineSeparator", type := (.object "java/lang/String"), accessFlags := 10, slot := 12, constantValue := 0 }, { name := "bootLayer", type := (.object "java/lang/ModuleLayer"), accessFlags := 8, slot := 13, constantValue := 0 }]
  methods := #[k19m0, k19m1]
  instanceTypes := #[]
  staticTypes := #[(.object "java/io/InputStream"), (.object "java/io/PrintStream"), (.object "java/io/PrintStream"), (.object "java/io/InputStream"), .int, .int, .int, (.object "java/lang/SecurityManager"), (.object "java/lang/String"), (.object "java/io/Console"), (.object "java/io/PrintStream"), (.object "java/util/Properties"), (.object "java/lang/String"), (.object "java/lang/ModuleLayer")]
  resolved := Array.replicate 834 none
  statics := none }

/-- the primitive byte -/
def k20 : Class := { plain "byte" none with kind := .primitive 'B', accessFlags := 0x411 }
/-- [B -/
def k21 : Class := { plain "[B" (some 0) with kind := .array 20 .byte, interfaces := #[14, 2], accessFlags := 1041 }

/-- the primitive char -/
def k22 : Class := { plain "char" none with kind := .primitive 'C', accessFlags := 0x411 }
/-- [C -/
def k23 : Class := { plain "[C" (some 0) with kind := .array 22 .char, interfaces := #[14, 2], accessFlags := 1041 }

/-- the primitive int -/
def k24 : Class := { plain "int" none with kind := .primitive 'I', accessFlags := 0x411 }
/-- [I -/
def k25 : Class := { plain "[I" (some 0) with kind := .array 24 .int, interfaces := #[14, 2], accessFlags := 1041 }

def heap : Heap := #[{ cls := 7, slots := #[.long 0, .int 1, .null, .int 0, .null, .int 0, .int 0], vm := .statics 7 },
  { cls := 15, slots := #[.null, .null, .null], vm := .statics 15 },
  { cls := 16, slots := #[.int 0, .int 8, .int 0, .int 1], vm := .statics 16 }]
def classes : Array Class := #[k0, k1, k2, k3, k4, k5, k6, k7, k8, k9, k10, k11, k12, k13, k14, k15, k16, k17, k18, k19, k20, k21, k22, k23, k24, k25]
def interned : List (Array UInt16 × Addr) := []
def slotsUsed : Nat := 14
def theMethod : MethodId := ⟨1, 1⟩
def args0 : Array Value := #[.int 2, .int 65, .int 66, .int 67]
def aboutOver (below : List Frame) : State where
  vm := { classes := classes, interned := interned.toArray }
  heap := heap
  slotsUsed := slotsUsed
  threads := #[{ frames := .invoking theMethod args0 :: below }]
def below0 : List Frame := [.native { method := ⟨0, 0⟩, args := #[] }]
def about1 : State := aboutOver below0
def p0 : Program := .bare "" "" ""
def e0 : Env := launch0.env 0 0 0
theorem w_frames : about1.frames = Frame.invoking theMethod args0 :: below0 := rfl
set_option maxRecDepth 65536 in
theorem w_args : argsFit about1.vm theMethod args0 = true := by decide +kernel
set_option maxRecDepth 65536 in
theorem w_heap : heapFits about1 = true := by decide +kernel
set_option maxRecDepth 65536 in
theorem w_runnable : about1.curStatus? = some .runnable := by decide +kernel
set_option maxRecDepth 65536 in
theorem w_alone : about1.alone = true := by decide +kernel
set_option maxRecDepth 65536 in
theorem w_named : about1.methodNamed? x = some theMethod := by decide +kernel
set_option maxRecDepth 65536 in
theorem w_hears : about1.hears theMethod below0 = true := by decide +kernel
set_option maxRecDepth 65536 in
theorem w_ripe : about1.ripe theMethod args0 below0 = true := by decide +kernel
theorem w_running : about1.status = .running := rfl
set_option maxRecDepth 65536 in
theorem w_room : about1.hasRoom e0.platform room_1 = true :=
  launch0.hasRoom_least _ room_1 (by decide +kernel) (by decide +kernel) (by decide +kernel) (by decide +kernel) (by decide +kernel) (by decide +kernel)
theorem allAtoms_all (ts : List Jvm.Cond) (a : Array Jvm.Value) (st : Jvm.State) : (allAtoms ts).before a st = ts.all (fun c => c.before a st) := by
  induction ts with
  | nil => rfl
  | cons c t ih =>
    show (Jvm.Cond.and c (allAtoms t)).before a st = _
    rw [Jvm.Cond.before_and, ih, List.all_cons]
def words1 : List Jvm.Cond := Jvm.Cond.code x code maxLocals ret :: tables_1
/-- a 'code' word, met by the world's own term for the bytes: nothing is compared byte by byte -/
theorem code_word {y : MethodName} {bytes : ByteArray} {mx : Nat} {rt : Option FieldType} {a : Array Value} {s : State} {m : MethodId} {meth : Method} {c : Code} (h1 : s.methodNamed? y = some m) (h2 : s.vm.method? m = some meth) (h3 : meth.code = some c) (h4 : c.code = bytes)
    (h5 : (c.maxLocals == mx && c.exceptionTable.isEmpty && decide (c.maxStack ≤ mostOperands) && decide (meth.sig.returnType = rt) && !meth.locks && decide (parseMethodDescriptor y.desc = some meth.sig)) = true) : (Jvm.Cond.code y bytes mx rt).before a s = true := by
  simp only [Bool.and_eq_true, beq_iff_eq, Bool.not_eq_true', decide_eq_true_eq] at h5
  obtain ⟨⟨⟨⟨⟨g1, g2⟩, g3⟩, g4⟩, g5⟩, g6⟩ := h5
  simp [Cond.before, Cond.holds, Cond.value, h1, h2, h3, h4, g1, g2, g3, g4, g5, g6]
def isCode : Jvm.Cond → Bool
  | .code _ _ _ _ => true
  | _ => false
theorem all_split {L : List Jvm.Cond} {P : Jvm.Cond → Bool} (h1 : L.all (fun c => isCode c || P c) = true) (h2 : ∀ c ∈ L.filter isCode, P c = true) : L.all P = true := by
  refine List.all_eq_true.mpr fun c hc => ?_
  have h := List.all_eq_true.mp h1 c hc
  rcases Bool.eq_false_or_eq_true (isCode c) with hi | hi
  · exact h2 c (List.mem_filter.mpr ⟨hc, hi⟩)
  · simpa [hi] using h
set_option maxRecDepth 65536 in
theorem w_c0 : (Jvm.Cond.code x code maxLocals ret).before args0 about1 = true := code_word (m := ⟨1, 1⟩) (meth := k1m1) (c := k1c1) (by decide +kernel) rfl rfl rfl (by decide +kernel)
set_option maxRecDepth 65536 in
theorem w_c1 : (Jvm.Cond.code ({ cls := "com/example/bnodiff/bnodiff/model/TermIriPinLaw", name := "ch", desc := "(I)C" } : Jvm.MethodName) method_3_code (1 : Nat) (Option.some Jvm.ClassFile.FieldType.char)).before args0 about1 = true := code_word (m := ⟨1, 2⟩) (meth := k1m2) (c := k1c2) (by decide +kernel) rfl rfl rfl (by decide +kernel)
set_option maxRecDepth 65536 in
theorem w_c2 : (Jvm.Cond.code ({ cls := "java/lang/String", name := "<init>", desc := "([C)V" } : Jvm.MethodName) jdk_42_method_3_code (2 : Nat) (Option.none : Option Jvm.ClassFile.FieldType)).before args0 about1 = true := code_word (m := ⟨7, 1⟩) (meth := k7m1) (c := k7c1) (by decide +kernel) rfl rfl rfl (by decide +kernel)
set_option maxRecDepth 65536 in
theorem w_c3 : (Jvm.Cond.code ({ cls := "java/lang/String", name := "<init>", desc := "([CIILjava/lang/Void;)V" } : Jvm.MethodName) jdk_42_method_149_code (6 : Nat) (Option.none : Option Jvm.ClassFile.FieldType)).before args0 about1 = true := code_word (m := ⟨7, 8⟩) (meth := k7m8) (c := k7c8) (by decide +kernel) rfl rfl rfl (by decide +kernel)
set_option maxRecDepth 65536 in
theorem w_c4 : (Jvm.Cond.code ({ cls := "java/lang/Object", name := "<init>", desc := "()V" } : Jvm.MethodName) object_method_1_code (1 : Nat) (Option.none : Option Jvm.ClassFile.FieldType)).before args0 about1 = true := code_word (m := ⟨0, 0⟩) (meth := k0m0) (c := k0c0) (by decide +kernel) rfl rfl rfl (by decide +kernel)
set_option maxRecDepth 65536 in
theorem w_c5 : (Jvm.Cond.code ({ cls := "com/example/bnodiff/bnodiff/model/Term", name := "iri", desc := "(Ljava/lang/String;)Lcom/example/bnodiff/bnodiff/model/Term;" } : Jvm.MethodName) prog_54_method_2_code (4 : Nat) (Option.some (Jvm.ClassFile.FieldType.object "com/example/bnodiff/bnodiff/model/Term"))).before args0 about1 = true := code_word (m := ⟨8, 1⟩) (meth := k8m1) (c := k8c1) (by decide +kernel) rfl rfl rfl (by decide +kernel)
set_option maxRecDepth 65536 in
theorem w_c6 : (Jvm.Cond.code ({ cls := "java/lang/String", name := "length", desc := "()I" } : Jvm.MethodName) jdk_42_method_54_code (1 : Nat) (Option.some Jvm.ClassFile.FieldType.int)).before args0 about1 = true := code_word (m := ⟨7, 3⟩) (meth := k7m3) (c := k7c3) (by decide +kernel) rfl rfl rfl (by decide +kernel)
set_option maxRecDepth 65536 in
theorem w_c7 : (Jvm.Cond.code ({ cls := "java/lang/String", name := "coder", desc := "()B" } : Jvm.MethodName) jdk_42_method_152_code (1 : Nat) (Option.some Jvm.ClassFile.FieldType.byte)).before args0 about1 = true := code_word (m := ⟨7, 10⟩) (meth := k7m10) (c := k7c10) (by decide +kernel) rfl rfl rfl (by decide +kernel)
set_option maxRecDepth 65536 in
theorem w_c8 : (Jvm.Cond.code ({ cls := "java/lang/StringBuilder", name := "<init>", desc := "(I)V" } : Jvm.MethodName) jdk_67_method_2_code (2 : Nat) (Option.none : Option Jvm.ClassFile.FieldType)).before args0 about1 = true := code_word (m := ⟨11, 1⟩) (meth := k11m1) (c := k11c1) (by decide +kernel) rfl rfl rfl (by decide +kernel)
set_option maxRecDepth 65536 in
theorem w_c9 : (Jvm.Cond.code ({ cls := "java/lang/AbstractStringBuilder", name := "<init>", desc := "(I)V" } : Jvm.MethodName) jdk_68_method_2_code (2 : Nat) (Option.none : Option Jvm.ClassFile.FieldType)).before args0 about1 = true := code_word (m := ⟨10, 1⟩) (meth := k10m1) (c := k10c1) (by decide +kernel) rfl rfl rfl (by decide +kernel)
set_option maxRecDepth 65536 in
theorem w_c10 : (Jvm.Cond.code ({ cls := "java/lang/StringBuilder", name := "append", desc := "(C)Ljava/lang/StringBuilder;" } : Jvm.MethodName) jdk_67_method_14_code (2 : Nat) (Option.some (Jvm.ClassFile.FieldType.object "java/lang/StringBuilder"))).before args0 about1 = true := code_word (m := ⟨11, 3⟩) (meth := k11m3) (c := k11c3) (by decide +kernel) rfl rfl rfl (by decide +kernel)
set_option maxRecDepth 65536 in
theorem w_c11 : (Jvm.Cond.code ({ cls := "java/lang/AbstractStringBuilder", name := "append", desc := "(C)Ljava/lang/AbstractStringBuilder;" } : Jvm.MethodName) jdk_68_method_31_code (2 : Nat) (Option.some (Jvm.ClassFile.FieldType.object "java/lang/AbstractStringBuilder"))).before args0 about1 = true := code_word (m := ⟨10, 7⟩) (meth := k10m7) (c := k10c7) (by decide +kernel) rfl rfl rfl (by decide +kernel)
set_option maxRecDepth 65536 in
theorem w_c12 : (Jvm.Cond.code ({ cls := "java/lang/AbstractStringBuilder", name := "ensureCapacityInternal", desc := "(I)V" } : Jvm.MethodName) jdk_68_method_9_code (3 : Nat) (Option.none : Option Jvm.ClassFile.FieldType)).before args0 about1 = true := code_word (m := ⟨10, 3⟩) (meth := k10m3) (c := k10c3) (by decide +kernel) rfl rfl rfl (by decide +kernel)
set_option maxRecDepth 65536 in
theorem w_c13 : (Jvm.Cond.code ({ cls := "java/lang/AbstractStringBuilder", name := "isLatin1", desc := "()Z" } : Jvm.MethodName) jdk_68_method_68_code (1 : Nat) (Option.some Jvm.ClassFile.FieldType.boolean)).before args0 about1 = true := code_word (m := ⟨10, 9⟩) (meth := k10m9) (c := k10c9) (by decide +kernel) rfl rfl rfl (by decide +kernel)
set_option maxRecDepth 65536 in
theorem w_c14 : (Jvm.Cond.code ({ cls := "java/lang/StringLatin1", name := "canEncode", desc := "(C)Z" } : Jvm.MethodName) jdk_43_method_3_code (1 : Nat) (Option.some Jvm.ClassFile.FieldType.boolean)).before args0 about1 = true := code_word (m := ⟨12, 2⟩) (meth := k12m2) (c := k12c2) (by decide +kernel) rfl rfl rfl (by decide +kernel)
set_option maxRecDepth 65536 in
theorem w_c15 : (Jvm.Cond.code ({ cls := "java/lang/StringBuilder", name := "toString", desc := "()Ljava/lang/String;" } : Jvm.MethodName) jdk_67_method_42_code (1 : Nat) (Option.some (Jvm.ClassFile.FieldType.object "java/lang/String"))).before args0 about1 = true := code_word (m := ⟨11, 4⟩) (meth := k11m4) (c := k11c4) (by decide +kernel) rfl rfl rfl (by decide +kernel)
set_option maxRecDepth 65536 in
theorem w_c16 : (Jvm.Cond.code ({ cls := "java/lang/String", name := "<init>", desc := "(Ljava/lang/StringBuilder;)V" } : Jvm.MethodName) jdk_42_method_53_code (2 : Nat) (Option.none : Option Jvm.ClassFile.FieldType)).before args0 about1 = true := code_word (m := ⟨7, 2⟩) (meth := k7m2) (c := k7c2) (by decide +kernel) rfl rfl rfl (by decide +kernel)
set_option maxRecDepth 65536 in
theorem w_c17 : (Jvm.Cond.code ({ cls := "java/lang/String", name := "<init>", desc := "(Ljava/lang/AbstractStringBuilder;Ljava/lang/Void;)V" } : Jvm.MethodName) jdk_42_method_150_code (5 : Nat) (Option.none : Option Jvm.ClassFile.FieldType)).before args0 about1 = true := code_word (m := ⟨7, 9⟩) (meth := k7m9) (c := k7c9) (by decide +kernel) rfl rfl rfl (by decide +kernel)
set_option maxRecDepth 65536 in
theorem w_c18 : (Jvm.Cond.code ({ cls := "java/lang/AbstractStringBuilder", name := "getValue", desc := "()[B" } : Jvm.MethodName) jdk_68_method_64_code (1 : Nat) (Option.some (Jvm.ClassFile.FieldType.array Jvm.ClassFile.FieldType.byte))).before args0 about1 = true := code_word (m := ⟨10, 8⟩) (meth := k10m8) (c := k10c8) (by decide +kernel) rfl rfl rfl (by decide +kernel)
set_option maxRecDepth 65536 in
theorem w_c19 : (Jvm.Cond.code ({ cls := "java/lang/StringBuilder", name := "length", desc := "()I" } : Jvm.MethodName) jdk_67_method_93_code (1 : Nat) (Option.some Jvm.ClassFile.FieldType.int)).before args0 about1 = true := code_word (m := ⟨11, 5⟩) (meth := k11m5) (c := k11c5) (by decide +kernel) rfl rfl rfl (by decide +kernel)
set_option maxRecDepth 65536 in
theorem w_c20 : (Jvm.Cond.code ({ cls := "java/lang/AbstractStringBuilder", name := "length", desc := "()I" } : Jvm.MethodName) jdk_68_method_6_code (1 : Nat) (Option.some Jvm.ClassFile.FieldType.int)).before args0 about1 = true := code_word (m := ⟨10, 2⟩) (meth := k10m2) (c := k10c2) (by decide +kernel) rfl rfl rfl (by decide +kernel)
set_option maxRecDepth 65536 in
theorem w_c21 : (Jvm.Cond.code ({ cls := "java/util/Arrays", name := "copyOfRange", desc := "([BII)[B" } : Jvm.MethodName) jdk_65_method_132_code (3 : Nat) (Option.some (Jvm.ClassFile.FieldType.array Jvm.ClassFile.FieldType.byte))).before args0 about1 = true := code_word (m := ⟨13, 3⟩) (meth := k13m3) (c := k13c3) (by decide +kernel) rfl rfl rfl (by decide +kernel)
set_option maxRecDepth 65536 in
theorem w_c22 : (Jvm.Cond.code ({ cls := "com/example/bnodiff/bnodiff/model/Term", name := "<init>", desc := "(Ljava/lang/String;)V" } : Jvm.MethodName) prog_54_method_1_code (2 : Nat) (Option.none : Option Jvm.ClassFile.FieldType)).before args0 about1 = true := code_word (m := ⟨8, 0⟩) (meth := k8m0) (c := k8c0) (by decide +kernel) rfl rfl rfl (by decide +kernel)
set_option maxRecDepth 65536 in
theorem w_c23 : (Jvm.Cond.code ({ cls := "com/example/bnodiff/bnodiff/model/Term", name := "toString", desc := "()Ljava/lang/String;" } : Jvm.MethodName) prog_54_method_10_code (1 : Nat) (Option.some (Jvm.ClassFile.FieldType.object "java/lang/String"))).before args0 about1 = true := code_word (m := ⟨8, 2⟩) (meth := k8m2) (c := k8c2) (by decide +kernel) rfl rfl rfl (by decide +kernel)
set_option maxRecDepth 65536 in
theorem w_c24 : (Jvm.Cond.code ({ cls := "java/lang/String", name := "charAt", desc := "(I)C" } : Jvm.MethodName) jdk_42_method_56_code (2 : Nat) (Option.some Jvm.ClassFile.FieldType.char)).before args0 about1 = true := code_word (m := ⟨7, 4⟩) (meth := k7m4) (c := k7c4) (by decide +kernel) rfl rfl rfl (by decide +kernel)
set_option maxRecDepth 65536 in
theorem w_c25 : (Jvm.Cond.code ({ cls := "java/lang/String", name := "isLatin1", desc := "()Z" } : Jvm.MethodName) jdk_42_method_154_code (1 : Nat) (Option.some Jvm.ClassFile.FieldType.boolean)).before args0 about1 = true := code_word (m := ⟨7, 11⟩) (meth := k7m11) (c := k7c11) (by decide +kernel) rfl rfl rfl (by decide +kernel)
set_option maxRecDepth 65536 in
theorem w_c26 : (Jvm.Cond.code ({ cls := "java/lang/StringLatin1", name := "charAt", desc := "([BI)C" } : Jvm.MethodName) jdk_43_method_2_code (2 : Nat) (Option.some Jvm.ClassFile.FieldType.char)).before args0 about1 = true := code_word (m := ⟨12, 1⟩) (meth := k12m1) (c := k12c1) (by decide +kernel) rfl rfl rfl (by decide +kernel)
set_option maxRecDepth 65536 in
theorem w_c27 : (Jvm.Cond.code ({ cls := "java/lang/String", name := "checkIndex", desc := "(II)V" } : Jvm.MethodName) jdk_42_method_155_code (2 : Nat) (Option.none : Option Jvm.ClassFile.FieldType)).before args0 about1 = true := code_word (m := ⟨7, 12⟩) (meth := k7m12) (c := k7c12) (by decide +kernel) rfl rfl rfl (by decide +kernel)
set_option maxRecDepth 65536 in
theorem w_c28 : (Jvm.Cond.code ({ cls := "jdk/internal/util/Preconditions", name := "checkIndex", desc := "(IILjava/util/function/BiFunction;)I" } : Jvm.MethodName) jdk_41_method_11_code (3 : Nat) (Option.some Jvm.ClassFile.FieldType.int)).before args0 about1 = true := code_word (m := ⟨15, 1⟩) (meth := k15m1) (c := k15c1) (by decide +kernel) rfl rfl rfl (by decide +kernel)
set_option maxRecDepth 65536 in
theorem w_c29 : (Jvm.Cond.code ({ cls := "java/lang/StringUTF16", name := "compress", desc := "([CII)[B" } : Jvm.MethodName) jdk_52_method_16_code (6 : Nat) (Option.some (Jvm.ClassFile.FieldType.array Jvm.ClassFile.FieldType.byte))).before args0 about1 = true := code_word (m := ⟨16, 8⟩) (meth := k16m8) (c := k16c8) (by decide +kernel) rfl rfl rfl (by decide +kernel)
set_option maxRecDepth 65536 in
theorem w_c30 : (Jvm.Cond.code ({ cls := "java/lang/StringUTF16", name := "compress", desc := "([CI[BII)I" } : Jvm.MethodName) jdk_52_method_21_code (7 : Nat) (Option.some Jvm.ClassFile.FieldType.int)).before args0 about1 = true := code_word (m := ⟨16, 9⟩) (meth := k16m9) (c := k16c9) (by decide +kernel) rfl rfl rfl (by decide +kernel)
set_option maxRecDepth 65536 in
theorem w_c31 : (Jvm.Cond.code ({ cls := "java/lang/StringUTF16", name := "coderFromArrayLen", desc := "([BI)B" } : Jvm.MethodName) jdk_52_method_15_code (2 : Nat) (Option.some Jvm.ClassFile.FieldType.byte)).before args0 about1 = true := code_word (m := ⟨16, 7⟩) (meth := k16m7) (c := k16c7) (by decide +kernel) rfl rfl rfl (by decide +kernel)
set_option maxRecDepth 65536 in
theorem w_c32 : (Jvm.Cond.code ({ cls := "java/lang/String", name := "indexOf", desc := "(I)I" } : Jvm.MethodName) jdk_42_method_79_code (2 : Nat) (Option.some Jvm.ClassFile.FieldType.int)).before args0 about1 = true := code_word (m := ⟨7, 5⟩) (meth := k7m5) (c := k7c5) (by decide +kernel) rfl rfl rfl (by decide +kernel)
set_option maxRecDepth 65536 in
theorem w_c33 : (Jvm.Cond.code ({ cls := "java/lang/String", name := "indexOf", desc := "(II)I" } : Jvm.MethodName) jdk_42_method_80_code (3 : Nat) (Option.some Jvm.ClassFile.FieldType.int)).before args0 about1 = true := code_word (m := ⟨7, 6⟩) (meth := k7m6) (c := k7c6) (by decide +kernel) rfl rfl rfl (by decide +kernel)
set_option maxRecDepth 65536 in
theorem w_c34 : (Jvm.Cond.code ({ cls := "java/lang/StringLatin1", name := "indexOf", desc := "([BIII)I" } : Jvm.MethodName) jdk_43_method_22_code (4 : Nat) (Option.some Jvm.ClassFile.FieldType.int)).before args0 about1 = true := code_word (m := ⟨12, 4⟩) (meth := k12m4) (c := k12c4) (by decide +kernel) rfl rfl rfl (by decide +kernel)
set_option maxRecDepth 65536 in
theorem w_c35 : (Jvm.Cond.code ({ cls := "java/lang/StringLatin1", name := "canEncode", desc := "(I)Z" } : Jvm.MethodName) jdk_43_method_4_code (1 : Nat) (Option.some Jvm.ClassFile.FieldType.boolean)).before args0 about1 = true := code_word (m := ⟨12, 3⟩) (meth := k12m3) (c := k12c3) (by decide +kernel) rfl rfl rfl (by decide +kernel)
set_option maxRecDepth 65536 in
theorem w_c36 : (Jvm.Cond.code ({ cls := "java/lang/Math", name := "max", desc := "(II)I" } : Jvm.MethodName) jdk_29_method_65_code (2 : Nat) (Option.some Jvm.ClassFile.FieldType.int)).before args0 about1 = true := code_word (m := ⟨17, 1⟩) (meth := k17m1) (c := k17c1) (by decide +kernel) rfl rfl rfl (by decide +kernel)
set_option maxRecDepth 65536 in
theorem w_c37 : (Jvm.Cond.code ({ cls := "java/lang/Math", name := "min", desc := "(II)I" } : Jvm.MethodName) jdk_29_method_69_code (2 : Nat) (Option.some Jvm.ClassFile.FieldType.int)).before args0 about1 = true := code_word (m := ⟨17, 2⟩) (meth := k17m2) (c := k17c2) (by decide +kernel) rfl rfl rfl (by decide +kernel)
set_option maxRecDepth 65536 in
theorem w_c38 : (Jvm.Cond.code ({ cls := "java/lang/StringLatin1", name := "indexOfChar", desc := "([BIII)I" } : Jvm.MethodName) jdk_43_method_23_code (6 : Nat) (Option.some Jvm.ClassFile.FieldType.int)).before args0 about1 = true := code_word (m := ⟨12, 5⟩) (meth := k12m5) (c := k12c5) (by decide +kernel) rfl rfl rfl (by decide +kernel)
set_option maxRecDepth 65536 in
theorem w_c39 : (Jvm.Cond.code ({ cls := "com/example/bnodiff/bnodiff/model/TermIriPinLaw", name := "width", desc := "(C)I" } : Jvm.MethodName) method_5_code (1 : Nat) (Option.some Jvm.ClassFile.FieldType.int)).before args0 about1 = true := code_word (m := ⟨1, 4⟩) (meth := k1m4) (c := k1c4) (by decide +kernel) rfl rfl rfl (by decide +kernel)
set_option maxRecDepth 65536 in
theorem w_c40 : (Jvm.Cond.code ({ cls := "com/example/bnodiff/bnodiff/model/TermIriPinLaw", name := "escaped", desc := "(C)Z" } : Jvm.MethodName) method_4_code (1 : Nat) (Option.some Jvm.ClassFile.FieldType.boolean)).before args0 about1 = true := code_word (m := ⟨1, 3⟩) (meth := k1m3) (c := k1c3) (by decide +kernel) rfl rfl rfl (by decide +kernel)
set_option maxRecDepth 65536 in
theorem w_c41 : (Jvm.Cond.code ({ cls := "com/example/bnodiff/bnodiff/model/TermIriPinLaw", name := "ok", desc := "(Ljava/lang/String;IC)Z" } : Jvm.MethodName) method_7_code (3 : Nat) (Option.some Jvm.ClassFile.FieldType.boolean)).before args0 about1 = true := code_word (m := ⟨1, 6⟩) (meth := k1m6) (c := k1c6) (by decide +kernel) rfl rfl rfl (by decide +kernel)
set_option maxRecDepth 65536 in
theorem w_c42 : (Jvm.Cond.code ({ cls := "java/lang/StringBuilder", name := "append", desc := "(Ljava/lang/String;)Ljava/lang/StringBuilder;" } : Jvm.MethodName) jdk_67_method_7_code (2 : Nat) (Option.some (Jvm.ClassFile.FieldType.object "java/lang/StringBuilder"))).before args0 about1 = true := code_word (m := ⟨11, 2⟩) (meth := k11m2) (c := k11c2) (by decide +kernel) rfl rfl rfl (by decide +kernel)
set_option maxRecDepth 65536 in
theorem w_c43 : (Jvm.Cond.code ({ cls := "java/lang/AbstractStringBuilder", name := "append", desc := "(Ljava/lang/String;)Ljava/lang/AbstractStringBuilder;" } : Jvm.MethodName) jdk_68_method_22_code (3 : Nat) (Option.some (Jvm.ClassFile.FieldType.object "java/lang/AbstractStringBuilder"))).before args0 about1 = true := code_word (m := ⟨10, 6⟩) (meth := k10m6) (c := k10c6) (by decide +kernel) rfl rfl rfl (by decide +kernel)
set_option maxRecDepth 65536 in
theorem w_c44 : (Jvm.Cond.code ({ cls := "java/lang/AbstractStringBuilder", name := "newCapacity", desc := "(I)I" } : Jvm.MethodName) jdk_68_method_10_code (6 : Nat) (Option.some Jvm.ClassFile.FieldType.int)).before args0 about1 = true := code_word (m := ⟨10, 4⟩) (meth := k10m4) (c := k10c4) (by decide +kernel) rfl rfl rfl (by decide +kernel)
set_option maxRecDepth 65536 in
theorem w_c45 : (Jvm.Cond.code ({ cls := "jdk/internal/util/ArraysSupport", name := "newLength", desc := "(III)I" } : Jvm.MethodName) jdk_48_method_27_code (4 : Nat) (Option.some Jvm.ClassFile.FieldType.int)).before args0 about1 = true := code_word (m := ⟨18, 1⟩) (meth := k18m1) (c := k18c1) (by decide +kernel) rfl rfl rfl (by decide +kernel)
set_option maxRecDepth 65536 in
theorem w_c46 : (Jvm.Cond.code ({ cls := "java/util/Arrays", name := "copyOf", desc := "([BI)[B" } : Jvm.MethodName) jdk_65_method_121_code (3 : Nat) (Option.some (Jvm.ClassFile.FieldType.array Jvm.ClassFile.FieldType.byte))).before args0 about1 = true := code_word (m := ⟨13, 1⟩) (meth := k13m1) (c := k13c1) (by decide +kernel) rfl rfl rfl (by decide +kernel)
set_option maxRecDepth 65536 in
theorem w_c47 : (Jvm.Cond.code ({ cls := "java/lang/AbstractStringBuilder", name := "putStringAt", desc := "(ILjava/lang/String;)V" } : Jvm.MethodName) jdk_68_method_73_code (3 : Nat) (Option.none : Option Jvm.ClassFile.FieldType)).before args0 about1 = true := code_word (m := ⟨10, 11⟩) (meth := k10m11) (c := k10c11) (by decide +kernel) rfl rfl rfl (by decide +kernel)
set_option maxRecDepth 65536 in
theorem w_c48 : (Jvm.Cond.code ({ cls := "java/lang/AbstractStringBuilder", name := "inflateIfNeededFor", desc := "(Ljava/lang/String;)V" } : Jvm.MethodName) jdk_68_method_71_code (2 : Nat) (Option.none : Option Jvm.ClassFile.FieldType)).before args0 about1 = true := code_word (m := ⟨10, 10⟩) (meth := k10m10) (c := k10c10) (by decide +kernel) rfl rfl rfl (by decide +kernel)
set_option maxRecDepth 65536 in
theorem w_c49 : (Jvm.Cond.code ({ cls := "java/lang/String", name := "getBytes", desc := "([BIB)V" } : Jvm.MethodName) jdk_42_method_147_code (4 : Nat) (Option.none : Option Jvm.ClassFile.FieldType)).before args0 about1 = true := code_word (m := ⟨7, 7⟩) (meth := k7m7) (c := k7c7) (by decide +kernel) rfl rfl rfl (by decide +kernel)
set_option maxRecDepth 65536 in
theorem w_c50 : (Jvm.Cond.code ({ cls := "com/example/bnodiff/bnodiff/model/TermIriPinLaw", name := "hex", desc := "(I)C" } : Jvm.MethodName) method_6_code (1 : Nat) (Option.some Jvm.ClassFile.FieldType.char)).before args0 about1 = true := code_word (m := ⟨1, 5⟩) (meth := k1m5) (c := k1c5) (by decide +kernel) rfl rfl rfl (by decide +kernel)
set_option maxRecDepth 65536 in
theorem w_c51 : (Jvm.Cond.code ({ cls := "java/lang/StringUTF16", name := "toBytes", desc := "([CII)[B" } : Jvm.MethodName) jdk_52_method_14_code (5 : Nat) (Option.some (Jvm.ClassFile.FieldType.array Jvm.ClassFile.FieldType.byte))).before args0 about1 = true := code_word (m := ⟨16, 6⟩) (meth := k16m6) (c := k16c6) (by decide +kernel) rfl rfl rfl (by decide +kernel)
set_option maxRecDepth 65536 in
theorem w_c52 : (Jvm.Cond.code ({ cls := "java/lang/StringUTF16", name := "newBytesFor", desc := "(I)[B" } : Jvm.MethodName) jdk_52_method_2_code (1 : Nat) (Option.some (Jvm.ClassFile.FieldType.array Jvm.ClassFile.FieldType.byte))).before args0 about1 = true := code_word (m := ⟨16, 1⟩) (meth := k16m1) (c := k16c1) (by decide +kernel) rfl rfl rfl (by decide +kernel)
set_option maxRecDepth 65536 in
theorem w_c53 : (Jvm.Cond.code ({ cls := "java/lang/StringUTF16", name := "newBytesLength", desc := "(I)I" } : Jvm.MethodName) jdk_52_method_3_code (1 : Nat) (Option.some Jvm.ClassFile.FieldType.int)).before args0 about1 = true := code_word (m := ⟨16, 2⟩) (meth := k16m2) (c := k16c2) (by decide +kernel) rfl rfl rfl (by decide +kernel)
set_option maxRecDepth 65536 in
theorem w_c54 : (Jvm.Cond.code ({ cls := "java/lang/StringUTF16", name := "putChar", desc := "([BII)V" } : Jvm.MethodName) jdk_52_method_4_code (3 : Nat) (Option.none : Option Jvm.ClassFile.FieldType)).before args0 about1 = true := code_word (m := ⟨16, 3⟩) (meth := k16m3) (c := k16c3) (by decide +kernel) rfl rfl rfl (by decide +kernel)
set_option maxRecDepth 65536 in
theorem w_c55 : (Jvm.Cond.code ({ cls := "java/lang/StringUTF16", name := "getChar", desc := "([BI)C" } : Jvm.MethodName) jdk_52_method_5_code (2 : Nat) (Option.some Jvm.ClassFile.FieldType.char)).before args0 about1 = true := code_word (m := ⟨16, 4⟩) (meth := k16m4) (c := k16c4) (by decide +kernel) rfl rfl rfl (by decide +kernel)
set_option maxRecDepth 65536 in
theorem w_c56 : (Jvm.Cond.code ({ cls := "java/lang/StringUTF16", name := "charAt", desc := "([BI)C" } : Jvm.MethodName) jdk_52_method_83_code (2 : Nat) (Option.some Jvm.ClassFile.FieldType.char)).before args0 about1 = true := code_word (m := ⟨16, 11⟩) (meth := k16m11) (c := k16c11) (by decide +kernel) rfl rfl rfl (by decide +kernel)
set_option maxRecDepth 65536 in
theorem w_c57 : (Jvm.Cond.code ({ cls := "java/lang/StringUTF16", name := "checkIndex", desc := "(I[B)V" } : Jvm.MethodName) jdk_52_method_91_code (2 : Nat) (Option.none : Option Jvm.ClassFile.FieldType)).before args0 about1 = true := code_word (m := ⟨16, 13⟩) (meth := k16m13) (c := k16c13) (by decide +kernel) rfl rfl rfl (by decide +kernel)
set_option maxRecDepth 65536 in
theorem w_c58 : (Jvm.Cond.code ({ cls := "java/lang/StringUTF16", name := "length", desc := "([B)I" } : Jvm.MethodName) jdk_52_method_6_code (1 : Nat) (Option.some Jvm.ClassFile.FieldType.int)).before args0 about1 = true := code_word (m := ⟨16, 5⟩) (meth := k16m5) (c := k16c5) (by decide +kernel) rfl rfl rfl (by decide +kernel)
set_option maxRecDepth 65536 in
theorem w_c59 : (Jvm.Cond.code ({ cls := "java/lang/AbstractStringBuilder", name := "inflate", desc := "()V" } : Jvm.MethodName) jdk_68_method_11_code (2 : Nat) (Option.none : Option Jvm.ClassFile.FieldType)).before args0 about1 = true := code_word (m := ⟨10, 5⟩) (meth := k10m5) (c := k10c5) (by decide +kernel) rfl rfl rfl (by decide +kernel)
set_option maxRecDepth 65536 in
theorem w_c60 : (Jvm.Cond.code ({ cls := "java/lang/StringLatin1", name := "inflate", desc := "([BI[BII)V" } : Jvm.MethodName) jdk_43_method_50_code (5 : Nat) (Option.none : Option Jvm.ClassFile.FieldType)).before args0 about1 = true := code_word (m := ⟨12, 6⟩) (meth := k12m6) (c := k12c6) (by decide +kernel) rfl rfl rfl (by decide +kernel)
set_option maxRecDepth 65536 in
theorem w_c61 : (Jvm.Cond.code ({ cls := "java/lang/StringUTF16", name := "inflate", desc := "([BI[BII)V" } : Jvm.MethodName) jdk_52_method_86_code (6 : Nat) (Option.none : Option Jvm.ClassFile.FieldType)).before args0 about1 = true := code_word (m := ⟨16, 12⟩) (meth := k16m12) (c := k16c12) (by decide +kernel) rfl rfl rfl (by decide +kernel)
set_option maxRecDepth 65536 in
theorem w_c62 : (Jvm.Cond.code ({ cls := "java/lang/StringUTF16", name := "checkBoundsOffCount", desc := "(II[B)V" } : Jvm.MethodName) jdk_52_method_94_code (3 : Nat) (Option.none : Option Jvm.ClassFile.FieldType)).before args0 about1 = true := code_word (m := ⟨16, 14⟩) (meth := k16m14) (c := k16c14) (by decide +kernel) rfl rfl rfl (by decide +kernel)
set_option maxRecDepth 65536 in
theorem w_c63 : (Jvm.Cond.code ({ cls := "java/lang/String", name := "checkBoundsOffCount", desc := "(III)I" } : Jvm.MethodName) jdk_42_method_157_code (3 : Nat) (Option.some Jvm.ClassFile.FieldType.int)).before args0 about1 = true := code_word (m := ⟨7, 13⟩) (meth := k7m13) (c := k7c13) (by decide +kernel) rfl rfl rfl (by decide +kernel)
set_option maxRecDepth 65536 in
theorem w_c64 : (Jvm.Cond.code ({ cls := "jdk/internal/util/Preconditions", name := "checkFromIndexSize", desc := "(IIILjava/util/function/BiFunction;)I" } : Jvm.MethodName) jdk_41_method_13_code (4 : Nat) (Option.some Jvm.ClassFile.FieldType.int)).before args0 about1 = true := code_word (m := ⟨15, 2⟩) (meth := k15m2) (c := k15c2) (by decide +kernel) rfl rfl rfl (by decide +kernel)
set_option maxRecDepth 65536 in
theorem w_c65 : (Jvm.Cond.code ({ cls := "java/lang/StringUTF16", name := "putCharSB", desc := "([BII)V" } : Jvm.MethodName) jdk_52_method_71_code (3 : Nat) (Option.none : Option Jvm.ClassFile.FieldType)).before args0 about1 = true := code_word (m := ⟨16, 10⟩) (meth := k16m10) (c := k16c10) (by decide +kernel) rfl rfl rfl (by decide +kernel)
set_option maxRecDepth 65536 in
theorem w_c66 : (Jvm.Cond.code ({ cls := "java/util/Arrays", name := "copyOfRangeByte", desc := "([BII)[B" } : Jvm.MethodName) jdk_65_method_133_code (5 : Nat) (Option.some (Jvm.ClassFile.FieldType.array Jvm.ClassFile.FieldType.byte))).before args0 about1 = true := code_word (m := ⟨13, 4⟩) (meth := k13m4) (c := k13c4) (by decide +kernel) rfl rfl rfl (by decide +kernel)
set_option maxRecDepth 65536 in
theorem w_c67 : (Jvm.Cond.code ({ cls := "java/util/Arrays", name := "checkLength", desc := "(II)V" } : Jvm.MethodName) jdk_65_method_131_code (2 : Nat) (Option.none : Option Jvm.ClassFile.FieldType)).before args0 about1 = true := code_word (m := ⟨13, 2⟩) (meth := k13m2) (c := k13c2) (by decide +kernel) rfl rfl rfl (by decide +kernel)
def codes1 : List Jvm.Cond := [Jvm.Cond.code x code maxLocals ret, Jvm.Cond.code ({ cls := "com/example/bnodiff/bnodiff/model/TermIriPinLaw", name := "ch", desc := "(I)C" } : Jvm.MethodName) method_3_code (1 : Nat) (Option.some Jvm.ClassFile.FieldType.char), Jvm.Cond.code ({ cls := "java/lang/String", name := "<init>", desc := "([C)V" } : Jvm.MethodName) jdk_42_method_3_code (2 : Nat) (Option.none : Option Jvm.ClassFile.FieldType), Jvm.Cond.code ({ cls := "java/lang/String", name := "<init>", desc := "([CIILjava/lang/Void;)V" } : Jvm.MethodName) jdk_42_method_149_code (6 : Nat) (Option.none : Option Jvm.ClassFile.FieldType), Jvm.Cond.code ({ cls := "java/lang/Object", name := "<init>", desc := "()V" } : Jvm.MethodName) object_method_1_code (1 : Nat) (Option.none : Option Jvm.ClassFile.FieldType), Jvm.Cond.code ({ cls := "com/example/bnodiff/bnodiff/model/Term", name := "iri", desc := "(Ljava/lang/String;)Lcom/example/bnodiff/bnodiff/model/Term;" } : Jvm.MethodName) prog_54_method_2_code (4 : Nat) (Option.some (Jvm.ClassFile.FieldType.object "com/example/bnodiff/bnodiff/model/Term")), Jvm.Cond.code ({ cls := "java/lang/String", name := "length", desc := "()I" } : Jvm.MethodName) jdk_42_method_54_code (1 : Nat) (Option.some Jvm.ClassFile.FieldType.int), Jvm.Cond.code ({ cls := "java/lang/String", name := "coder", desc := "()B" } : Jvm.MethodName) jdk_42_method_152_code (1 : Nat) (Option.some Jvm.ClassFile.FieldType.byte), Jvm.Cond.code ({ cls := "java/lang/StringBuilder", name := "<init>", desc := "(I)V" } : Jvm.MethodName) jdk_67_method_2_code (2 : Nat) (Option.none : Option Jvm.ClassFile.FieldType), Jvm.Cond.code ({ cls := "java/lang/AbstractStringBuilder", name := "<init>", desc := "(I)V" } : Jvm.MethodName) jdk_68_method_2_code (2 : Nat) (Option.none : Option Jvm.ClassFile.FieldType), Jvm.Cond.code ({ cls := "java/lang/StringBuilder", name := "append", desc := "(C)Ljava/lang/StringBuilder;" } : Jvm.MethodName) jdk_67_method_14_code (2 : Nat) (Option.some (Jvm.ClassFile.FieldType.object "java/lang/StringBuilder")), Jvm.Cond.code ({ cls := "java/lang/AbstractStringBuilder", name := "append", desc := "(C)Ljava/lang/AbstractStringBuilder;" } : Jvm.MethodName) jdk_68_method_31_code (2 : Nat) (Option.some (Jvm.ClassFile.FieldType.object "java/lang/AbstractStringBuilder")), Jvm.Cond.code ({ cls := "java/lang/AbstractStringBuilder", name := "ensureCapacityInternal", desc := "(I)V" } : Jvm.MethodName) jdk_68_method_9_code (3 : Nat) (Option.none : Option Jvm.ClassFile.FieldType), Jvm.Cond.code ({ cls := "java/lang/AbstractStringBuilder", name := "isLatin1", desc := "()Z" } : Jvm.MethodName) jdk_68_method_68_code (1 : Nat) (Option.some Jvm.ClassFile.FieldType.boolean), Jvm.Cond.code ({ cls := "java/lang/StringLatin1", name := "canEncode", desc := "(C)Z" } : Jvm.MethodName) jdk_43_method_3_code (1 : Nat) (Option.some Jvm.ClassFile.FieldType.boolean), Jvm.Cond.code ({ cls := "java/lang/StringBuilder", name := "toString", desc := "()Ljava/lang/String;" } : Jvm.MethodName) jdk_67_method_42_code (1 : Nat) (Option.some (Jvm.ClassFile.FieldType.object "java/lang/String")), Jvm.Cond.code ({ cls := "java/lang/String", name := "<init>", desc := "(Ljava/lang/StringBuilder;)V" } : Jvm.MethodName) jdk_42_method_53_code (2 : Nat) (Option.none : Option Jvm.ClassFile.FieldType), Jvm.Cond.code ({ cls := "java/lang/String", name := "<init>", desc := "(Ljava/lang/AbstractStringBuilder;Ljava/lang/Void;)V" } : Jvm.MethodName) jdk_42_method_150_code (5 : Nat) (Option.none : Option Jvm.ClassFile.FieldType), Jvm.Cond.code ({ cls := "java/lang/AbstractStringBuilder", name := "getValue", desc := "()[B" } : Jvm.MethodName) jdk_68_method_64_code (1 : Nat) (Option.some (Jvm.ClassFile.FieldType.array Jvm.ClassFile.FieldType.byte)), Jvm.Cond.code ({ cls := "java/lang/StringBuilder", name := "length", desc := "()I" } : Jvm.MethodName) jdk_67_method_93_code (1 : Nat) (Option.some Jvm.ClassFile.FieldType.int), Jvm.Cond.code ({ cls := "java/lang/AbstractStringBuilder", name := "length", desc := "()I" } : Jvm.MethodName) jdk_68_method_6_code (1 : Nat) (Option.some Jvm.ClassFile.FieldType.int), Jvm.Cond.code ({ cls := "java/util/Arrays", name := "copyOfRange", desc := "([BII)[B" } : Jvm.MethodName) jdk_65_method_132_code (3 : Nat) (Option.some (Jvm.ClassFile.FieldType.array Jvm.ClassFile.FieldType.byte)), Jvm.Cond.code ({ cls := "com/example/bnodiff/bnodiff/model/Term", name := "<init>", desc := "(Ljava/lang/String;)V" } : Jvm.MethodName) prog_54_method_1_code (2 : Nat) (Option.none : Option Jvm.ClassFile.FieldType), Jvm.Cond.code ({ cls := "com/example/bnodiff/bnodiff/model/Term", name := "toString", desc := "()Ljava/lang/String;" } : Jvm.MethodName) prog_54_method_10_code (1 : Nat) (Option.some (Jvm.ClassFile.FieldType.object "java/lang/String")), Jvm.Cond.code ({ cls := "java/lang/String", name := "charAt", desc := "(I)C" } : Jvm.MethodName) jdk_42_method_56_code (2 : Nat) (Option.some Jvm.ClassFile.FieldType.char), Jvm.Cond.code ({ cls := "java/lang/String", name := "isLatin1", desc := "()Z" } : Jvm.MethodName) jdk_42_method_154_code (1 : Nat) (Option.some Jvm.ClassFile.FieldType.boolean), Jvm.Cond.code ({ cls := "java/lang/StringLatin1", name := "charAt", desc := "([BI)C" } : Jvm.MethodName) jdk_43_method_2_code (2 : Nat) (Option.some Jvm.ClassFile.FieldType.char), Jvm.Cond.code ({ cls := "java/lang/String", name := "checkIndex", desc := "(II)V" } : Jvm.MethodName) jdk_42_method_155_code (2 : Nat) (Option.none : Option Jvm.ClassFile.FieldType), Jvm.Cond.code ({ cls := "jdk/internal/util/Preconditions", name := "checkIndex", desc := "(IILjava/util/function/BiFunction;)I" } : Jvm.MethodName) jdk_41_method_11_code (3 : Nat) (Option.some Jvm.ClassFile.FieldType.int), Jvm.Cond.code ({ cls := "java/lang/StringUTF16", name := "compress", desc := "([CII)[B" } : Jvm.MethodName) jdk_52_method_16_code (6 : Nat) (Option.some (Jvm.ClassFile.FieldType.array Jvm.ClassFile.FieldType.byte)), Jvm.Cond.code ({ cls := "java/lang/StringUTF16", name := "compress", desc := "([CI[BII)I" } : Jvm.MethodName) jdk_52_method_21_code (7 : Nat) (Option.some Jvm.ClassFile.FieldType.int), Jvm.Cond.code ({ cls := "java/lang/StringUTF16", name := "coderFromArrayLen", desc := "([BI)B" } : Jvm.MethodName) jdk_52_method_15_code (2 : Nat) (Option.some Jvm.ClassFile.FieldType.byte), Jvm.Cond.code ({ cls := "java/lang/String", name := "indexOf", desc := "(I)I" } : Jvm.MethodName) jdk_42_method_79_code (2 : Nat) (Option.some Jvm.ClassFile.FieldType.int), Jvm.Cond.code ({ cls := "java/lang/String", name := "indexOf", desc := "(II)I" } : Jvm.MethodName) jdk_42_method_80_code (3 : Nat) (Option.some Jvm.ClassFile.FieldType.int), Jvm.Cond.code ({ cls := "java/lang/StringLatin1", name := "indexOf", desc := "([BIII)I" } : Jvm.MethodName) jdk_43_method_22_code (4 : Nat) (Option.some Jvm.ClassFile.FieldType.int), Jvm.Cond.code ({ cls := "java/lang/StringLatin1", name := "canEncode", desc := "(I)Z" } : Jvm.MethodName) jdk_43_method_4_code (1 : Nat) (Option.some Jvm.ClassFile.FieldType.boolean), Jvm.Cond.code ({ cls := "java/lang/Math", name := "max", desc := "(II)I" } : Jvm.MethodName) jdk_29_method_65_code (2 : Nat) (Option.some Jvm.ClassFile.FieldType.int), Jvm.Cond.code ({ cls := "java/lang/Math", name := "min", desc := "(II)I" } : Jvm.MethodName) jdk_29_method_69_code (2 : Nat) (Option.some Jvm.ClassFile.FieldType.int), Jvm.Cond.code ({ cls := "java/lang/StringLatin1", name := "indexOfChar", desc := "([BIII)I" } : Jvm.MethodName) jdk_43_method_23_code (6 : Nat) (Option.some Jvm.ClassFile.FieldType.int), Jvm.Cond.code ({ cls := "com/example/bnodiff/bnodiff/model/TermIriPinLaw", name := "width", desc := "(C)I" } : Jvm.MethodName) method_5_code (1 : Nat) (Option.some Jvm.ClassFile.FieldType.int), Jvm.Cond.code ({ cls := "com/example/bnodiff/bnodiff/model/TermIriPinLaw", name := "escaped", desc := "(C)Z" } : Jvm.MethodName) method_4_code (1 : Nat) (Option.some Jvm.ClassFile.FieldType.boolean), Jvm.Cond.code ({ cls := "com/example/bnodiff/bnodiff/model/TermIriPinLaw", name := "ok", desc := "(Ljava/lang/String;IC)Z" } : Jvm.MethodName) method_7_code (3 : Nat) (Option.some Jvm.ClassFile.FieldType.boolean), Jvm.Cond.code ({ cls := "java/lang/StringBuilder", name := "append", desc := "(Ljava/lang/String;)Ljava/lang/StringBuilder;" } : Jvm.MethodName) jdk_67_method_7_code (2 : Nat) (Option.some (Jvm.ClassFile.FieldType.object "java/lang/StringBuilder")), Jvm.Cond.code ({ cls := "java/lang/AbstractStringBuilder", name := "append", desc := "(Ljava/lang/String;)Ljava/lang/AbstractStringBuilder;" } : Jvm.MethodName) jdk_68_method_22_code (3 : Nat) (Option.some (Jvm.ClassFile.FieldType.object "java/lang/AbstractStringBuilder")), Jvm.Cond.code ({ cls := "java/lang/AbstractStringBuilder", name := "newCapacity", desc := "(I)I" } : Jvm.MethodName) jdk_68_method_10_code (6 : Nat) (Option.some Jvm.ClassFile.FieldType.int), Jvm.Cond.code ({ cls := "jdk/internal/util/ArraysSupport", name := "newLength", desc := "(III)I" } : Jvm.MethodName) jdk_48_method_27_code (4 : Nat) (Option.some Jvm.ClassFile.FieldType.int), Jvm.Cond.code ({ cls := "java/util/Arrays", name := "copyOf", desc := "([BI)[B" } : Jvm.MethodName) jdk_65_method_121_code (3 : Nat) (Option.some (Jvm.ClassFile.FieldType.array Jvm.ClassFile.FieldType.byte)), Jvm.Cond.code ({ cls := "java/lang/AbstractStringBuilder", name := "putStringAt", desc := "(ILjava/lang/String;)V" } : Jvm.MethodName) jdk_68_method_73_code (3 : Nat) (Option.none : Option Jvm.ClassFile.FieldType), Jvm.Cond.code ({ cls := "java/lang/AbstractStringBuilder", name := "inflateIfNeededFor", desc := "(Ljava/lang/String;)V" } : Jvm.MethodName) jdk_68_method_71_code (2 : Nat) (Option.none : Option Jvm.ClassFile.FieldType), Jvm.Cond.code ({ cls := "java/lang/String", name := "getBytes", desc := "([BIB)V" } : Jvm.MethodName) jdk_42_method_147_code (4 : Nat) (Option.none : Option Jvm.ClassFile.FieldType), Jvm.Cond.code ({ cls := "com/example/bnodiff/bnodiff/model/TermIriPinLaw", name := "hex", desc := "(I)C" } : Jvm.MethodName) method_6_code (1 : Nat) (Option.some Jvm.ClassFile.FieldType.char), Jvm.Cond.code ({ cls := "java/lang/StringUTF16", name := "toBytes", desc := "([CII)[B" } : Jvm.MethodName) jdk_52_method_14_code (5 : Nat) (Option.some (Jvm.ClassFile.FieldType.array Jvm.ClassFile.FieldType.byte)), Jvm.Cond.code ({ cls := "java/lang/StringUTF16", name := "newBytesFor", desc := "(I)[B" } : Jvm.MethodName) jdk_52_method_2_code (1 : Nat) (Option.some (Jvm.ClassFile.FieldType.array Jvm.ClassFile.FieldType.byte)), Jvm.Cond.code ({ cls := "java/lang/StringUTF16", name := "newBytesLength", desc := "(I)I" } : Jvm.MethodName) jdk_52_method_3_code (1 : Nat) (Option.some Jvm.ClassFile.FieldType.int), Jvm.Cond.code ({ cls := "java/lang/StringUTF16", name := "putChar", desc := "([BII)V" } : Jvm.MethodName) jdk_52_method_4_code (3 : Nat) (Option.none : Option Jvm.ClassFile.FieldType), Jvm.Cond.code ({ cls := "java/lang/StringUTF16", name := "getChar", desc := "([BI)C" } : Jvm.MethodName) jdk_52_method_5_code (2 : Nat) (Option.some Jvm.ClassFile.FieldType.char), Jvm.Cond.code ({ cls := "java/lang/StringUTF16", name := "charAt", desc := "([BI)C" } : Jvm.MethodName) jdk_52_method_83_code (2 : Nat) (Option.some Jvm.ClassFile.FieldType.char), Jvm.Cond.code ({ cls := "java/lang/StringUTF16", name := "checkIndex", desc := "(I[B)V" } : Jvm.MethodName) jdk_52_method_91_code (2 : Nat) (Option.none : Option Jvm.ClassFile.FieldType), Jvm.Cond.code ({ cls := "java/lang/StringUTF16", name := "length", desc := "([B)I" } : Jvm.MethodName) jdk_52_method_6_code (1 : Nat) (Option.some Jvm.ClassFile.FieldType.int), Jvm.Cond.code ({ cls := "java/lang/AbstractStringBuilder", name := "inflate", desc := "()V" } : Jvm.MethodName) jdk_68_method_11_code (2 : Nat) (Option.none : Option Jvm.ClassFile.FieldType), Jvm.Cond.code ({ cls := "java/lang/StringLatin1", name := "inflate", desc := "([BI[BII)V" } : Jvm.MethodName) jdk_43_method_50_code (5 : Nat) (Option.none : Option Jvm.ClassFile.FieldType), Jvm.Cond.code ({ cls := "java/lang/StringUTF16", name := "inflate", desc := "([BI[BII)V" } : Jvm.MethodName) jdk_52_method_86_code (6 : Nat) (Option.none : Option Jvm.ClassFile.FieldType), Jvm.Cond.code ({ cls := "java/lang/StringUTF16", name := "checkBoundsOffCount", desc := "(II[B)V" } : Jvm.MethodName) jdk_52_method_94_code (3 : Nat) (Option.none : Option Jvm.ClassFile.FieldType), Jvm.Cond.code ({ cls := "java/lang/String", name := "checkBoundsOffCount", desc := "(III)I" } : Jvm.MethodName) jdk_42_method_157_code (3 : Nat) (Option.some Jvm.ClassFile.FieldType.int), Jvm.Cond.code ({ cls := "jdk/internal/util/Preconditions", name := "checkFromIndexSize", desc := "(IIILjava/util/function/BiFunction;)I" } : Jvm.MethodName) jdk_41_method_13_code (4 : Nat) (Option.some Jvm.ClassFile.FieldType.int), Jvm.Cond.code ({ cls := "java/lang/StringUTF16", name := "putCharSB", desc := "([BII)V" } : Jvm.MethodName) jdk_52_method_71_code (3 : Nat) (Option.none : Option Jvm.ClassFile.FieldType), Jvm.Cond.code ({ cls := "java/util/Arrays", name := "copyOfRangeByte", desc := "([BII)[B" } : Jvm.MethodName) jdk_65_method_133_code (5 : Nat) (Option.some (Jvm.ClassFile.FieldType.array Jvm.ClassFile.FieldType.byte)), Jvm.Cond.code ({ cls := "java/util/Arrays", name := "checkLength", desc := "(II)V" } : Jvm.MethodName) jdk_65_method_131_code (2 : Nat) (Option.none : Option Jvm.ClassFile.FieldType)]
set_option maxRecDepth 65536 in
theorem codes_eq : words1.filter isCode = codes1 := rfl
theorem w_codes : ∀ c ∈ words1.filter isCode, c.before args0 about1 = true := by
  rw [codes_eq]
  intro c hc
  simp only [codes1, List.mem_cons, List.not_mem_nil, or_false] at hc
  rcases hc with rfl | rfl | rfl | rfl | rfl | rfl | rfl | rfl | rfl | rfl | rfl | rfl | rfl | rfl | rfl | rfl | rfl | rfl | rfl | rfl | rfl | rfl | rfl | rfl | rfl | rfl | rfl | rfl | rfl | rfl | rfl | rfl | rfl | rfl | rfl | rfl | rfl | rfl | rfl | rfl | rfl | rfl | rfl | rfl | rfl | rfl | rfl | rfl | rfl | rfl | rfl | rfl | rfl | rfl | rfl | rfl | rfl | rfl | rfl | rfl | rfl | rfl | rfl | rfl | rfl | rfl | rfl | rfl
  · exact w_c0
  · exact w_c1
  · exact w_c2
  · exact w_c3
  · exact w_c4
  · exact w_c5
  · exact w_c6
  · exact w_c7
  · exact w_c8
  · exact w_c9
  · exact w_c10
  · exact w_c11
  · exact w_c12
  · exact w_c13
  · exact w_c14
  · exact w_c15
  · exact w_c16
  · exact w_c17
  · exact w_c18
  · exact w_c19
  · exact w_c20
  · exact w_c21
  · exact w_c22
  · exact w_c23
  · exact w_c24
  · exact w_c25
  · exact w_c26
  · exact w_c27
  · exact w_c28
  · exact w_c29
  · exact w_c30
  · exact w_c31
  · exact w_c32
  · exact w_c33
  · exact w_c34
  · exact w_c35
  · exact w_c36
  · exact w_c37
  · exact w_c38
  · exact w_c39
  · exact w_c40
  · exact w_c41
  · exact w_c42
  · exact w_c43
  · exact w_c44
  · exact w_c45
  · exact w_c46
  · exact w_c47
  · exact w_c48
  · exact w_c49
  · exact w_c50
  · exact w_c51
  · exact w_c52
  · exact w_c53
  · exact w_c54
  · exact w_c55
  · exact w_c56
  · exact w_c57
  · exact w_c58
  · exact w_c59
  · exact w_c60
  · exact w_c61
  · exact w_c62
  · exact w_c63
  · exact w_c64
  · exact w_c65
  · exact w_c66
  · exact w_c67
set_option maxRecDepth 65536 in
theorem w_t1 : (words1.take 24).all (fun c => isCode c || c.before args0 about1) = true := by decide +kernel
set_option maxRecDepth 65536 in
theorem w_t2 : ((words1.drop 24).take 24).all (fun c => isCode c || c.before args0 about1) = true := by decide +kernel
set_option maxRecDepth 65536 in
theorem w_t3 : (((words1.drop 24).drop 24).take 24).all (fun c => isCode c || c.before args0 about1) = true := by decide +kernel
set_option maxRecDepth 65536 in
theorem w_t4 : ((((words1.drop 24).drop 24).drop 24).take 24).all (fun c => isCode c || c.before args0 about1) = true := by decide +kernel
set_option maxRecDepth 65536 in
theorem w_t5 : (((((words1.drop 24).drop 24).drop 24).drop 24).take 24).all (fun c => isCode c || c.before args0 about1) = true := by decide +kernel
set_option maxRecDepth 65536 in
theorem w_t6 : ((((((words1.drop 24).drop 24).drop 24).drop 24).drop 24).take 24).all (fun c => isCode c || c.before args0 about1) = true := by decide +kernel
set_option maxRecDepth 65536 in
theorem w_t7 : (((((((words1.drop 24).drop 24).drop 24).drop 24).drop 24).drop 24).take 24).all (fun c => isCode c || c.before args0 about1) = true := by decide +kernel
set_option maxRecDepth 65536 in
theorem w_t8 : ((((((((words1.drop 24).drop 24).drop 24).drop 24).drop 24).drop 24).drop 24).take 24).all (fun c => isCode c || c.before args0 about1) = true := by decide +kernel
set_option maxRecDepth 65536 in
theorem w_t9 : (((((((((words1.drop 24).drop 24).drop 24).drop 24).drop 24).drop 24).drop 24).drop 24).take 24).all (fun c => isCode c || c.before args0 about1) = true := by decide +kernel
set_option maxRecDepth 65536 in
theorem w_t10 : ((((((((((words1.drop 24).drop 24).drop 24).drop 24).drop 24).drop 24).drop 24).drop 24).drop 24).take 24).all (fun c => isCode c || c.before args0 about1) = true := by decide +kernel
set_option maxRecDepth 65536 in
theorem w_t11 : (((((((((((words1.drop 24).drop 24).drop 24).drop 24).drop 24).drop 24).drop 24).drop 24).drop 24).drop 24).take 24).all (fun c => isCode c || c.before args0 about1) = true := by decide +kernel
set_option maxRecDepth 65536 in
theorem w_t12 : ((((((((((((words1.drop 24).drop 24).drop 24).drop 24).drop 24).drop 24).drop 24).drop 24).drop 24).drop 24).drop 24).take 24).all (fun c => isCode c || c.before args0 about1) = true := by decide +kernel
set_option maxRecDepth 65536 in
theorem w_t13 : (((((((((((((words1.drop 24).drop 24).drop 24).drop 24).drop 24).drop 24).drop 24).drop 24).drop 24).drop 24).drop 24).drop 24).take 24).all (fun c => isCode c || c.before args0 about1) = true := by decide +kernel
set_option maxRecDepth 65536 in
theorem w_t14 : (((((((((((((words1.drop 24).drop 24).drop 24).drop 24).drop 24).drop 24).drop 24).drop 24).drop 24).drop 24).drop 24).drop 24).drop 24).all (fun c => isCode c || c.before args0 about1) = true := by decide +kernel
theorem w_tables : (allAtoms (Jvm.Cond.code x code maxLocals ret :: tables_1)).before args0 about1 = true := by
  rw [allAtoms_all]
  show words1.all (fun c => c.before args0 about1) = true
  refine all_split ?_ w_codes
  rw [← List.take_append_drop 24 words1, List.all_append, w_t1, ← List.take_append_drop 24 (words1.drop 24), List.all_append, w_t2, ← List.take_append_drop 24 ((words1.drop 24).drop 24), List.all_append, w_t3, ← List.take_append_drop 24 (((words1.drop 24).drop 24).drop 24), List.all_append, w_t4, ← List.take_append_drop 24 ((((words1.drop 24).drop 24).drop 24).drop 24), List.all_append, w_t5, ← List.take_append_drop 24 (((((words1.drop 24).drop 24).drop 24).drop 24).drop 24), List.all_append, w_t6, ← List.take_append_drop 24 ((((((words1.drop 24).drop 24).drop 24).drop 24).drop 24).drop 24), List.all_append, w_t7, ← List.take_append_drop 24 (((((((words1.drop 24).drop 24).drop 24).drop 24).drop 24).drop 24).drop 24), List.all_append, w_t8, ← List.take_append_drop 24 ((((((((words1.drop 24).drop 24).drop 24).drop 24).drop 24).drop 24).drop 24).drop 24), List.all_append, w_t9, ← List.take_append_drop 24 (((((((((words1.drop 24).drop 24).drop 24).drop 24).drop 24).drop 24).drop 24).drop 24).drop 24), List.all_append, w_t10, ← List.take_append_drop 24 ((((((((((words1.drop 24).drop 24).drop 24).drop 24).drop 24).drop 24).drop 24).drop 24).drop 24).drop 24), List.all_append, w_t11, ← List.take_append_drop 24 (((((((((((words1.drop 24).drop 24).drop 24).drop 24).drop 24).drop 24).drop 24).drop 24).drop 24).drop 24).drop 24), List.all_append, w_t12, ← List.take_append_drop 24 ((((((((((((words1.drop 24).drop 24).drop 24).drop 24).drop 24).drop 24).drop 24).drop 24).drop 24).drop 24).drop 24).drop 24), List.all_append, w_t13, w_t14]
  rfl
set_option maxRecDepth 65536 in
theorem w_rest : rest_1_c.before args0 about1 = true := by decide +kernel
set_option maxRecDepth 65536 in
theorem w_case : (Jvm.Cond.and given_1 narrow_1).before args0 about1 = true := by decide +kernel
set_option maxRecDepth 65536 in
theorem w_consts : constsHeld consts_1 about1 := Jvm.Lit.constsHeldB_iff.mp (by decide +kernel)
theorem w_applies : (headSpec (Jvm.Cond.code x code maxLocals ret :: tables_1) room_1).applies x e0.platform about1 = true :=
  (Spec.applies_iff w_frames).mpr ⟨w_running, w_runnable, w_alone, w_named, w_hears, w_ripe, w_room, w_tables⟩
theorem atStart : AtStart classFile x code maxLocals ret World_1 tables_1 room_1 Calls_1 rest_1 Pre_1 launch0 p0 e0 about1 theMethod args0 below0 :=
  ⟨lists_1, trivial, launch0.admits_env _ _ _, launch0.least_env, fairChoices_fair.cas, fairChoices_fair.clock, w_frames, w_args, w_heap, w_applies, ⟨w_consts, trivial⟩, w_rest, w_case⟩
end start1
theorem witness_1 : WitnessClaimed_1 := ⟨start1.p0, start1.e0, start1.about1, start1.theMethod, start1.args0, start1.below0, start1.atStart⟩
end Jvm.Pilot.@@N@@
